import JvmDerived
import JvmDerived.Pilot.@@N@@Statement
import JvmDerived.Pilot.@@N@@Code
set_option linter.unusedVariables false
set_option linter.unusedSimpArgs false
set_option maxRecDepth 65536
set_option maxHeartbeats 40000000
@@BLOCK:NumsL.lean.txt@@
namespace Jvm.Pilot.@@N@@
open Jvm Jvm.ClassFile Sem Op Lib Jvm.Free Jvm.Stand Jvm.LawKit Jvm.RoadKit Bundle Jvm.Pilot.@@N@@.Jvm.D
/-- from T the run comes to an end of which P speaks -/
def Go (p : Program) (e : Env) (below : List Frame) (P : Outcome → State → Prop) (T : State) : Prop := ∃ s₂ o, Steps p.tables e below T s₂ ∧ s₂.status = .running ∧ Ended s₂ below o ∧ P o s₂
theorem Go.via {p : Program} {e : Env} {below : List Frame} {P : Outcome → State → Prop} {T T' : State} (h : ∀ t, Steps p.tables e below T' t → Steps p.tables e below T t) (g : Go p e below P T') : Go p e below P T := by
  obtain ⟨s₂, o, a, b⟩ := g
  exact ⟨s₂, o, h _ a, b⟩
theorem Go.into {p : Program} {e : Env} {below : List Frame} {P : Outcome → State → Prop} {T : State} {g g' : JFrame} (q : g = g') (h : Go p e below P (T.setTop g')) : ∃ s₂ o, Steps p.tables e below (T.setTop g) s₂ ∧ s₂.status = .running ∧ Ended s₂ below o ∧ P o s₂ := by
  subst q; exact h
theorem Vi {p : Program} {e : Env} {below : List Frame} {P : Outcome → State → Prop} {T : State} (T' : State) (h : ∀ t, Steps p.tables e below T' t → Steps p.tables e below T t) (g : Go p e below P T') : Go p e below P T := Go.via h g
section Ret
variable {p : Program} {l : Launch} {e : Env} {R : Room} {s : State} {m : MethodId} {args : Array Value} {below : List Frame} {meth : Method} {c : Code} {T : State} {locs : List Loc} {cells slots K N : Nat}
theorem Go.fin (X : Stand p l e R s m args below meth c T locs cells slots) (hlk : meth.locks = false) {v : Option Value} (hv : meth.sig.returnType = none → v = none) {Q : Option Value → Heap → List Loc → Prop} {g : JFrame}
    (st : ∀ fs, (∀ (f : JFrame) (acts : List Action), f.method = m → f.locked = none → f.entered = [] → (doReturn e (T.setTop f) acts v).1 = T.setFrames fs) → Steps p.tables e below (T.setTop g) (T.setFrames fs))
    (hk : cells ≤ K) (hn : slots ≤ N) (hq : Q v T.heap locs) : Go p e below (fun o u => ∃ v L, o = .returned v ∧ Q v u.heap L ∧ FrameEnd s o u L K N) (T.setTop g) := by
  obtain ⟨fs, hr, hrun, hended, hW, hsame⟩ := X.leave (v := v) hv
  exact ⟨_, _, st fs hr, hrun, hended, _, _, rfl, hq, ⟨_, rfl⟩, hW, hsame.mono hk hn⟩
theorem Go.retI (X : Stand p l e R s m args below meth c T locs cells slots) (hx : p.tables.exec = Jvm.exec) (hlk : meth.locks = false) {Q : Option Value → Heap → List Loc → Prop} {pc : Nat} {Ls : Array Slot} {z : Int32} {rest : List Value} (hret : meth.sig.returnType = some .int) (hd : decode c.code pc = .ok (.ireturn, 1))
    (hk : cells ≤ K) (hn : slots ≤ N) (hq : Q (some (.int z)) T.heap locs) : Go p e below (fun o u => ∃ v L, o = .returned v ∧ Q v u.heap L ∧ FrameEnd s o u L K N) (T.setTop (mkF m pc Ls (.int z :: rest))) :=
  Go.fin X hlk (v := some (.int z)) (fun h => by rw [hret] at h; cases h) (fun fs hr => retOut X hx hret rfl (Or.inl ⟨rfl, Or.inl rfl, _, rfl⟩) hd hr) hk hn hq
theorem Go.retN (X : Stand p l e R s m args below meth c T locs cells slots) (hx : p.tables.exec = Jvm.exec) (hlk : meth.locks = false) {Q : Option Value → Heap → List Loc → Prop} {pc : Nat} {Ls : Array Slot} {z : Int32} {rest : List Value} {t : FieldType} (hret : meth.sig.returnType = some t) (ht : t = .boolean ∨ t = .byte ∨ t = .char ∨ t = .short) (hd : decode c.code pc = .ok (.ireturn, 1))
    (hk : cells ≤ K) (hn : slots ≤ N) (hq : Q (some (.int (nar t z))) T.heap locs) : Go p e below (fun o u => ∃ v L, o = .returned v ∧ Q v u.heap L ∧ FrameEnd s o u L K N) (T.setTop (mkF m pc Ls (.int z :: rest))) :=
  Go.fin X hlk (v := some (.int (nar t z))) (fun h => by rw [hret] at h; cases h) (fun fs hr => Jvm.RoadKit.retN X hx hret ht hd hr) hk hn hq
theorem Go.retJ (X : Stand p l e R s m args below meth c T locs cells slots) (hx : p.tables.exec = Jvm.exec) (hlk : meth.locks = false) {Q : Option Value → Heap → List Loc → Prop} {pc : Nat} {Ls : Array Slot} {z : Int64} {rest : List Value} (hret : meth.sig.returnType = some .long) (hd : decode c.code pc = .ok (.lreturn, 1))
    (hk : cells ≤ K) (hn : slots ≤ N) (hq : Q (some (.long z)) T.heap locs) : Go p e below (fun o u => ∃ v L, o = .returned v ∧ Q v u.heap L ∧ FrameEnd s o u L K N) (T.setTop (mkF m pc Ls (.long z :: rest))) :=
  Go.fin X hlk (v := some (.long z)) (fun h => by rw [hret] at h; cases h) (fun fs hr => retOut X hx hret rfl (Or.inr (Or.inl ⟨rfl, rfl, _, rfl⟩)) hd hr) hk hn hq
theorem Go.retR (X : Stand p l e R s m args below meth c T locs cells slots) (hx : p.tables.exec = Jvm.exec) (hlk : meth.locks = false) {Q : Option Value → Heap → List Loc → Prop} {pc : Nat} {Ls : Array Slot} {w : Value} {rest : List Value} {t : FieldType} (hret : meth.sig.returnType = some t) (ht : t.isReference = true) (hw : w.isRef = true) (hd : decode c.code pc = .ok (.areturn, 1))
    (hk : cells ≤ K) (hn : slots ≤ N) (hq : Q (some w) T.heap locs) : Go p e below (fun o u => ∃ v L, o = .returned v ∧ Q v u.heap L ∧ FrameEnd s o u L K N) (T.setTop (mkF m pc Ls (w :: rest))) :=
  Go.fin X hlk (v := some w) (fun h => by rw [hret] at h; cases h) (fun fs hr => retOut X hx hret (by rcases ref_cases hw with rfl | ⟨z, rfl⟩ <;> cases t <;> rfl) (Or.inr (Or.inr (Or.inr (Or.inr ⟨rfl, ht, hw⟩)))) hd hr) hk hn hq
theorem Go.retV (X : Stand p l e R s m args below meth c T locs cells slots) (hx : p.tables.exec = Jvm.exec) (hlk : meth.locks = false) {Q : Option Value → Heap → List Loc → Prop} {pc : Nat} {Ls : Array Slot} (hret : meth.sig.returnType = none) (hd : decode c.code pc = .ok (.return_, 1))
    (hk : cells ≤ K) (hn : slots ≤ N) (hq : Q none T.heap locs) : Go p e below (fun o u => ∃ v L, o = .returned v ∧ Q v u.heap L ∧ FrameEnd s o u L K N) (T.setTop (mkF m pc Ls [])) :=
  Go.fin X hlk (v := none) (fun _ => rfl) (fun fs hr => X.returnOut hx hret hd hr) hk hn hq
theorem Go.retNW {vm₁ : Vm} (X : Stand p l e R (s.setVm vm₁) m args below meth c T locs cells slots) (hx : p.tables.exec = Jvm.exec) {n : Nat} (hS : s.Since vm₁ n) (hnn : n ≤ T.heap.size) (hlk : meth.locks = false) {Q : Option Value → Heap → List Loc → Prop} {pc : Nat} {Ls : Array Slot} {z : Int32} {rest : List Value} {t : FieldType} (hret : meth.sig.returnType = some t) (ht : t = .boolean ∨ t = .byte ∨ t = .char ∨ t = .short) (hd : decode c.code pc = .ok (.ireturn, 1))
    (hk : cells ≤ K) (hn : slots ≤ N) (hq : Q (some (.int (nar t z))) T.heap locs) : Go p e below (fun o u => ∃ v L, o = .returned v ∧ Q v u.heap L ∧ ReturnedEndW s o u L K N) (T.setTop (mkF m pc Ls (.int z :: rest))) := by
  obtain ⟨fs, hr, hrun, hended, h1, h2, h3, h4⟩ := X.leaveW hS hnn (v := some (.int (nar t z))) (fun h => by rw [hret] at h; cases h) hlk
  exact ⟨_, _, Jvm.RoadKit.retN X hx hret ht hd hr, hrun, hended, _, _, rfl, hq, h1, h2, h3, h4.mono hk hn⟩
end Ret
theorem leW {a b : Nat} (h : a = b) : a ≤ b := Nat.le_of_eq h
abbrev sI (x : Int32) : Slot := .val (.int x)
abbrev sR (a : Addr) : Slot := .val (.ref a)
abbrev y1 : MethodName := ⟨"com/example/bindery/bindery/compiler/JavaTypeSimpleNamePinLaw", "pick", "(III)C"⟩
abbrev B1 := method_2_code
abbrev y2 : MethodName := ⟨"java/lang/String", "<init>", "([C)V"⟩
abbrev B2 := jdk_42_method_3_code
abbrev y3 : MethodName := ⟨"java/lang/String", "<init>", "([CIILjava/lang/Void;)V"⟩
abbrev B3 := jdk_42_method_149_code
abbrev y4 : MethodName := ⟨"java/lang/Object", "<init>", "()V"⟩
abbrev B4 := object_method_1_code
abbrev y5 : MethodName := ⟨"com/example/bindery/bindery/compiler/JavaType", "<init>", "(Ljava/lang/String;Ljava/lang/String;)V"⟩
abbrev B5 := prog_5_method_1_code
abbrev y6 : MethodName := ⟨"java/util/Optional", "empty", "()Ljava/util/Optional;"⟩
abbrev B6 := jdk_32_method_1_code
abbrev y7 : MethodName := ⟨"com/example/bindery/bindery/compiler/JavaType", "<init>", "(Ljava/lang/String;Ljava/lang/String;Ljava/util/Optional;)V"⟩
abbrev B7 := prog_5_method_2_code
abbrev y8 : MethodName := ⟨"java/lang/Record", "<init>", "()V"⟩
abbrev B8 := jdk_30_method_1_code
abbrev y9 : MethodName := ⟨"com/example/bindery/bindery/compiler/JavaType", "simpleName", "()Ljava/lang/String;"⟩
abbrev B9 := prog_5_method_8_code
abbrev y10 : MethodName := ⟨"java/lang/String", "lastIndexOf", "(I)I"⟩
abbrev B10 := jdk_42_method_82_code
abbrev y11 : MethodName := ⟨"java/lang/String", "length", "()I"⟩
abbrev B11 := jdk_42_method_54_code
abbrev y12 : MethodName := ⟨"java/lang/String", "coder", "()B"⟩
abbrev B12 := jdk_42_method_152_code
abbrev y13 : MethodName := ⟨"java/lang/String", "lastIndexOf", "(II)I"⟩
abbrev B13 := jdk_42_method_83_code
abbrev y14 : MethodName := ⟨"java/lang/String", "isLatin1", "()Z"⟩
abbrev B14 := jdk_42_method_154_code
abbrev y15 : MethodName := ⟨"java/lang/StringLatin1", "lastIndexOf", "([BII)I"⟩
abbrev B15 := jdk_43_method_27_code
abbrev y16 : MethodName := ⟨"java/lang/StringLatin1", "canEncode", "(I)Z"⟩
abbrev B16 := jdk_43_method_4_code
abbrev y17 : MethodName := ⟨"java/lang/Math", "min", "(II)I"⟩
abbrev B17 := jdk_29_method_69_code
abbrev y18 : MethodName := ⟨"java/lang/String", "substring", "(I)Ljava/lang/String;"⟩
abbrev B18 := jdk_42_method_91_code
abbrev y19 : MethodName := ⟨"java/lang/String", "substring", "(II)Ljava/lang/String;"⟩
abbrev B19 := jdk_42_method_92_code
abbrev y20 : MethodName := ⟨"java/lang/String", "checkBoundsBeginEnd", "(III)V"⟩
abbrev B20 := jdk_42_method_158_code
abbrev y21 : MethodName := ⟨"jdk/internal/util/Preconditions", "checkFromToIndex", "(IIILjava/util/function/BiFunction;)I"⟩
abbrev B21 := jdk_41_method_12_code
abbrev y22 : MethodName := ⟨"java/lang/StringUTF16", "compress", "([CII)[B"⟩
abbrev B22 := jdk_52_method_16_code
abbrev y23 : MethodName := ⟨"java/lang/StringUTF16", "compress", "([CI[BII)I"⟩
abbrev B23 := jdk_52_method_21_code
abbrev y24 : MethodName := ⟨"java/lang/StringUTF16", "coderFromArrayLen", "([BI)B"⟩
abbrev B24 := jdk_52_method_15_code
abbrev y25 : MethodName := ⟨"java/lang/StringLatin1", "newString", "([BII)Ljava/lang/String;"⟩
abbrev B25 := jdk_43_method_47_code
abbrev y26 : MethodName := ⟨"java/util/Arrays", "copyOfRange", "([BII)[B"⟩
abbrev B26 := jdk_65_method_132_code
abbrev y27 : MethodName := ⟨"java/util/Arrays", "copyOfRangeByte", "([BII)[B"⟩
abbrev B27 := jdk_65_method_133_code
abbrev y28 : MethodName := ⟨"java/util/Arrays", "checkLength", "(II)V"⟩
abbrev B28 := jdk_65_method_131_code
abbrev y29 : MethodName := ⟨"java/lang/String", "<init>", "([BB)V"⟩
abbrev B29 := jdk_42_method_151_code
abbrev y30 : MethodName := ⟨"java/lang/String", "charAt", "(I)C"⟩
abbrev B30 := jdk_42_method_56_code
abbrev y31 : MethodName := ⟨"java/lang/StringLatin1", "charAt", "([BI)C"⟩
abbrev B31 := jdk_43_method_2_code
abbrev y32 : MethodName := ⟨"java/lang/String", "checkIndex", "(II)V"⟩
abbrev B32 := jdk_42_method_155_code
abbrev y33 : MethodName := ⟨"jdk/internal/util/Preconditions", "checkIndex", "(IILjava/util/function/BiFunction;)I"⟩
abbrev B33 := jdk_41_method_11_code
theorem wq {a0 : Array Value} {Z : State} (hw : ∀ d ∈ tables_1, d.before a0 Z = true) (i : Nat) {d : Jvm.Cond} (h : tables_1[i]? = some d) : d.before a0 Z = true := hw d (List.mem_of_getElem? h)
theorem own_eqi {t : Term} {n : Int32} {args : Array Value} {s : State} (h : (Cond.eq t (.int n)).value args s none s [] = some true) : t.eval args s none [] s = some (.int n) := by
  obtain ⟨x, y, h1, h2, k, -⟩ := cmp_v (Or.inl h)
  cases (show some y = some (Value.int n) from h2.symm)
  cases x with
  | int z => rw [h1]; congr 2; have q := h; simp [Cond.value, h1, Term.eval] at q; exact q
  | _ => simp [Kin, Value.isRef] at k
theorem own_ns1 {h : Heap} {a : Addr} {ws : List Addr} (q : ∀ cell : Cell, h[a]? = some cell → cell.vm.isStatics = false) (r : ∀ (x : Addr) (c : Cell), h[x]? = some c → c.vm.isStatics = true → x ∉ ws) : ∀ (x : Addr) (c : Cell), h[x]? = some c → c.vm.isStatics = true → x ∉ a :: ws := fun x c hx hc => ninS (fun e => by subst e; rw [q c hx] at hc; cases hc) (r x c hx hc)
theorem own_sk {Z : State} {h h' : Heap} {C n d : String} {v : Value} {ws : List Addr} (F : Sta Z h C n d v) (K : Keep h h' ws) (q : ∀ (x : Addr) (c : Cell), h[x]? = some c → c.vm.isStatics = true → x ∉ ws) : Sta Z h' C n d v := by
  obtain ⟨cf, i, k, f, st, cell, h1, h2, h3, h4, h5, h6, h7⟩ := F
  exact ⟨cf, i, k, f, st, cell, h1, h2, h3, h4, K.2.1 _ _ h5 (q _ _ h5 h6), h6, h7⟩

/-- an array of n places; place k holds g k -/
def AV (Z : State) (h : Heap) (a : Addr) (ty : FieldType) (n : Nat) (g : Nat → Value) : Prop := n < 2 ^ 31 ∧ ∃ c : Cell, Arr Z h a c ty ∧ c.slots.size = n ∧ ∀ k, k < n → c.slots[k]? = some (g k)
def up {α : Type} (f : Nat → α) (i : Nat) (v : α) : Nat → α := fun k => if k = i then v else f k
section AVs
variable {p : Program} {l : Launch} {e : Env} {R : Room} {s : State} {m : MethodId} {args : Array Value} {below : List Frame} {meth : Method} {c : Code} {T : State} {locs : List Loc} {cells slots : Nat}
variable {Z : State} {h h' : Heap} {a b : Addr} {ty : FieldType} {n : Nat} {g g' : Nat → Value} {sl : Nat} {v : Value} {ws : List Addr} {j : Int32}
theorem AV.lt (F : AV Z h a ty n g) : a < h.size := by obtain ⟨_, c, A, -⟩ := F; exact A.lt
theorem AV.ext (F : AV Z h a ty n g) (E : Ext h h') : AV Z h' a ty n g := by obtain ⟨q, c, A, r⟩ := F; exact ⟨q, c, A.ext E, r⟩
theorem AV.other (F : AV Z h b ty n g) (W : Wr h h' a sl v) (q : b ≠ a) : AV Z h' b ty n g := by obtain ⟨q', c, A, r⟩ := F; exact ⟨q', c, A.other W q, r⟩
theorem AV.keep (F : AV Z h a ty n g) (K : Keep h h' ws) (q : a ∉ ws) : AV Z h' a ty n g := by obtain ⟨q', c, A, r⟩ := F; exact ⟨q', c, ⟨K.2.1 a c A.1 q, A.2⟩, r⟩
theorem AV.congr (F : AV Z h a ty n g) (q : ∀ k, k < n → g k = g' k) : AV Z h a ty n g' := by obtain ⟨q', c, A, r1, r2⟩ := F; exact ⟨q', c, A, r1, fun k hk => by rw [← q k hk]; exact r2 k hk⟩
theorem AV.set (F : AV Z h a ty n g) (W : Wr h h' a sl v) : AV Z h' a ty n (up g sl v) := by
  obtain ⟨q', c, A, r1, r2⟩ := F
  refine ⟨q', _, A.same W, by rw [sz_set]; exact r1, fun k hk => ?_⟩
  by_cases u : k = sl
  · subst u; simp [Cell.setSlot, up, r1, hk]
  · simp only [Cell.setSlot, up, if_neg u]; rw [Array.getElem?_setIfInBounds_ne (Ne.symm u)]; exact r2 k hk
theorem AV.new {k : ClassId} {z : Int32} (A : Arr Z h a (newA k ty z) ty) : AV Z h a ty z.toNatClampNeg (fun _ => defaultValue ty) := by
  refine ⟨by have := Int32.toInt_lt z; simp only [Int32.toNatClampNeg]; omega, _, A, sz_new _ _ _, fun i hi => by simp [newA, hi]⟩
theorem AV.inb {cl : Cell} (hs : cl.slots.size = n) (hj : ¬ j < 0 ∧ j.toNatClampNeg < n) : ¬ (j < 0 ∨ cl.slots.size ≤ j.toNatClampNeg) := fun q => q.elim hj.1 fun q => by rw [hs] at q; exact absurd hj.2 (Nat.not_lt.mpr q)
theorem AV.len (F : AV Z h a ty n g) (X : Stand p l e R s m args below meth c T locs cells slots) (hx : p.tables.exec = Jvm.exec) (hZ : Z.Warmed39 s.vm) (eT : T.heap = h) {pc : Nat} {Ls : Array Slot} {rest : List Value} (hd : decode c.code pc = .ok (.arraylength, 1)) {t : State}
    (k : Steps p.tables e below (T.setTop (mkF m (pc + 1) Ls (.int (Int32.ofNat n) :: rest))) t) : Steps p.tables e below (T.setTop (mkF m pc Ls (.ref a :: rest))) t := by
  obtain ⟨q', cl, A, r1, r2⟩ := F
  subst r1
  exact X.arraylength hx (by rw [eT]; exact A.1) (State.isArrayOf_alike hZ.alike A.2.1) (g := mkF m pc Ls (.ref a :: rest)) rfl rfl hd _ k
theorem AV.iaload {f : Nat → Int32} (F : AV Z h a .int n (fun k => .int (f k))) (X : Stand p l e R s m args below meth c T locs cells slots) (hx : p.tables.exec = Jvm.exec) (hZ : Z.Warmed39 s.vm) (eT : T.heap = h) (hj : ¬ j < 0 ∧ j.toNatClampNeg < n) {pc : Nat} {Ls : Array Slot} {rest : List Value} (hd : decode c.code pc = .ok (.iaload, 1)) {t : State}
    (k : Steps p.tables e below (T.setTop (mkF m (pc + 1) Ls (.int (f j.toNatClampNeg) :: rest))) t) : Steps p.tables e below (T.setTop (mkF m pc Ls (.int j :: .ref a :: rest))) t := by
  obtain ⟨q', cl, A, r1, r2⟩ := F
  exact X.iaload hx (j := j) (v := .int (f j.toNatClampNeg)) (by rw [eT]; exact A.1) (State.isArrayOf_alike hZ.alike A.2.1) A.2.2 (AV.inb r1 hj) (r2 _ hj.2) (g := mkF m pc Ls (.int j :: .ref a :: rest)) rfl rfl hd _ k
theorem AV.laload {f : Nat → Int64} (F : AV Z h a .long n (fun k => .long (f k))) (X : Stand p l e R s m args below meth c T locs cells slots) (hx : p.tables.exec = Jvm.exec) (hZ : Z.Warmed39 s.vm) (eT : T.heap = h) (hj : ¬ j < 0 ∧ j.toNatClampNeg < n) {pc : Nat} {Ls : Array Slot} {rest : List Value} (hd : decode c.code pc = .ok (.laload, 1)) {t : State}
    (k : Steps p.tables e below (T.setTop (mkF m (pc + 1) Ls (.long (f j.toNatClampNeg) :: rest))) t) : Steps p.tables e below (T.setTop (mkF m pc Ls (.int j :: .ref a :: rest))) t := by
  obtain ⟨q', cl, A, r1, r2⟩ := F
  exact X.laload hx (j := j) (v := .long (f j.toNatClampNeg)) (by rw [eT]; exact A.1) (State.isArrayOf_alike hZ.alike A.2.1) A.2.2 (AV.inb r1 hj) (r2 _ hj.2) (g := mkF m pc Ls (.int j :: .ref a :: rest)) rfl rfl hd _ k
theorem AV.aaload (F : AV Z h a ty n g) (hty : ty.isReference = true) (X : Stand p l e R s m args below meth c T locs cells slots) (hx : p.tables.exec = Jvm.exec) (hZ : Z.Warmed39 s.vm) (eT : T.heap = h) (hj : ¬ j < 0 ∧ j.toNatClampNeg < n) {pc : Nat} {Ls : Array Slot} {rest : List Value} (hd : decode c.code pc = .ok (.aaload, 1)) {t : State}
    (k : Steps p.tables e below (T.setTop (mkF m (pc + 1) Ls (g j.toNatClampNeg :: rest))) t) : Steps p.tables e below (T.setTop (mkF m pc Ls (.int j :: .ref a :: rest))) t := by
  obtain ⟨q', cl, A, r1, r2⟩ := F
  exact X.aaload hx (j := j) (v := g j.toNatClampNeg) (by rw [eT]; exact A.1) (State.isArrayOf_alike hZ.alike A.2.1) hty A.2.2 (AV.inb r1 hj) (r2 _ hj.2) (g := mkF m pc Ls (.int j :: .ref a :: rest)) rfl rfl hd _ k
theorem AV.iastore {f : Nat → Int32} {x : Int32} (F : AV Z h a .int n (fun k => .int (f k))) (X : Stand p l e R s m args below meth c T locs cells slots) (hx : p.tables.exec = Jvm.exec) (hZ : Z.Warmed39 s.vm) (eT : T.heap = h) (hj : ¬ j < 0 ∧ j.toNatClampNeg < n) {pc : Nat} {Ls : Array Slot} {rest : List Value} (hd : decode c.code pc = .ok (.iastore, 1)) :
    ∃ T' h', Stand p l e R s m args below meth c T' (locs ++ [⟨a, j.toNatClampNeg⟩]) cells slots ∧ T'.heap = h' ∧ Wr h h' a j.toNatClampNeg (.int x) ∧ AV Z h' a .int n (fun k => .int (up f j.toNatClampNeg x k)) ∧
      ∀ t, Steps p.tables e below (T'.setTop (mkF m (pc + 1) Ls rest)) t → Steps p.tables e below (T.setTop (mkF m pc Ls (.int x :: .int j :: .ref a :: rest))) t := by
  have F0 := F
  obtain ⟨q', cl, A, r1, r2⟩ := F
  obtain ⟨T', h', X', e', W, st⟩ := stI X hx hZ eT A (j := j) (AV.inb r1 hj) (g := mkF m pc Ls (.int x :: .int j :: .ref a :: rest)) rfl rfl hd
  exact ⟨T', h', X', e', W, (F0.set W).congr (fun k _ => by unfold up; split <;> rfl), st⟩
theorem AV.lastore {f : Nat → Int64} {x : Int64} (F : AV Z h a .long n (fun k => .long (f k))) (X : Stand p l e R s m args below meth c T locs cells slots) (hx : p.tables.exec = Jvm.exec) (hZ : Z.Warmed39 s.vm) (eT : T.heap = h) (hj : ¬ j < 0 ∧ j.toNatClampNeg < n) {pc : Nat} {Ls : Array Slot} {rest : List Value} (hd : decode c.code pc = .ok (.lastore, 1)) :
    ∃ T' h', Stand p l e R s m args below meth c T' (locs ++ [⟨a, j.toNatClampNeg⟩]) cells slots ∧ T'.heap = h' ∧ Wr h h' a j.toNatClampNeg (.long x) ∧ AV Z h' a .long n (fun k => .long (up f j.toNatClampNeg x k)) ∧
      ∀ t, Steps p.tables e below (T'.setTop (mkF m (pc + 1) Ls rest)) t → Steps p.tables e below (T.setTop (mkF m pc Ls (.long x :: .int j :: .ref a :: rest))) t := by
  have F0 := F
  obtain ⟨q', cl, A, r1, r2⟩ := F
  obtain ⟨T', h', X', e', W, st⟩ := stJ X hx hZ eT A (j := j) (AV.inb r1 hj) (g := mkF m pc Ls (.long x :: .int j :: .ref a :: rest)) rfl rfl hd
  exact ⟨T', h', X', e', W, (F0.set W).congr (fun k _ => by unfold up; split <;> rfl), st⟩
theorem AV.bastoreZ {f : Nat → Int32} {x : Int32} (F : AV Z h a .boolean n (fun k => .int (f k))) (X : Stand p l e R s m args below meth c T locs cells slots) (hx : p.tables.exec = Jvm.exec) (hZ : Z.Warmed39 s.vm) (eT : T.heap = h) (hj : ¬ j < 0 ∧ j.toNatClampNeg < n) {pc : Nat} {Ls : Array Slot} {rest : List Value} (hd : decode c.code pc = .ok (.bastore, 1)) :
    ∃ T' h', Stand p l e R s m args below meth c T' (locs ++ [⟨a, j.toNatClampNeg⟩]) cells slots ∧ T'.heap = h' ∧ Wr h h' a j.toNatClampNeg (.int (nar .boolean x)) ∧ AV Z h' a .boolean n (fun k => .int (up f j.toNatClampNeg (nar .boolean x) k)) ∧
      ∀ t, Steps p.tables e below (T'.setTop (mkF m (pc + 1) Ls rest)) t → Steps p.tables e below (T.setTop (mkF m pc Ls (.int x :: .int j :: .ref a :: rest))) t := by
  have F0 := F
  obtain ⟨q', cl, A, r1, r2⟩ := F
  obtain ⟨T', h', X', e', W, st⟩ := stZ X hx hZ eT A (j := j) (AV.inb r1 hj) (g := mkF m pc Ls (.int x :: .int j :: .ref a :: rest)) rfl rfl hd
  exact ⟨T', h', X', e', W, (F0.set W).congr (fun k _ => by unfold up; split <;> rfl), st⟩
theorem AV.aastore (F : AV Z h a ty n g) (hty : ty.isReference = true) (S : Sto Z h a v) (X : Stand p l e R s m args below meth c T locs cells slots) (hx : p.tables.exec = Jvm.exec) (hZ : Z.Warmed39 s.vm) (eT : T.heap = h) (hj : ¬ j < 0 ∧ j.toNatClampNeg < n) {pc : Nat} {Ls : Array Slot} {rest : List Value} (hd : decode c.code pc = .ok (.aastore, 1)) :
    ∃ T' h', Stand p l e R s m args below meth c T' (locs ++ [⟨a, j.toNatClampNeg⟩]) cells slots ∧ T'.heap = h' ∧ Wr h h' a j.toNatClampNeg v ∧ AV Z h' a ty n (up g j.toNatClampNeg v) ∧
      ∀ t, Steps p.tables e below (T'.setTop (mkF m (pc + 1) Ls rest)) t → Steps p.tables e below (T.setTop (mkF m pc Ls (v :: .int j :: .ref a :: rest))) t := by
  have F0 := F
  obtain ⟨q', cl, A, r1, r2⟩ := F
  obtain ⟨T', h', X', e', W, st⟩ := stR X hx hZ eT A (j := j) (AV.inb r1 hj) hty S (g := mkF m pc Ls (v :: .int j :: .ref a :: rest)) rfl rfl hd
  exact ⟨T', h', X', e', W, F0.set W, st⟩
end AVs
/-- what may lie in an array of arrays -/
def OV (Z : State) (h : Heap) (a : Addr) (ty : FieldType) (C : String) : Prop := ∃ cl : Cell, h[a]? = some cl ∧ OvrA Z cl.cls ty C
section OVs
variable {Z : State} {h h' : Heap} {a b : Addr} {ty t0 : FieldType} {C : String} {n : Nat} {g : Nat → Value} {sl : Nat} {v : Value} {ws : List Addr}
theorem OV.ext (F : OV Z h a ty C) (E : Ext h h') : OV Z h' a ty C := by obtain ⟨cl, q, O⟩ := F; exact ⟨cl, E.2 _ _ q, O⟩
theorem OV.wr (F : OV Z h a ty C) (W : Wr h h' b sl v) : OV Z h' a ty C := by
  obtain ⟨cl, q, O⟩ := F; obtain ⟨c', e1, e2, -⟩ := wr_at W q; exact ⟨c', e1, by rw [e2]; exact O⟩
theorem OV.keep (F : OV Z h a ty C) (K : Keep h h' ws) : OV Z h' a ty C := by
  obtain ⟨cl, q, O⟩ := F; obtain ⟨c', e1, e2, -⟩ := K.2.2 _ _ q; exact ⟨c', e1, by rw [e2]; exact O⟩
theorem OV.sto (F : OV Z h a ty C) (A : AV Z h a t0 n g) (I : Ins Z h b C true) : Sto Z h a (.ref b) := by
  obtain ⟨cl, q, O⟩ := F; obtain ⟨-, c, A', -⟩ := A; cases q.symm.trans A'.1; exact Sto.ofVA A' rfl O I
end OVs
section AVc
variable {p : Program} {l : Launch} {e : Env} {R : Room} {s : State} {m : MethodId} {args : Array Value} {below : List Frame} {meth : Method} {c : Code} {T : State} {locs : List Loc} {cells slots : Nat}
variable {Z : State} {h : Heap} {a : Addr} {ty : FieldType} {n : Nat} {g0 : Nat → Value} {a0 : Array Value}
theorem AV.clone (F : AV Z h a ty n g0) (ht : ∀ k, k < n → fits ty (g0 k) = true) (X : Stand p l e R s m args below meth c T locs cells slots) (hx : p.tables.exec = Jvm.exec) (hZ : Z.Warmed39 s.vm) {own ad : String} {index : Nat} (hown : s.vm.findClass own = some m.cls)
    (w1 : (Cond.methodLink own index ⟨ad, "clone", "()Ljava/lang/Object;"⟩).before a0 Z = true) (w2 : (Cond.sameMethod ad "java/lang/Object" "clone" "()Ljava/lang/Object;").before a0 Z = true) (w3 : (Cond.native ⟨"java/lang/Object", "clone", "()Ljava/lang/Object;"⟩).before a0 Z = true)
    (w4 : (Cond.instanceMethod ⟨"java/lang/Object", "clone", "()Ljava/lang/Object;"⟩).before a0 Z = true) (w5 : (Cond.selects ad ⟨ad, "clone", "()Ljava/lang/Object;"⟩ ⟨"java/lang/Object", "clone", "()Ljava/lang/Object;"⟩).before a0 Z = true) (w6 : (Cond.castable ad "java/lang/Cloneable").before a0 Z = true)
    (eT : T.heap = h) (E : Exa Z h a ad) {g : JFrame} (hg : g.method = m) (hsize : g.locals.size = c.maxLocals) {rest : List Value} (hst : g.stack = .ref a :: rest) (hd : decode c.code g.pc = .ok (.invokevirtual index, 3))
    (hf : 1 ≤ R.frames) {W cap : Nat} (hW : 2 * g.monitorRoom + (rest.map fun v => v.category).sum ≤ W) (hl : W + 14 ≤ R.locals) (hcap : n ≤ cap) (hc : cells + 1 ≤ R.cells) (hsl : slots + cap ≤ R.slots) :
    ∃ T' h', Stand p l e R s m args below meth c T' locs (cells + 1) (slots + cap) ∧ T'.heap = h' ∧ Ext h h' ∧ AV Z h' h.size ty n g0 ∧ Exa Z h' h.size ad ∧
      ∀ target, Steps p.tables e below (T'.setTop { g with pc := g.pc + 3, stack := .ref h.size :: rest }) target → Steps p.tables e below (T.setTop g) target := by
  obtain ⟨q0, cl, A, S, H⟩ := F
  have FC : FitC Z cl := fitC_of A fun i hi v hv => by
    rw [S] at hi; rw [H i hi] at hv; cases hv; exact ht i hi
  obtain ⟨T', h', X', e', ex, A', E', st⟩ := cloneA X hx hZ hown w1 w2 w3 w4 w5 w6 eT A E FC hg hsize hst hd hf hW hl (by rw [S]; exact hcap) hc hsl
  exact ⟨T', h', X', e', ex, ⟨q0, cloneOf cl, A', S, H⟩, E', st⟩
end AVc

section AVb
variable {p : Program} {l : Launch} {e : Env} {R : Room} {s : State} {m : MethodId} {args : Array Value} {below : List Frame} {meth : Method} {c : Code} {T : State} {locs : List Loc} {cells slots : Nat}
variable {Z : State} {h : Heap} {a : Addr} {n : Nat} {j : Int32}
theorem AV.baload {f : Nat → Int32} (F : AV Z h a .byte n (fun k => .int (f k))) (X : Stand p l e R s m args below meth c T locs cells slots) (hx : p.tables.exec = Jvm.exec) (hZ : Z.Warmed39 s.vm) (eT : T.heap = h) (hj : ¬ j < 0 ∧ j.toNatClampNeg < n) {pc : Nat} {Ls : Array Slot} {rest : List Value} (hd : decode c.code pc = .ok (.baload, 1)) {t : State}
    (k : Steps p.tables e below (T.setTop (mkF m (pc + 1) Ls (.int (f j.toNatClampNeg) :: rest))) t) : Steps p.tables e below (T.setTop (mkF m pc Ls (.int j :: .ref a :: rest))) t := by
  obtain ⟨q', cl, A, r1, r2⟩ := F
  exact X.baloadBytes hx (j := j) (v := .int (f j.toNatClampNeg)) (by rw [eT]; exact A.1) (State.isArrayOf_alike hZ.alike A.2.1) A.2.2 (AV.inb r1 hj) (r2 _ hj.2) (g := mkF m pc Ls (.int j :: .ref a :: rest)) rfl rfl hd _ k
/-- the bytes of a short text -/
def own_t (l : List Int32) : Nat → Int32 := fun k => l.getD k 0
theorem AV.ofArv {k : ClassId} {z : Int32} {l : List Int32} (F : Arv Z h a k .byte z (l.map .int) (.int 0)) (hn : z.toNatClampNeg = n) (h31 : n < 2 ^ 31) : AV Z h a .byte n (fun k => .int (own_t l k)) := by
  obtain ⟨c, A, -, S, -, H, -⟩ := F
  refine ⟨h31, c, A, S.trans hn, fun i hi => ?_⟩
  rw [H i (by rw [S, hn]; exact hi)]
  simp only [own_t, List.getD_eq_getElem?_getD, List.getElem?_map]
  cases l[i]? <;> rfl
end AVb

section AVstr
variable {p : Program} {l : Launch} {e : Env} {R : Room} {s : State} {m : MethodId} {args : Array Value} {below : List Frame} {meth : Method} {c : Code} {T : State} {locs : List Loc} {cells slots : Nat}
variable {Z : State} {h h' : Heap} {a b x : Addr} {ty ty' : FieldType} {n n' : Nat} {g g' : Nat → Value} {j : Int32} {a0 : Array Value}
theorem AV.caload {f : Nat → Int32} (F : AV Z h a .char n (fun k => .int (f k))) (X : Stand p l e R s m args below meth c T locs cells slots) (hx : p.tables.exec = Jvm.exec) (hZ : Z.Warmed39 s.vm) (eT : T.heap = h) (hj : ¬ j < 0 ∧ j.toNatClampNeg < n) {pc : Nat} {Ls : Array Slot} {rest : List Value} (hd : decode c.code pc = .ok (.caload, 1)) {t : State}
    (k : Steps p.tables e below (T.setTop (mkF m (pc + 1) Ls (.int (f j.toNatClampNeg) :: rest))) t) : Steps p.tables e below (T.setTop (mkF m pc Ls (.int j :: .ref a :: rest))) t := by
  obtain ⟨q', cl, A, r1, r2⟩ := F
  exact X.caload hx (j := j) (v := .int (f j.toNatClampNeg)) (by rw [eT]; exact A.1) (State.isArrayOf_alike hZ.alike A.2.1) A.2.2 (AV.inb r1 hj) (r2 _ hj.2) (g := mkF m pc Ls (.int j :: .ref a :: rest)) rfl rfl hd _ k
theorem AV.castore {f : Nat → Int32} {x : Int32} (F : AV Z h a .char n (fun k => .int (f k))) (X : Stand p l e R s m args below meth c T locs cells slots) (hx : p.tables.exec = Jvm.exec) (hZ : Z.Warmed39 s.vm) (eT : T.heap = h) (hj : ¬ j < 0 ∧ j.toNatClampNeg < n) {pc : Nat} {Ls : Array Slot} {rest : List Value} (hd : decode c.code pc = .ok (.castore, 1)) :
    ∃ T' h', Stand p l e R s m args below meth c T' (locs ++ [⟨a, j.toNatClampNeg⟩]) cells slots ∧ T'.heap = h' ∧ Wr h h' a j.toNatClampNeg (.int (nar .char x)) ∧ AV Z h' a .char n (fun k => .int (up f j.toNatClampNeg (nar .char x) k)) ∧
      ∀ t, Steps p.tables e below (T'.setTop (mkF m (pc + 1) Ls rest)) t → Steps p.tables e below (T.setTop (mkF m pc Ls (.int x :: .int j :: .ref a :: rest))) t := by
  have F0 := F
  obtain ⟨q', cl, A, r1, r2⟩ := F
  obtain ⟨T', h', X', e', W, st⟩ := stC X hx hZ eT A (j := j) (AV.inb r1 hj) (g := mkF m pc Ls (.int x :: .int j :: .ref a :: rest)) rfl rfl hd
  exact ⟨T', h', X', e', W, (F0.set W).congr (fun k _ => by unfold up; split <;> rfl), st⟩
theorem AV.bastoreB {f : Nat → Int32} {x : Int32} (F : AV Z h a .byte n (fun k => .int (f k))) (X : Stand p l e R s m args below meth c T locs cells slots) (hx : p.tables.exec = Jvm.exec) (hZ : Z.Warmed39 s.vm) (eT : T.heap = h) (hj : ¬ j < 0 ∧ j.toNatClampNeg < n) {pc : Nat} {Ls : Array Slot} {rest : List Value} (hd : decode c.code pc = .ok (.bastore, 1)) :
    ∃ T' h', Stand p l e R s m args below meth c T' (locs ++ [⟨a, j.toNatClampNeg⟩]) cells slots ∧ T'.heap = h' ∧ Wr h h' a j.toNatClampNeg (.int (nar .byte x)) ∧ AV Z h' a .byte n (fun k => .int (up f j.toNatClampNeg (nar .byte x) k)) ∧
      ∀ t, Steps p.tables e below (T'.setTop (mkF m (pc + 1) Ls rest)) t → Steps p.tables e below (T.setTop (mkF m pc Ls (.int x :: .int j :: .ref a :: rest))) t := by
  have F0 := F
  obtain ⟨q', cl, A, r1, r2⟩ := F
  obtain ⟨T', h', X', e', W, st⟩ := stB X hx hZ eT A (j := j) (AV.inb r1 hj) (g := mkF m pc Ls (.int x :: .int j :: .ref a :: rest)) rfl rfl hd
  exact ⟨T', h', X', e', W, (F0.set W).congr (fun k _ => by unfold up; split <;> rfl), st⟩
theorem AV.neExa {n1 : Nat} {C : String} (F : AV Z h b ty n g) (E : Exa Z h x C) (w : (Cond.instantiable C n1).before a0 Z = true) : b ≠ x := fun q => by
  subst q
  obtain ⟨c1, k1, e1, f1, g1, -⟩ := E
  obtain ⟨-, c2, ⟨e2, hA, -⟩, -⟩ := F
  cases e1.symm.trans e2
  simp only [Cond.before, Cond.holds, Cond.value, f1, Option.bind_some, g1, Option.map_some] at w
  have ho : k1.kind = .ordinary := by
    simp only [beq_iff_eq, Option.some.injEq, Bool.and_eq_true, decide_eq_true_eq] at w; exact w.1.1.1
  obtain ⟨-, kk, hk, comp, hkind⟩ := hA
  rw [g1] at hk; cases hk; rw [ho] at hkind; cases hkind
theorem AV.arv (F : AV Z h a ty n g) (hf : ∀ k, k < n → fits ty (g k) = true) {d : Value} : ∃ k, Arv Z h a k ty (Int32.ofNat n) ((List.range n).map g) d := by
  obtain ⟨q, cl, A, S, H⟩ := F
  have e1 : (Int32.ofNat n).toNatClampNeg = n := by simp only [Int32.toNatClampNeg, len_toInt q]; rfl
  have gd : ∀ i, i < n → ((List.range n).map g).getD i d = g i := fun i hi => by rw [List.getD_eq_getElem?_getD]; simp [hi]
  refine ⟨cl.cls, cl, A, rfl, S.trans e1.symm, by rw [Int32.lt_iff_toInt_lt, len_toInt q]; show ¬ ((n : Int) < 0); omega, fun i hi => ?_, fun i hi => ?_⟩
  · rw [S] at hi; rw [gd i hi]; exact H i hi
  · rw [S] at hi; rw [gd i hi]; exact hf i hi
/-- System.arraycopy of nn bytes behind sp to the head of a new array of nn places -/
theorem AV.copyB {f f' : Nat → Int32} {nn sp' : Nat} {sp : Int32} (A : AV Z h a .byte n (fun k => .int (f k))) (B : AV Z h b .byte nn (fun k => .int (f' k))) (hf : ∀ k, k < n → fits .byte (.int (f k)) = true) (hf' : ∀ k, k < nn → fits .byte (.int (f' k)) = true) (hsp : sp = Int32.ofNat sp') (hle : sp' + nn ≤ n)
    (X : Stand p l e R s m args below meth c T locs cells slots) (hx : p.tables.exec = Jvm.exec) (hZ : Z.Warmed39 s.vm) {own : String} {index : Nat} (hown : s.vm.findClass own = some m.cls)
    (w1 : (Cond.methodLink own index Jvm.Stand.acN).before a0 Z = true) (w2 : (Cond.native Jvm.Stand.acN).before a0 Z = true) (w3 : (Cond.static Jvm.Stand.acN).before a0 Z = true) (w4 : (Cond.initialized "java/lang/System").before a0 Z = true) (eT : T.heap = h)
    {n0 : Nat} (N : Fr n0 locs) (ge : n0 ≤ b) {g : JFrame} (hg : g.method = m) (hsize : g.locals.size = c.maxLocals) {rest : List Value} (hs : g.stack = .int (Int32.ofNat nn) :: .int 0 :: .ref b :: .int sp :: .ref a :: rest) (hd : decode c.code g.pc = .ok (.invokestatic index, 3))
    (hfr : 1 ≤ R.frames) {W : Nat} (hW : 2 * g.monitorRoom + (rest.map fun v => v.category).sum ≤ W) (hlo : W + (nativeFrameWords "java/lang/System" "arraycopy" 5 + 11) ≤ R.locals) :
    ∃ T' h' L, Stand p l e R s m args below meth c T' L cells slots ∧ T'.heap = h' ∧ Fr n0 L ∧ Keep h h' [b] ∧ AV Z h' b .byte nn (fun k => .int (f (sp' + k))) ∧
      ∀ target, Steps p.tables e below (T'.setTop { g with pc := g.pc + 3, stack := rest }) target → Steps p.tables e below (T.setTop g) target := by
  have qA := A.1; have qB := B.1
  have nat : ∀ {i : Nat}, i < 2 ^ 31 → (Int32.ofNat i).toNatClampNeg = i := fun {i} q => by simp only [Int32.toNatClampNeg, len_toInt q]; rfl
  have neg : ∀ {i : Nat}, i < 2 ^ 31 → ¬ (Int32.ofNat i) < 0 := fun {i} q => by rw [Int32.lt_iff_toInt_lt, len_toInt q]; show ¬ ((i : Int) < 0); omega
  obtain ⟨ka, VA⟩ := A.arv hf (d := .int 0)
  obtain ⟨kb, VB⟩ := B.arv hf' (d := .int 0)
  have hsp31 : sp' < 2 ^ 31 := by omega
  subst hsp
  obtain ⟨T', h', L, X', e', N', K', V', st⟩ := cpA X hx hZ hown w1 w2 w3 w4 eT VA VB (sp := Int32.ofNat sp') (dp := 0) (nn := Int32.ofNat nn) (Or.inl ⟨rfl, rfl⟩) (neg hsp31) (by decide) (neg qB) (by rw [nat hsp31, nat qB, nat qA]; exact hle) (by rw [nat qB]; show 0 + nn ≤ nn; omega) rfl (by rw [nat qB]; simp) N ge hg hsize hs hd hfr hW hlo
  refine ⟨T', h', L, X', e', N', K', ?_, st⟩
  obtain ⟨cl, A2, -, S2, -, H2, -⟩ := V'
  rw [nat qB] at S2
  refine ⟨qB, cl, A2, S2, fun i hi => ?_⟩
  rw [H2 i (by rw [S2]; exact hi)]
  congr 1
  rw [nat qB, nat hsp31]
  have e0 : (0 : Int32).toNatClampNeg = 0 := rfl
  rw [e0, List.getD_eq_getElem?_getD]
  simp [hi, show sp' + i < n by omega]
end AVstr
theorem own_safeNull {Z : State} {EL : List (String × Nat)} {vm : Vm} {h : Heap} {x : Addr} (hal : Z.vm.Alike vm) (E : Exa Z h x "java/lang/String") (F : Fld Z h x "java/lang/String" "value" "[B" .null) : Safe Z EL vm h x := fun B => by
  obtain ⟨p, -, u, a, -, q, -, S, rfl | rfl⟩ := B
  · obtain ⟨cS, ⟨⟨s1, s2, s3, ⟨cv, kv, iv, s4, s4'⟩, ⟨cc, kc, ic, s5, s5'⟩, s6, s7, s8, s9, s10, s11, s12, s13, s14, s15, s16⟩, hfS, hcS⟩, -⟩ := S
    obtain ⟨kv', z4⟩ := ff_back (U := Wst Z vm h) hal s4
    have G : Fld Z h q.sa "java/lang/String" "value" "[B" (.ref q.sd) := ⟨q.sC, cv, kv', iv, q.fSV, s1, z4, s6, s2, s3, by rw [← hal.assignable]; exact s4', s8⟩
    exact Fld.ne F G (by simp) rfl
  · obtain ⟨cell, k, e1, e2, e3, -, -⟩ := E
    cases (show h[q.sd]? = some q.SA from S.hd).symm.trans e1
    obtain ⟨cS, -, -, f, -⟩ := S
    have f' : vm.findClass "[B" = some q.SA.cls := f
    rw [hal.findClass] at f'
    obtain ⟨k1, q1, q2⟩ := Vm.findClass_spec f'
    obtain ⟨k2, q3, q4⟩ := Vm.findClass_spec e2
    cases q1.symm.trans q3
    exact absurd (q2.symm.trans q4) (by decide)
theorem Go.finW {p : Program} {l : Launch} {e : Env} {R : Room} {s : State} {m : MethodId} {args : Array Value} {below : List Frame} {meth : Method} {c : Code} {T : State} {locs : List Loc} {cells slots K N : Nat} {Z : State} {EL : List (String × Nat)} {h h0 : Heap} {a0 : Array Value} {vm₁ : Vm}
    (X : Stand p l e R (s.setVm vm₁) m args below meth c T locs cells slots) {n : Nat} (hS : s.Since vm₁ n) (eT : T.heap = h) (hnn : n ≤ h.size) (hlk : meth.locks = false) {v : Option Value} (hv : meth.sig.returnType = none → v = none) {Q : Option Value → Heap → List Loc → Prop} {g : JFrame}
    (st : ∀ fs, (∀ (f : JFrame) (acts : List Action), f.method = m → f.locked = none → f.entered = [] → (doReturn e (T.setTop f) acts v).1 = T.setFrames fs) → Steps p.tables e below (T.setTop g) (T.setFrames fs))
    (hk : cells ≤ K) (hn : slots ≤ N) (hh : s.heap = h0) (hZ : Z.Warmed39 vm₁) (w : EW Z a0 EL) (CR : CHr Z EL s.vm h0 vm₁ h) (hq : Q v h locs) : Go p e below (fun o u => ∃ v L, o = .returned v ∧ Q v u.heap L ∧ CHr Z EL s.vm s.heap u.vm u.heap ∧ ReturnedEndW s o u L K N) (T.setTop g) := by
  subst eT
  obtain ⟨fs, hr, hrun, hended, h1, h2, h3, h4⟩ := X.leaveW hS hnn (v := v) hv hlk
  refine ⟨_, _, st fs hr, hrun, hended, _, _, rfl, hq, ?_, h1, h2, h3, h4.mono hk hn⟩
  rw [hh]
  exact CR.trans (show CHr Z EL vm₁ T.heap T.vm T.heap from CHv.at X hZ w CR.1)

def own_sh (f : Nat → Int32) (i : Nat) : Nat → Int32 := fun k => f (i + k)
def own_EL : List (String × Nat) := [("java/lang/String", 7), ("java/lang/StringLatin1", 151), ("com/example/bindery/bindery/compiler/JavaTypeSimpleNamePinLaw", 14), ("com/example/bindery/bindery/compiler/JavaTypeSimpleNamePinLaw", 16)]
theorem own_EW {Z : State} {a0 : Array Value} (hw : ∀ d ∈ tables_1, d.before a0 Z = true) : EW Z a0 own_EL := (EW.cons (wq hw 28 rfl) (by decide) (EW.cons (wq hw 162 rfl) (by decide) (EW.cons (wq hw 161 rfl) (by decide) (EW.cons (wq hw 6 rfl) (by decide) EW.nil))))
def own_ch (x : Int32) : Prop := ∃ u : Fin 256, x = Int32.ofNat u
theorem own_and255 (a : Int32) : ∃ u : Fin 256, a &&& 255 = Int32.ofNat u := by
  have e := Jvm.Kit.i32_mask a 255 (k := 8) (by decide) (by decide)
  refine ⟨⟨(a &&& 255).toInt.toNat, by omega⟩, Int32.toInt_inj.mp ?_⟩
  rw [len_toInt (by show (a &&& 255).toInt.toNat < 2 ^ 31; omega)]
  show (a &&& 255).toInt = ((a &&& 255).toInt.toNat : Int)
  omega
theorem own_hch {x : Int32} (h : own_ch x) : ¬ (255 : Int32) < nar .char x := by
  obtain ⟨u, rfl⟩ := h; revert u; decide +kernel
theorem own_ndot {x : Int32} (h : own_ch x) (q : ¬ x = 46) : ¬ nar .byte ((nar .char x).toInt8.toInt32) = ((46 : Int32).toInt8.toInt32) := by
  obtain ⟨u, rfl⟩ := h; revert u; decide +kernel
theorem own_dot {x : Int32} (q : x = 46) : nar .byte ((nar .char x).toInt8.toInt32) = ((46 : Int32).toInt8.toInt32) := by subst q; decide
theorem own_rt {x : Int32} (h : own_ch x) : nar .char (nar .char ((nar .byte ((nar .char x).toInt8.toInt32) &&& 255).toUInt32.toUInt16.toUInt32.toInt32)) = nar .char x := by
  obtain ⟨u, rfl⟩ := h; revert u; decide +kernel
theorem own_idc {x : Int32} (h : own_ch x) : nar .char x = x := by
  obtain ⟨u, rfl⟩ := h; revert u; decide +kernel
theorem own_idc2 (a : Int32) : own_ch (nar .char ((a &&& 255).toUInt32.toUInt16.toUInt32.toInt32)) := by
  obtain ⟨u, q⟩ := own_and255 a; rw [q]; clear q; exact ⟨u, by revert u; decide +kernel⟩
theorem own_mod5 (x : Int32) : (x &&& 2147483647) % 5 = 0 ∨ (x &&& 2147483647) % 5 = 1 ∨ (x &&& 2147483647) % 5 = 2 ∨ (x &&& 2147483647) % 5 = 3 ∨ (x &&& 2147483647) % 5 = 4 := by
  have e := Jvm.Kit.i32_mask x 2147483647 (k := 31) (by decide) (by decide)
  have r := Jvm.Kit.i32_rem_nonneg (x := x &&& 2147483647) (y := 5) (by omega)
  have f : (5 : Int32).toInt = 5 := rfl
  rw [f] at r
  have : ((x &&& 2147483647) % 5).toInt = 0 ∨ ((x &&& 2147483647) % 5).toInt = 1 ∨ ((x &&& 2147483647) % 5).toInt = 2 ∨ ((x &&& 2147483647) % 5).toInt = 3 ∨ ((x &&& 2147483647) % 5).toInt = 4 := by omega
  rcases this with q | q | q | q | q
  · left; exact Int32.toInt_inj.mp q
  · right; left; exact Int32.toInt_inj.mp q
  · right; right; left; exact Int32.toInt_inj.mp q
  · right; right; right; left; exact Int32.toInt_inj.mp q
  · right; right; right; right; exact Int32.toInt_inj.mp q

theorem own_rt3 {x y : Int32} (h : own_ch x) (q : y = nar .byte ((nar .char x).toInt8.toInt32)) : nar .char (nar .char ((y &&& 255).toUInt32.toUInt16.toUInt32.toInt32)) = nar .char x := by
  rw [q]; exact own_rt h
theorem d12_0 : decode B12 0 = .ok (.getstatic 38, 3) := by decide +kernel
theorem d12_3 : decode B12 3 = .ok (.ifCond .eq 10, 3) := by decide +kernel
theorem d12_6 : decode B12 6 = .ok (.aload_n 0, 1) := by decide +kernel
theorem d12_7 : decode B12 7 = .ok (.getfield 15, 3) := by decide +kernel
theorem d12_10 : decode B12 10 = .ok (.goto 4, 3) := by decide +kernel
theorem d12_14 : decode B12 14 = .ok (.ireturn, 1) := by decide +kernel
def f12 (o0 : Addr) (cs : Int32) : Int32 := (nar .byte (0 : Int32))
def Q12 (o0 : Addr) (cs : Int32) (h0 : Heap) (n0 : Nat) (v : Option Value) (h : Heap) (L : List Loc) : Prop := v = some (.int (f12 o0 cs)) ∧ Fr n0 L ∧ h = h0
abbrev RM_0_0_0_0 : Room := { frames := 0, cells := 0, slots := 0, locals := 0 }
theorem pn_0 : plainName "java/lang/String" = true := by first | (simp [plainName, overriddenIn]; done) | decide +kernel
theorem ef_12_a (m : MethodId) (x0 : Addr) : entryFrame m #[(.ref x0)] 1 = mkF m 0 #[.val (.ref x0)] [] := by first | (simp [entryFrame, mkF, argsToLocals, Value.category]; done) | rfl
theorem rm12 (l : Launch) (Z : State) (a0 : Array Value) (hw : ∀ d ∈ tables_1, d.before a0 Z = true) (ws : List Jvm.Cond) (o0 : Addr) (cs : Int32) (h0 : Heap) (n0 : Nat) (Z0 : n0 ≤ h0.size) (ha0 : Fld Z h0 o0 "java/lang/String" "coder" "B" (.int 0)) (ha1 : Sta Z h0 "java/lang/String" "COMPACT_STRINGS" "Z" (.int cs)) (hcs : ¬ cs = 0) :
    MetFree l y12 (head1 (Jvm.Cond.code y12 jdk_42_method_152_code 1 (some .byte) :: ws) RM_0_0_0_0) (fun a U => a = #[(.ref o0)] ∧ Z.Warmed39 U.vm ∧ U.heap = h0) (fun _ _ _ _ _ => True) (fun _ U o U' => ∃ v L, o = .returned v ∧ Q12 o0 cs h0 n0 v U'.heap L ∧ FrameEnd U o U' L RM_0_0_0_0.cells RM_0_0_0_0.slots) := by
  refine MetFree.of_bodySF (plainFor_of_name pn_0) hisR ?_
  intro p e s m args below meth c s₁ Bd hml0 hP hK
  obtain ⟨rfl, hZ, hh⟩ := hP
  have hx := Bd.exec
  have hby := Bd.bytes
  have hml : c.maxLocals = 1 := hml0
  have hown : s.vm.findClass "java/lang/String" = some m.cls := findClass_of_methodNamed Bd.named
  have X0 : Stand p l e RM_0_0_0_0 s m _ below meth c s₁ [] 0 0 := Stand.of_body Bd
  have e0 : s₁.heap = h0 := by rw [← hh, Bd.state]; rfl
  have N0 := Fr.nil n0
  refine Go.into (P := fun oo uu => ∃ v L, oo = .returned v ∧ Q12 o0 cs h0 n0 v uu.heap L ∧ FrameEnd s oo uu L RM_0_0_0_0.cells RM_0_0_0_0.slots) (ef_12_a m o0) ?_
  show Go p e below _ (s₁.setTop (mkF m 0 #[sR o0] []))
  obtain ⟨T1, X1, e1, st1⟩ := getS2 X0 hx hZ hown (host := "") (Or.inl (wq hw 74 rfl)) Via.refl e0 ha1 (g := (mkF m 0 #[sR o0] [])) rfl (hb hby d12_0)
  refine Go.via st1 ?_
  refine Vi (T1.setTop (mkF m 7 #[sR o0] [(.ref o0)])) (fun tZ kZ => ?_) ?_
  · refine XS.ifNo X1.here hx rfl (hb hby d12_3) rfl ((if0 _ _).trans (feq hcs).1) ?_
    refine XS.aloadN X1.here hx rfl (hb hby d12_6) rfl rfl ?_
    exact kZ
  obtain ⟨T2, X2, e2, st2⟩ := getF X1 hx hZ hown (host := "") (Or.inl (wq hw 30 rfl)) Via.refl e1 ha0 (g := (mkF m 7 #[sR o0] [(.ref o0)])) rfl rfl (hb hby d12_7)
  refine Go.via st2 ?_
  refine Vi (T2.setTop (mkF m 14 #[sR o0] [(.int 0)])) (fun tZ kZ => ?_) ?_
  · refine XS.goto X2.here hx rfl (pc0 := 10) (pc' := 14) rfl (hb hby d12_10) (by decide) (by decide) ?_
    exact kZ
  refine Go.retN X2 hx Bd.notSynchronized (t := .byte) Bd.returns (by simp) (hb hby d12_14) (by decide) (by decide) ?_
  refine ⟨?_, N0, e2⟩
  show some ((Value.int (nar .byte (0 : Int32))) : Value) = some (.int (f12 o0 cs))
  rfl
theorem d14_0 : decode B14 0 = .ok (.getstatic 38, 3) := by decide +kernel
theorem d14_3 : decode B14 3 = .ok (.ifCond .eq 14, 3) := by decide +kernel
theorem d14_6 : decode B14 6 = .ok (.aload_n 0, 1) := by decide +kernel
theorem d14_7 : decode B14 7 = .ok (.getfield 15, 3) := by decide +kernel
theorem d14_10 : decode B14 10 = .ok (.ifCond .ne 7, 3) := by decide +kernel
theorem d14_13 : decode B14 13 = .ok (.iconst 1, 1) := by decide +kernel
theorem d14_14 : decode B14 14 = .ok (.goto 4, 3) := by decide +kernel
theorem d14_18 : decode B14 18 = .ok (.ireturn, 1) := by decide +kernel
def f14 (o0 : Addr) (cs : Int32) : Int32 := (1 : Int32)
def Q14 (o0 : Addr) (cs : Int32) (h0 : Heap) (n0 : Nat) (v : Option Value) (h : Heap) (L : List Loc) : Prop := v = some (.int (f14 o0 cs)) ∧ Fr n0 L ∧ h = h0
theorem ef_14_a (m : MethodId) (x0 : Addr) : entryFrame m #[(.ref x0)] 1 = mkF m 0 #[.val (.ref x0)] [] := by first | (simp [entryFrame, mkF, argsToLocals, Value.category]; done) | rfl
theorem rm14 (l : Launch) (Z : State) (a0 : Array Value) (hw : ∀ d ∈ tables_1, d.before a0 Z = true) (ws : List Jvm.Cond) (o0 : Addr) (cs : Int32) (h0 : Heap) (n0 : Nat) (Z0 : n0 ≤ h0.size) (ha0 : Fld Z h0 o0 "java/lang/String" "coder" "B" (.int 0)) (ha1 : Sta Z h0 "java/lang/String" "COMPACT_STRINGS" "Z" (.int cs)) (hcs : ¬ cs = 0) :
    MetFree l y14 (head1 (Jvm.Cond.code y14 jdk_42_method_154_code 1 (some .boolean) :: ws) RM_0_0_0_0) (fun a U => a = #[(.ref o0)] ∧ Z.Warmed39 U.vm ∧ U.heap = h0) (fun _ _ _ _ _ => True) (fun _ U o U' => ∃ v L, o = .returned v ∧ Q14 o0 cs h0 n0 v U'.heap L ∧ FrameEnd U o U' L RM_0_0_0_0.cells RM_0_0_0_0.slots) := by
  refine MetFree.of_bodySF (plainFor_of_name pn_0) hisR ?_
  intro p e s m args below meth c s₁ Bd hml0 hP hK
  obtain ⟨rfl, hZ, hh⟩ := hP
  have hx := Bd.exec
  have hby := Bd.bytes
  have hml : c.maxLocals = 1 := hml0
  have hown : s.vm.findClass "java/lang/String" = some m.cls := findClass_of_methodNamed Bd.named
  have X0 : Stand p l e RM_0_0_0_0 s m _ below meth c s₁ [] 0 0 := Stand.of_body Bd
  have e0 : s₁.heap = h0 := by rw [← hh, Bd.state]; rfl
  have N0 := Fr.nil n0
  refine Go.into (P := fun oo uu => ∃ v L, oo = .returned v ∧ Q14 o0 cs h0 n0 v uu.heap L ∧ FrameEnd s oo uu L RM_0_0_0_0.cells RM_0_0_0_0.slots) (ef_14_a m o0) ?_
  show Go p e below _ (s₁.setTop (mkF m 0 #[sR o0] []))
  obtain ⟨T1, X1, e1, st1⟩ := getS2 X0 hx hZ hown (host := "") (Or.inl (wq hw 74 rfl)) Via.refl e0 ha1 (g := (mkF m 0 #[sR o0] [])) rfl (hb hby d14_0)
  refine Go.via st1 ?_
  refine Vi (T1.setTop (mkF m 7 #[sR o0] [(.ref o0)])) (fun tZ kZ => ?_) ?_
  · refine XS.ifNo X1.here hx rfl (hb hby d14_3) rfl ((if0 _ _).trans (feq hcs).1) ?_
    refine XS.aloadN X1.here hx rfl (hb hby d14_6) rfl rfl ?_
    exact kZ
  obtain ⟨T2, X2, e2, st2⟩ := getF X1 hx hZ hown (host := "") (Or.inl (wq hw 30 rfl)) Via.refl e1 ha0 (g := (mkF m 7 #[sR o0] [(.ref o0)])) rfl rfl (hb hby d14_7)
  refine Go.via st2 ?_
  refine Vi (T2.setTop (mkF m 18 #[sR o0] [(.int 1)])) (fun tZ kZ => ?_) ?_
  · refine XS.ifNo X2.here hx rfl (hb hby d14_10) rfl ((if0 _ _).trans (teq (by decide)).2) ?_
    refine XS.iconst X2.here hx rfl (hb hby d14_13) ?_
    refine XS.goto X2.here hx rfl (pc0 := 14) (pc' := 18) rfl (hb hby d14_14) (by decide) (by decide) ?_
    exact kZ
  refine Go.retN X2 hx Bd.notSynchronized (t := .boolean) Bd.returns (by simp) (hb hby d14_18) (by decide) (by decide) ?_
  refine ⟨?_, N0, e2⟩
  show some ((Value.int (nar .boolean (1 : Int32))) : Value) = some (.int (f14 o0 cs))
  rfl
theorem d16_0 : decode B16 0 = .ok (.iload_n 0, 1) := by decide +kernel
theorem d16_1 : decode B16 1 = .ok (.ifCond .lt 14, 3) := by decide +kernel
theorem d16_15 : decode B16 15 = .ok (.iconst 0, 1) := by decide +kernel
theorem d16_4 : decode B16 4 = .ok (.iload_n 0, 1) := by decide +kernel
theorem d16_5 : decode B16 5 = .ok (.sipush 255, 3) := by decide +kernel
theorem d16_8 : decode B16 8 = .ok (.if_icmp .gt 7, 3) := by decide +kernel
theorem d16_11 : decode B16 11 = .ok (.iconst 1, 1) := by decide +kernel
theorem d16_12 : decode B16 12 = .ok (.goto 4, 3) := by decide +kernel
def w16_0 (p0 : Int32) : Int32 := (if p0 < (0 : Int32) then (0 : Int32) else (if (255 : Int32) < p0 then (0 : Int32) else (1 : Int32)))
theorem d16_16 : decode B16 16 = .ok (.ireturn, 1) := by decide +kernel
def f16 (p0 : Int32) : Int32 := (nar .boolean (w16_0 p0))
def Q16 (p0 : Int32) (h0 : Heap) (n0 : Nat) (v : Option Value) (h : Heap) (L : List Loc) : Prop := v = some (.int (f16 p0)) ∧ Fr n0 L ∧ h = h0
theorem pn_1 : plainName "java/lang/StringLatin1" = true := by first | (simp [plainName, overriddenIn]; done) | decide +kernel
theorem ef_16_a (m : MethodId) (x0 : Int32) : entryFrame m #[(.int x0)] 1 = mkF m 0 #[.val (.int x0)] [] := by first | (simp [entryFrame, mkF, argsToLocals, Value.category]; done) | rfl
theorem rm16 (l : Launch) (Z : State) (a0 : Array Value) (hw : ∀ d ∈ tables_1, d.before a0 Z = true) (ws : List Jvm.Cond) (p0 : Int32) (h0 : Heap) (n0 : Nat) (Z0 : n0 ≤ h0.size) :
    MetFree l y16 (head1 (Jvm.Cond.code y16 jdk_43_method_4_code 1 (some .boolean) :: ws) RM_0_0_0_0) (fun a U => a = #[(.int p0)] ∧ Z.Warmed39 U.vm ∧ U.heap = h0) (fun _ _ _ _ _ => True) (fun _ U o U' => ∃ v L, o = .returned v ∧ Q16 p0 h0 n0 v U'.heap L ∧ FrameEnd U o U' L RM_0_0_0_0.cells RM_0_0_0_0.slots) := by
  refine MetFree.of_bodySF (plainFor_of_name pn_1) hisR ?_
  intro p e s m args below meth c s₁ Bd hml0 hP hK
  obtain ⟨rfl, hZ, hh⟩ := hP
  have hx := Bd.exec
  have hby := Bd.bytes
  have hml : c.maxLocals = 1 := hml0
  have hown : s.vm.findClass "java/lang/StringLatin1" = some m.cls := findClass_of_methodNamed Bd.named
  have X0 : Stand p l e RM_0_0_0_0 s m _ below meth c s₁ [] 0 0 := Stand.of_body Bd
  have e0 : s₁.heap = h0 := by rw [← hh, Bd.state]; rfl
  have N0 := Fr.nil n0
  refine Go.into (P := fun oo uu => ∃ v L, oo = .returned v ∧ Q16 p0 h0 n0 v uu.heap L ∧ FrameEnd s oo uu L RM_0_0_0_0.cells RM_0_0_0_0.slots) (ef_16_a m p0) ?_
  show Go p e below _ (s₁.setTop (mkF m 0 #[sI p0] []))
  refine Vi (s₁.setTop (mkF m 16 #[sI p0] [(.int (w16_0 p0))])) (fun tZ kZ => ?_) ?_
  · refine XS.iloadN X0.here hx rfl (hb hby d16_0) rfl ?_
    have sg1 : Steps p.tables e below (s₁.setTop (mkF m 16 #[sI p0] [(.int (if p0 < (0 : Int32) then (0 : Int32) else (if (255 : Int32) < p0 then (0 : Int32) else (1 : Int32))))])) tZ → Steps p.tables e below (s₁.setTop (mkF m 1 #[sI p0] [(.int p0)])) tZ := by
      intro kj
      by_cases hc1 : p0 < (0 : Int32)
      · try simp only [if_pos hc1] at kj
        refine XS.ifYes X0.here hx rfl (pc0 := 1) (pc' := 15) rfl (hb hby d16_1) rfl ((if0 _ _).trans (tlt hc1).1) (by decide) (by decide) ?_
        refine XS.iconst X0.here hx rfl (hb hby d16_15) ?_
        exact kj
      · try simp only [if_neg hc1] at kj
        refine XS.ifNo X0.here hx rfl (hb hby d16_1) rfl ((if0 _ _).trans (flt hc1).1) ?_
        refine XS.iloadN X0.here hx rfl (hb hby d16_4) rfl ?_
        refine XS.sipush X0.here hx rfl (hb hby d16_5) ?_
        have sg8 : Steps p.tables e below (s₁.setTop (mkF m 16 #[sI p0] [(.int (if (255 : Int32) < p0 then (0 : Int32) else (1 : Int32)))])) tZ → Steps p.tables e below (s₁.setTop (mkF m 8 #[sI p0] [(.int 255), (.int p0)])) tZ := by
          intro kj
          by_cases hc8 : (255 : Int32) < p0
          · try simp only [if_pos hc8] at kj
            refine XS.icmpYes X0.here hx rfl (pc0 := 8) (pc' := 15) rfl (hb hby d16_8) rfl (tlt hc8).2.2.1 (by decide) (by decide) ?_
            refine XS.iconst X0.here hx rfl (hb hby d16_15) ?_
            exact kj
          · try simp only [if_neg hc8] at kj
            refine XS.icmpNo X0.here hx rfl (hb hby d16_8) rfl (flt hc8).2.2.1 ?_
            refine XS.iconst X0.here hx rfl (hb hby d16_11) ?_
            refine XS.goto X0.here hx rfl (pc0 := 12) (pc' := 16) rfl (hb hby d16_12) (by decide) (by decide) ?_
            exact kj
        refine sg8 ?_
        show Steps p.tables e below (s₁.setTop (mkF m 16 #[sI p0] [(.int (if (255 : Int32) < p0 then (0 : Int32) else (1 : Int32)))])) _
        exact kj
    refine sg1 ?_
    show Steps p.tables e below (s₁.setTop (mkF m 16 #[sI p0] [(.int (w16_0 p0))])) _
    exact kZ
  refine Go.retN X0 hx Bd.notSynchronized (t := .boolean) Bd.returns (by simp) (hb hby d16_16) (by decide) (by decide) ?_
  refine ⟨?_, N0, e0⟩
  show some ((Value.int (nar .boolean (w16_0 p0))) : Value) = some (.int (f16 p0))
  rfl
theorem d17_0 : decode B17 0 = .ok (.iload_n 0, 1) := by decide +kernel
theorem d17_1 : decode B17 1 = .ok (.iload_n 1, 1) := by decide +kernel
theorem d17_2 : decode B17 2 = .ok (.if_icmp .gt 7, 3) := by decide +kernel
theorem d17_9 : decode B17 9 = .ok (.iload_n 1, 1) := by decide +kernel
theorem d17_5 : decode B17 5 = .ok (.iload_n 0, 1) := by decide +kernel
theorem d17_6 : decode B17 6 = .ok (.goto 4, 3) := by decide +kernel
theorem d17_10 : decode B17 10 = .ok (.ireturn, 1) := by decide +kernel
def f17 (p0 : Int32) (p1 : Int32) : Int32 := (if p1 < p0 then p1 else p0)
def Q17 (p0 : Int32) (p1 : Int32) (h0 : Heap) (n0 : Nat) (v : Option Value) (h : Heap) (L : List Loc) : Prop := v = some (.int (f17 p0 p1)) ∧ Fr n0 L ∧ h = h0
theorem ef_17_aa (m : MethodId) (x0 : Int32) (x1 : Int32) : entryFrame m #[(.int x0), (.int x1)] 2 = mkF m 0 #[.val (.int x0), .val (.int x1)] [] := by first | (simp [entryFrame, mkF, argsToLocals, Value.category]; done) | rfl
theorem rm17 (l : Launch) (Z : State) (a0 : Array Value) (hw : ∀ d ∈ tables_1, d.before a0 Z = true) (ws : List Jvm.Cond) (p0 : Int32) (p1 : Int32) (h0 : Heap) (n0 : Nat) (Z0 : n0 ≤ h0.size) :
    MetFree l y17 (head1 (Jvm.Cond.code y17 jdk_29_method_69_code 2 (some .int) :: ws) RM_0_0_0_0) (fun a U => a = #[(.int p0), (.int p1)] ∧ Z.Warmed39 U.vm ∧ U.heap = h0) (fun _ _ _ _ _ => True) (fun _ U o U' => ∃ v L, o = .returned v ∧ Q17 p0 p1 h0 n0 v U'.heap L ∧ FrameEnd U o U' L RM_0_0_0_0.cells RM_0_0_0_0.slots) := by
  refine MetFree.of_bodySF (Jvm.Free.JP.mathPlain rfl (by decide +kernel)) hisR ?_
  intro p e s m args below meth c s₁ Bd hml0 hP hK
  obtain ⟨rfl, hZ, hh⟩ := hP
  have hx := Bd.exec
  have hby := Bd.bytes
  have hml : c.maxLocals = 2 := hml0
  have hown : s.vm.findClass "java/lang/Math" = some m.cls := findClass_of_methodNamed Bd.named
  have X0 : Stand p l e RM_0_0_0_0 s m _ below meth c s₁ [] 0 0 := Stand.of_body Bd
  have e0 : s₁.heap = h0 := by rw [← hh, Bd.state]; rfl
  have N0 := Fr.nil n0
  refine Go.into (P := fun oo uu => ∃ v L, oo = .returned v ∧ Q17 p0 p1 h0 n0 v uu.heap L ∧ FrameEnd s oo uu L RM_0_0_0_0.cells RM_0_0_0_0.slots) (ef_17_aa m p0 p1) ?_
  show Go p e below _ (s₁.setTop (mkF m 0 #[sI p0, sI p1] []))
  refine Vi (s₁.setTop (mkF m 10 #[sI p0, sI p1] [(.int (if p1 < p0 then p1 else p0))])) (fun tZ kZ => ?_) ?_
  · refine XS.iloadN X0.here hx rfl (hb hby d17_0) rfl ?_
    refine XS.iloadN X0.here hx rfl (hb hby d17_1) rfl ?_
    have sg2 : Steps p.tables e below (s₁.setTop (mkF m 10 #[sI p0, sI p1] [(.int (if p1 < p0 then p1 else p0))])) tZ → Steps p.tables e below (s₁.setTop (mkF m 2 #[sI p0, sI p1] [(.int p1), (.int p0)])) tZ := by
      intro kj
      by_cases hc2 : p1 < p0
      · try simp only [if_pos hc2] at kj
        refine XS.icmpYes X0.here hx rfl (pc0 := 2) (pc' := 9) rfl (hb hby d17_2) rfl (tlt hc2).2.2.1 (by decide) (by decide) ?_
        refine XS.iloadN X0.here hx rfl (hb hby d17_9) rfl ?_
        exact kj
      · try simp only [if_neg hc2] at kj
        refine XS.icmpNo X0.here hx rfl (hb hby d17_2) rfl (flt hc2).2.2.1 ?_
        refine XS.iloadN X0.here hx rfl (hb hby d17_5) rfl ?_
        refine XS.goto X0.here hx rfl (pc0 := 6) (pc' := 10) rfl (hb hby d17_6) (by decide) (by decide) ?_
        exact kj
    refine sg2 ?_
    show Steps p.tables e below (s₁.setTop (mkF m 10 #[sI p0, sI p1] [(.int (if p1 < p0 then p1 else p0))])) _
    exact kZ
  refine Go.retI X0 hx Bd.notSynchronized Bd.returns (hb hby d17_10) (by decide) (by decide) ?_
  refine ⟨?_, N0, e0⟩
  show some ((.int (if p1 < p0 then p1 else p0)) : Value) = some (.int (f17 p0 p1))
  rfl
theorem d21_0 : decode B21 0 = .ok (.iload_n 0, 1) := by decide +kernel
theorem d21_1 : decode B21 1 = .ok (.ifCond .lt 13, 3) := by decide +kernel
theorem d21_4 : decode B21 4 = .ok (.iload_n 0, 1) := by decide +kernel
theorem d21_5 : decode B21 5 = .ok (.iload_n 1, 1) := by decide +kernel
theorem d21_6 : decode B21 6 = .ok (.if_icmp .gt 8, 3) := by decide +kernel
theorem d21_9 : decode B21 9 = .ok (.iload_n 1, 1) := by decide +kernel
theorem d21_10 : decode B21 10 = .ok (.iload_n 2, 1) := by decide +kernel
theorem d21_11 : decode B21 11 = .ok (.if_icmp .le 11, 3) := by decide +kernel
theorem d21_22 : decode B21 22 = .ok (.iload_n 0, 1) := by decide +kernel
theorem d21_23 : decode B21 23 = .ok (.ireturn, 1) := by decide +kernel
def Q21n (Z : State) (p0 : Int32) (p1 : Int32) (p2 : Int32) (h0 : Heap) (n0 : Nat) (v : Option Value) (h : Heap) (L : List Loc) : Prop := v = some (.int p0) ∧ Fr n0 L ∧ h = h0
theorem pn_2 : plainName "jdk/internal/util/Preconditions" = true := by first | (simp [plainName, overriddenIn]; done) | decide +kernel
theorem ef_21_aaan (m : MethodId) (x0 : Int32) (x1 : Int32) (x2 : Int32) : entryFrame m #[(.int x0), (.int x1), (.int x2), .null] 4 = mkF m 0 #[.val (.int x0), .val (.int x1), .val (.int x2), .val .null] [] := by first | (simp [entryFrame, mkF, argsToLocals, Value.category]; done) | rfl
theorem rm21n (l : Launch) (Z : State) (a0 : Array Value) (hw : ∀ d ∈ tables_1, d.before a0 Z = true) (ws : List Jvm.Cond) (p0 : Int32) (p1 : Int32) (p2 : Int32) (h0 : Heap) (n0 : Nat) (Z0 : n0 ≤ h0.size) (hp0 : ¬ p0 < 0) (hp1 : ¬ p1 < p0) (hp2 : ¬ p2 < p1) :
    MetFree l y21 (head1 (Jvm.Cond.code y21 jdk_41_method_12_code 4 (some .int) :: ws) RM_0_0_0_0) (fun a U => a = #[(.int p0), (.int p1), (.int p2), .null] ∧ Z.Warmed39 U.vm ∧ U.heap = h0) (fun _ _ _ _ _ => True) (fun _ U o U' => ∃ v L, o = .returned v ∧ Q21n Z p0 p1 p2 h0 n0 v U'.heap L ∧ FrameEnd U o U' L RM_0_0_0_0.cells RM_0_0_0_0.slots) := by
  refine MetFree.of_bodySF (plainFor_of_name pn_2) hisR ?_
  intro p e s m args below meth c s₁ Bd hml0 hP hK
  obtain ⟨rfl, hZ, hh⟩ := hP
  have hx := Bd.exec
  have hby := Bd.bytes
  have hml : c.maxLocals = 4 := hml0
  have hown : s.vm.findClass "jdk/internal/util/Preconditions" = some m.cls := findClass_of_methodNamed Bd.named
  have X0 : Stand p l e RM_0_0_0_0 s m _ below meth c s₁ [] 0 0 := Stand.of_body Bd
  have e0 : s₁.heap = h0 := by rw [← hh, Bd.state]; rfl
  have N0 := Fr.nil n0
  refine Go.into (P := fun oo uu => ∃ v L, oo = .returned v ∧ Q21n Z p0 p1 p2 h0 n0 v uu.heap L ∧ FrameEnd s oo uu L RM_0_0_0_0.cells RM_0_0_0_0.slots) (ef_21_aaan m p0 p1 p2) ?_
  show Go p e below _ (s₁.setTop (mkF m 0 #[sI p0, sI p1, sI p2, .val .null] []))
  refine Vi (s₁.setTop (mkF m 23 #[sI p0, sI p1, sI p2, .val .null] [(.int p0)])) (fun tZ kZ => ?_) ?_
  · refine XS.iloadN X0.here hx rfl (hb hby d21_0) rfl ?_
    refine XS.ifNo X0.here hx rfl (hb hby d21_1) rfl ((if0 _ _).trans (flt hp0).1) ?_
    refine XS.iloadN X0.here hx rfl (hb hby d21_4) rfl ?_
    refine XS.iloadN X0.here hx rfl (hb hby d21_5) rfl ?_
    refine XS.icmpNo X0.here hx rfl (hb hby d21_6) rfl (flt hp1).2.2.1 ?_
    refine XS.iloadN X0.here hx rfl (hb hby d21_9) rfl ?_
    refine XS.iloadN X0.here hx rfl (hb hby d21_10) rfl ?_
    refine XS.icmpYes X0.here hx rfl (pc0 := 11) (pc' := 22) rfl (hb hby d21_11) rfl (flt hp2).2.2.2 (by decide) (by decide) ?_
    refine XS.iloadN X0.here hx rfl (hb hby d21_22) rfl ?_
    exact kZ
  refine Go.retI X0 hx Bd.notSynchronized Bd.returns (hb hby d21_23) (by decide) (by decide) ?_
  rw [e0]
  exact ⟨rfl, N0, rfl⟩
def Q21r (Z : State) (p0 : Int32) (p1 : Int32) (p2 : Int32) (fo : Addr) (h0 : Heap) (n0 : Nat) (v : Option Value) (h : Heap) (L : List Loc) : Prop := v = some (.int p0) ∧ Fr n0 L ∧ h = h0
theorem ef_21_aaaa (m : MethodId) (x0 : Int32) (x1 : Int32) (x2 : Int32) (x3 : Addr) : entryFrame m #[(.int x0), (.int x1), (.int x2), (.ref x3)] 4 = mkF m 0 #[.val (.int x0), .val (.int x1), .val (.int x2), .val (.ref x3)] [] := by first | (simp [entryFrame, mkF, argsToLocals, Value.category]; done) | rfl
theorem rm21r (l : Launch) (Z : State) (a0 : Array Value) (hw : ∀ d ∈ tables_1, d.before a0 Z = true) (ws : List Jvm.Cond) (p0 : Int32) (p1 : Int32) (p2 : Int32) (fo : Addr) (h0 : Heap) (n0 : Nat) (Z0 : n0 ≤ h0.size) (hp0 : ¬ p0 < 0) (hp1 : ¬ p1 < p0) (hp2 : ¬ p2 < p1) :
    MetFree l y21 (head1 (Jvm.Cond.code y21 jdk_41_method_12_code 4 (some .int) :: ws) RM_0_0_0_0) (fun a U => a = #[(.int p0), (.int p1), (.int p2), (.ref fo)] ∧ Z.Warmed39 U.vm ∧ U.heap = h0) (fun _ _ _ _ _ => True) (fun _ U o U' => ∃ v L, o = .returned v ∧ Q21r Z p0 p1 p2 fo h0 n0 v U'.heap L ∧ FrameEnd U o U' L RM_0_0_0_0.cells RM_0_0_0_0.slots) := by
  refine MetFree.of_bodySF (plainFor_of_name pn_2) hisR ?_
  intro p e s m args below meth c s₁ Bd hml0 hP hK
  obtain ⟨rfl, hZ, hh⟩ := hP
  have hx := Bd.exec
  have hby := Bd.bytes
  have hml : c.maxLocals = 4 := hml0
  have hown : s.vm.findClass "jdk/internal/util/Preconditions" = some m.cls := findClass_of_methodNamed Bd.named
  have X0 : Stand p l e RM_0_0_0_0 s m _ below meth c s₁ [] 0 0 := Stand.of_body Bd
  have e0 : s₁.heap = h0 := by rw [← hh, Bd.state]; rfl
  have N0 := Fr.nil n0
  refine Go.into (P := fun oo uu => ∃ v L, oo = .returned v ∧ Q21r Z p0 p1 p2 fo h0 n0 v uu.heap L ∧ FrameEnd s oo uu L RM_0_0_0_0.cells RM_0_0_0_0.slots) (ef_21_aaaa m p0 p1 p2 fo) ?_
  show Go p e below _ (s₁.setTop (mkF m 0 #[sI p0, sI p1, sI p2, sR fo] []))
  refine Vi (s₁.setTop (mkF m 23 #[sI p0, sI p1, sI p2, sR fo] [(.int p0)])) (fun tZ kZ => ?_) ?_
  · refine XS.iloadN X0.here hx rfl (hb hby d21_0) rfl ?_
    refine XS.ifNo X0.here hx rfl (hb hby d21_1) rfl ((if0 _ _).trans (flt hp0).1) ?_
    refine XS.iloadN X0.here hx rfl (hb hby d21_4) rfl ?_
    refine XS.iloadN X0.here hx rfl (hb hby d21_5) rfl ?_
    refine XS.icmpNo X0.here hx rfl (hb hby d21_6) rfl (flt hp1).2.2.1 ?_
    refine XS.iloadN X0.here hx rfl (hb hby d21_9) rfl ?_
    refine XS.iloadN X0.here hx rfl (hb hby d21_10) rfl ?_
    refine XS.icmpYes X0.here hx rfl (pc0 := 11) (pc' := 22) rfl (hb hby d21_11) rfl (flt hp2).2.2.2 (by decide) (by decide) ?_
    refine XS.iloadN X0.here hx rfl (hb hby d21_22) rfl ?_
    exact kZ
  refine Go.retI X0 hx Bd.notSynchronized Bd.returns (hb hby d21_23) (by decide) (by decide) ?_
  rw [e0]
  exact ⟨rfl, N0, rfl⟩
theorem d20_0 : decode B20 0 = .ok (.iload_n 0, 1) := by decide +kernel
theorem d20_1 : decode B20 1 = .ok (.iload_n 1, 1) := by decide +kernel
theorem d20_2 : decode B20 2 = .ok (.iload_n 2, 1) := by decide +kernel
theorem d20_3 : decode B20 3 = .ok (.getstatic 1053, 3) := by decide +kernel
theorem pd_18 : parseMethodDescriptor "(IIILjava/util/function/BiFunction;)I" = some ⟨[.int, .int, .int, (.object "java/util/function/BiFunction")], some .int⟩ := by decide +kernel
theorem d20_6 : decode B20 6 = .ok (.invokestatic 1062, 3) := by decide +kernel
theorem d20_9 : decode B20 9 = .ok (.pop, 1) := by decide +kernel
theorem d20_10 : decode B20 10 = .ok (.return_, 1) := by decide +kernel
def Q20n (Z : State) (p0 : Int32) (p1 : Int32) (p2 : Int32) (h0 : Heap) (n0 : Nat) (v : Option Value) (h : Heap) (L : List Loc) : Prop := v = none ∧ Fr n0 L ∧ h = h0
abbrev RM_1_0_0_15 : Room := { frames := 1, cells := 0, slots := 0, locals := 15 }
theorem ef_20_aaa (m : MethodId) (x0 : Int32) (x1 : Int32) (x2 : Int32) : entryFrame m #[(.int x0), (.int x1), (.int x2)] 3 = mkF m 0 #[.val (.int x0), .val (.int x1), .val (.int x2)] [] := by first | (simp [entryFrame, mkF, argsToLocals, Value.category]; done) | rfl
theorem rm20n (l : Launch) (Z : State) (a0 : Array Value) (hw : ∀ d ∈ tables_1, d.before a0 Z = true) (ws : List Jvm.Cond) (p0 : Int32) (p1 : Int32) (p2 : Int32) (h0 : Heap) (n0 : Nat) (Z0 : n0 ≤ h0.size) (ha0 : Sta Z h0 "jdk/internal/util/Preconditions" "SIOOBE_FORMATTER" "Ljava/util/function/BiFunction;" .null) (hp0 : ¬ p0 < 0) (hp1 : ¬ p1 < p0) (hp2 : ¬ p2 < p1) :
    MetFree l y20 (head1 (Jvm.Cond.code y20 jdk_42_method_158_code 3 none :: ws) RM_1_0_0_15) (fun a U => a = #[(.int p0), (.int p1), (.int p2)] ∧ Z.Warmed39 U.vm ∧ U.heap = h0) (fun _ _ _ _ _ => True) (fun _ U o U' => ∃ v L, o = .returned v ∧ Q20n Z p0 p1 p2 h0 n0 v U'.heap L ∧ FrameEnd U o U' L RM_1_0_0_15.cells RM_1_0_0_15.slots) := by
  refine MetFree.of_bodySF (plainFor_of_name pn_0) hisR ?_
  intro p e s m args below meth c s₁ Bd hml0 hP hK
  obtain ⟨rfl, hZ, hh⟩ := hP
  have hx := Bd.exec
  have hby := Bd.bytes
  have hml : c.maxLocals = 3 := hml0
  have hown : s.vm.findClass "java/lang/String" = some m.cls := findClass_of_methodNamed Bd.named
  have X0 : Stand p l e RM_1_0_0_15 s m _ below meth c s₁ [] 0 0 := Stand.of_body Bd
  have e0 : s₁.heap = h0 := by rw [← hh, Bd.state]; rfl
  have N0 := Fr.nil n0
  refine Go.into (P := fun oo uu => ∃ v L, oo = .returned v ∧ Q20n Z p0 p1 p2 h0 n0 v uu.heap L ∧ FrameEnd s oo uu L RM_1_0_0_15.cells RM_1_0_0_15.slots) (ef_20_aaa m p0 p1 p2) ?_
  show Go p e below _ (s₁.setTop (mkF m 0 #[sI p0, sI p1, sI p2] []))
  refine Vi (s₁.setTop (mkF m 3 #[sI p0, sI p1, sI p2] [(.int p2), (.int p1), (.int p0)])) (fun tZ kZ => ?_) ?_
  · refine XS.iloadN X0.here hx rfl (hb hby d20_0) rfl ?_
    refine XS.iloadN X0.here hx rfl (hb hby d20_1) rfl ?_
    refine XS.iloadN X0.here hx rfl (hb hby d20_2) rfl ?_
    exact kZ
  obtain ⟨T1, X1, e1, st1⟩ := getS2 X0 hx hZ hown (host := "") (Or.inl (wq hw 109 rfl)) Via.refl e0 ha0 (g := (mkF m 3 #[sI p0, sI p1, sI p2] [(.int p2), (.int p1), (.int p0)])) rfl (hb hby d20_3)
  refine Go.via st1 ?_
  obtain ⟨_, _, ⟨T2, L2, k2, n2⟩, -, X2, ⟨Lc2, hQ2, l2, y2, z2⟩, st2⟩ := Jvm.LawKit.callS X1 hx (y := y21) hown (mvT hZ (wq hw 111 rfl)) (mvT hZ (wq hw 112 rfl)) (mvT hZ (wq hw 110 rfl)) (mvT hZ (wq hw 113 rfl)) (by decide) (backOf (W := 0) (rm21n l Z a0 hw [] p0 p1 p2 h0 n0 Z0 hp0 hp1 hp2) hZ (wq hw 113 rfl) (wq hw 110 rfl) (by decide) (by decide)) (g := (mkF m 6 #[sI p0, sI p1, sI p2] [.null, (.int p2), (.int p1), (.int p0)])) rfl (by rw [hml]; rfl) (argsL := [(.int p0), (.int p1), (.int p2), .null]) (rest := []) (lenOf pd_18 rfl) rfl (leW rfl) (hb hby d20_6) (fun _ _ => ⟨rfl, e1, (by decide : 0 + 0 ≤ _), (by decide : 0 + 0 ≤ _)⟩)
  dsimp only [Pt.U, Pt.locs, Pt.cells, Pt.slots] at X2 l2 y2 z2 st2 hQ2
  subst l2 y2 z2
  obtain ⟨rfl, N2q, e2⟩ := hQ2
  have N2 := Fr.app N0 N2q
  refine Go.via st2 ?_
  refine Vi (T2.setTop (mkF m 10 #[sI p0, sI p1, sI p2] [])) (fun tZ kZ => ?_) ?_
  · refine XS.pop X2.here hx rfl (hb hby d20_9) rfl rfl ?_
    exact kZ
  refine Go.retV X2 hx Bd.notSynchronized Bd.returns (hb hby d20_10) (by decide) (by decide) ?_
  rw [e2]
  exact ⟨rfl, N2, rfl⟩
def Q20r (Z : State) (p0 : Int32) (p1 : Int32) (p2 : Int32) (fo : Addr) (h0 : Heap) (n0 : Nat) (v : Option Value) (h : Heap) (L : List Loc) : Prop := v = none ∧ Fr n0 L ∧ h = h0
theorem rm20r (l : Launch) (Z : State) (a0 : Array Value) (hw : ∀ d ∈ tables_1, d.before a0 Z = true) (ws : List Jvm.Cond) (p0 : Int32) (p1 : Int32) (p2 : Int32) (fo : Addr) (h0 : Heap) (n0 : Nat) (Z0 : n0 ≤ h0.size) (ha0 : Sta Z h0 "jdk/internal/util/Preconditions" "SIOOBE_FORMATTER" "Ljava/util/function/BiFunction;" (.ref fo)) (hp0 : ¬ p0 < 0) (hp1 : ¬ p1 < p0) (hp2 : ¬ p2 < p1) :
    MetFree l y20 (head1 (Jvm.Cond.code y20 jdk_42_method_158_code 3 none :: ws) RM_1_0_0_15) (fun a U => a = #[(.int p0), (.int p1), (.int p2)] ∧ Z.Warmed39 U.vm ∧ U.heap = h0) (fun _ _ _ _ _ => True) (fun _ U o U' => ∃ v L, o = .returned v ∧ Q20r Z p0 p1 p2 fo h0 n0 v U'.heap L ∧ FrameEnd U o U' L RM_1_0_0_15.cells RM_1_0_0_15.slots) := by
  refine MetFree.of_bodySF (plainFor_of_name pn_0) hisR ?_
  intro p e s m args below meth c s₁ Bd hml0 hP hK
  obtain ⟨rfl, hZ, hh⟩ := hP
  have hx := Bd.exec
  have hby := Bd.bytes
  have hml : c.maxLocals = 3 := hml0
  have hown : s.vm.findClass "java/lang/String" = some m.cls := findClass_of_methodNamed Bd.named
  have X0 : Stand p l e RM_1_0_0_15 s m _ below meth c s₁ [] 0 0 := Stand.of_body Bd
  have e0 : s₁.heap = h0 := by rw [← hh, Bd.state]; rfl
  have N0 := Fr.nil n0
  refine Go.into (P := fun oo uu => ∃ v L, oo = .returned v ∧ Q20r Z p0 p1 p2 fo h0 n0 v uu.heap L ∧ FrameEnd s oo uu L RM_1_0_0_15.cells RM_1_0_0_15.slots) (ef_20_aaa m p0 p1 p2) ?_
  show Go p e below _ (s₁.setTop (mkF m 0 #[sI p0, sI p1, sI p2] []))
  refine Vi (s₁.setTop (mkF m 3 #[sI p0, sI p1, sI p2] [(.int p2), (.int p1), (.int p0)])) (fun tZ kZ => ?_) ?_
  · refine XS.iloadN X0.here hx rfl (hb hby d20_0) rfl ?_
    refine XS.iloadN X0.here hx rfl (hb hby d20_1) rfl ?_
    refine XS.iloadN X0.here hx rfl (hb hby d20_2) rfl ?_
    exact kZ
  obtain ⟨T1, X1, e1, st1⟩ := getS2 X0 hx hZ hown (host := "") (Or.inl (wq hw 109 rfl)) Via.refl e0 ha0 (g := (mkF m 3 #[sI p0, sI p1, sI p2] [(.int p2), (.int p1), (.int p0)])) rfl (hb hby d20_3)
  refine Go.via st1 ?_
  obtain ⟨_, _, ⟨T2, L2, k2, n2⟩, -, X2, ⟨Lc2, hQ2, l2, y2, z2⟩, st2⟩ := Jvm.LawKit.callS X1 hx (y := y21) hown (mvT hZ (wq hw 111 rfl)) (mvT hZ (wq hw 112 rfl)) (mvT hZ (wq hw 110 rfl)) (mvT hZ (wq hw 113 rfl)) (by decide) (backOf (W := 0) (rm21r l Z a0 hw [] p0 p1 p2 fo h0 n0 Z0 hp0 hp1 hp2) hZ (wq hw 113 rfl) (wq hw 110 rfl) (by decide) (by decide)) (g := (mkF m 6 #[sI p0, sI p1, sI p2] [(.ref fo), (.int p2), (.int p1), (.int p0)])) rfl (by rw [hml]; rfl) (argsL := [(.int p0), (.int p1), (.int p2), (.ref fo)]) (rest := []) (lenOf pd_18 rfl) rfl (leW rfl) (hb hby d20_6) (fun _ _ => ⟨rfl, e1, (by decide : 0 + 0 ≤ _), (by decide : 0 + 0 ≤ _)⟩)
  dsimp only [Pt.U, Pt.locs, Pt.cells, Pt.slots] at X2 l2 y2 z2 st2 hQ2
  subst l2 y2 z2
  obtain ⟨rfl, N2q, e2⟩ := hQ2
  have N2 := Fr.app N0 N2q
  refine Go.via st2 ?_
  refine Vi (T2.setTop (mkF m 10 #[sI p0, sI p1, sI p2] [])) (fun tZ kZ => ?_) ?_
  · refine XS.pop X2.here hx rfl (hb hby d20_9) rfl rfl ?_
    exact kZ
  refine Go.retV X2 hx Bd.notSynchronized Bd.returns (hb hby d20_10) (by decide) (by decide) ?_
  rw [e2]
  exact ⟨rfl, N2, rfl⟩
theorem rm20 (l : Launch) (Z : State) (a0 : Array Value) (hw : ∀ d ∈ tables_1, d.before a0 Z = true) (ws : List Jvm.Cond) (p0 : Int32) (p1 : Int32) (p2 : Int32) (sv : Value) (h0 : Heap) (n0 : Nat) (Z0 : n0 ≤ h0.size) (ha0 : Sta Z h0 "jdk/internal/util/Preconditions" "SIOOBE_FORMATTER" "Ljava/util/function/BiFunction;" sv) (hp0 : ¬ p0 < 0) (hp1 : ¬ p1 < p0) (hp2 : ¬ p2 < p1) (hsv : sv.isRef = true) :
    MetFree l y20 (head1 (Jvm.Cond.code y20 jdk_42_method_158_code 3 none :: ws) RM_1_0_0_15) (fun a U => a = #[(.int p0), (.int p1), (.int p2)] ∧ Z.Warmed39 U.vm ∧ U.heap = h0) (fun _ _ _ _ _ => True) (fun _ U o U' => ∃ v L, o = .returned v ∧ Q20n Z p0 p1 p2 h0 n0 v U'.heap L ∧ FrameEnd U o U' L RM_1_0_0_15.cells RM_1_0_0_15.slots) := by
  cases sv with
  | null => exact rm20n l Z a0 hw ws p0 p1 p2 h0 n0 Z0 ha0 hp0 hp1 hp2
  | ref fo => exact rm20r l Z a0 hw ws p0 p1 p2 fo h0 n0 Z0 ha0 hp0 hp1 hp2
  | _ => cases hsv
theorem d33_0 : decode B33 0 = .ok (.iload_n 0, 1) := by decide +kernel
theorem d33_1 : decode B33 1 = .ok (.ifCond .lt 8, 3) := by decide +kernel
theorem d33_4 : decode B33 4 = .ok (.iload_n 0, 1) := by decide +kernel
theorem d33_5 : decode B33 5 = .ok (.iload_n 1, 1) := by decide +kernel
theorem d33_6 : decode B33 6 = .ok (.if_icmp .lt 10, 3) := by decide +kernel
theorem d33_16 : decode B33 16 = .ok (.iload_n 0, 1) := by decide +kernel
theorem d33_17 : decode B33 17 = .ok (.ireturn, 1) := by decide +kernel
def Q33n (Z : State) (p0 : Int32) (p1 : Int32) (h0 : Heap) (n0 : Nat) (v : Option Value) (h : Heap) (L : List Loc) : Prop := v = some (.int p0) ∧ Fr n0 L ∧ h = h0
theorem ef_33_aan (m : MethodId) (x0 : Int32) (x1 : Int32) : entryFrame m #[(.int x0), (.int x1), .null] 3 = mkF m 0 #[.val (.int x0), .val (.int x1), .val .null] [] := by first | (simp [entryFrame, mkF, argsToLocals, Value.category]; done) | rfl
theorem rm33n (l : Launch) (Z : State) (a0 : Array Value) (hw : ∀ d ∈ tables_1, d.before a0 Z = true) (ws : List Jvm.Cond) (p0 : Int32) (p1 : Int32) (h0 : Heap) (n0 : Nat) (Z0 : n0 ≤ h0.size) (hp0 : ¬ p0 < 0) (hp1 : p0 < p1) :
    MetFree l y33 (head1 (Jvm.Cond.code y33 jdk_41_method_11_code 3 (some .int) :: ws) RM_0_0_0_0) (fun a U => a = #[(.int p0), (.int p1), .null] ∧ Z.Warmed39 U.vm ∧ U.heap = h0) (fun _ _ _ _ _ => True) (fun _ U o U' => ∃ v L, o = .returned v ∧ Q33n Z p0 p1 h0 n0 v U'.heap L ∧ FrameEnd U o U' L RM_0_0_0_0.cells RM_0_0_0_0.slots) := by
  refine MetFree.of_bodySF (plainFor_of_name pn_2) hisR ?_
  intro p e s m args below meth c s₁ Bd hml0 hP hK
  obtain ⟨rfl, hZ, hh⟩ := hP
  have hx := Bd.exec
  have hby := Bd.bytes
  have hml : c.maxLocals = 3 := hml0
  have hown : s.vm.findClass "jdk/internal/util/Preconditions" = some m.cls := findClass_of_methodNamed Bd.named
  have X0 : Stand p l e RM_0_0_0_0 s m _ below meth c s₁ [] 0 0 := Stand.of_body Bd
  have e0 : s₁.heap = h0 := by rw [← hh, Bd.state]; rfl
  have N0 := Fr.nil n0
  refine Go.into (P := fun oo uu => ∃ v L, oo = .returned v ∧ Q33n Z p0 p1 h0 n0 v uu.heap L ∧ FrameEnd s oo uu L RM_0_0_0_0.cells RM_0_0_0_0.slots) (ef_33_aan m p0 p1) ?_
  show Go p e below _ (s₁.setTop (mkF m 0 #[sI p0, sI p1, .val .null] []))
  refine Vi (s₁.setTop (mkF m 17 #[sI p0, sI p1, .val .null] [(.int p0)])) (fun tZ kZ => ?_) ?_
  · refine XS.iloadN X0.here hx rfl (hb hby d33_0) rfl ?_
    refine XS.ifNo X0.here hx rfl (hb hby d33_1) rfl ((if0 _ _).trans (flt hp0).1) ?_
    refine XS.iloadN X0.here hx rfl (hb hby d33_4) rfl ?_
    refine XS.iloadN X0.here hx rfl (hb hby d33_5) rfl ?_
    refine XS.icmpYes X0.here hx rfl (pc0 := 6) (pc' := 16) rfl (hb hby d33_6) rfl (tlt hp1).1 (by decide) (by decide) ?_
    refine XS.iloadN X0.here hx rfl (hb hby d33_16) rfl ?_
    exact kZ
  refine Go.retI X0 hx Bd.notSynchronized Bd.returns (hb hby d33_17) (by decide) (by decide) ?_
  rw [e0]
  exact ⟨rfl, N0, rfl⟩
def Q33r (Z : State) (p0 : Int32) (p1 : Int32) (fo : Addr) (h0 : Heap) (n0 : Nat) (v : Option Value) (h : Heap) (L : List Loc) : Prop := v = some (.int p0) ∧ Fr n0 L ∧ h = h0
theorem ef_33_aaa (m : MethodId) (x0 : Int32) (x1 : Int32) (x2 : Addr) : entryFrame m #[(.int x0), (.int x1), (.ref x2)] 3 = mkF m 0 #[.val (.int x0), .val (.int x1), .val (.ref x2)] [] := by first | (simp [entryFrame, mkF, argsToLocals, Value.category]; done) | rfl
theorem rm33r (l : Launch) (Z : State) (a0 : Array Value) (hw : ∀ d ∈ tables_1, d.before a0 Z = true) (ws : List Jvm.Cond) (p0 : Int32) (p1 : Int32) (fo : Addr) (h0 : Heap) (n0 : Nat) (Z0 : n0 ≤ h0.size) (hp0 : ¬ p0 < 0) (hp1 : p0 < p1) :
    MetFree l y33 (head1 (Jvm.Cond.code y33 jdk_41_method_11_code 3 (some .int) :: ws) RM_0_0_0_0) (fun a U => a = #[(.int p0), (.int p1), (.ref fo)] ∧ Z.Warmed39 U.vm ∧ U.heap = h0) (fun _ _ _ _ _ => True) (fun _ U o U' => ∃ v L, o = .returned v ∧ Q33r Z p0 p1 fo h0 n0 v U'.heap L ∧ FrameEnd U o U' L RM_0_0_0_0.cells RM_0_0_0_0.slots) := by
  refine MetFree.of_bodySF (plainFor_of_name pn_2) hisR ?_
  intro p e s m args below meth c s₁ Bd hml0 hP hK
  obtain ⟨rfl, hZ, hh⟩ := hP
  have hx := Bd.exec
  have hby := Bd.bytes
  have hml : c.maxLocals = 3 := hml0
  have hown : s.vm.findClass "jdk/internal/util/Preconditions" = some m.cls := findClass_of_methodNamed Bd.named
  have X0 : Stand p l e RM_0_0_0_0 s m _ below meth c s₁ [] 0 0 := Stand.of_body Bd
  have e0 : s₁.heap = h0 := by rw [← hh, Bd.state]; rfl
  have N0 := Fr.nil n0
  refine Go.into (P := fun oo uu => ∃ v L, oo = .returned v ∧ Q33r Z p0 p1 fo h0 n0 v uu.heap L ∧ FrameEnd s oo uu L RM_0_0_0_0.cells RM_0_0_0_0.slots) (ef_33_aaa m p0 p1 fo) ?_
  show Go p e below _ (s₁.setTop (mkF m 0 #[sI p0, sI p1, sR fo] []))
  refine Vi (s₁.setTop (mkF m 17 #[sI p0, sI p1, sR fo] [(.int p0)])) (fun tZ kZ => ?_) ?_
  · refine XS.iloadN X0.here hx rfl (hb hby d33_0) rfl ?_
    refine XS.ifNo X0.here hx rfl (hb hby d33_1) rfl ((if0 _ _).trans (flt hp0).1) ?_
    refine XS.iloadN X0.here hx rfl (hb hby d33_4) rfl ?_
    refine XS.iloadN X0.here hx rfl (hb hby d33_5) rfl ?_
    refine XS.icmpYes X0.here hx rfl (pc0 := 6) (pc' := 16) rfl (hb hby d33_6) rfl (tlt hp1).1 (by decide) (by decide) ?_
    refine XS.iloadN X0.here hx rfl (hb hby d33_16) rfl ?_
    exact kZ
  refine Go.retI X0 hx Bd.notSynchronized Bd.returns (hb hby d33_17) (by decide) (by decide) ?_
  rw [e0]
  exact ⟨rfl, N0, rfl⟩
theorem d32_0 : decode B32 0 = .ok (.iload_n 0, 1) := by decide +kernel
theorem d32_1 : decode B32 1 = .ok (.iload_n 1, 1) := by decide +kernel
theorem d32_2 : decode B32 2 = .ok (.getstatic 1053, 3) := by decide +kernel
theorem pd_29 : parseMethodDescriptor "(IILjava/util/function/BiFunction;)I" = some ⟨[.int, .int, (.object "java/util/function/BiFunction")], some .int⟩ := by decide +kernel
theorem d32_5 : decode B32 5 = .ok (.invokestatic 1059, 3) := by decide +kernel
theorem d32_8 : decode B32 8 = .ok (.pop, 1) := by decide +kernel
theorem d32_9 : decode B32 9 = .ok (.return_, 1) := by decide +kernel
def Q32n (Z : State) (p0 : Int32) (p1 : Int32) (h0 : Heap) (n0 : Nat) (v : Option Value) (h : Heap) (L : List Loc) : Prop := v = none ∧ Fr n0 L ∧ h = h0
abbrev RM_1_0_0_14 : Room := { frames := 1, cells := 0, slots := 0, locals := 14 }
theorem ef_32_aa (m : MethodId) (x0 : Int32) (x1 : Int32) : entryFrame m #[(.int x0), (.int x1)] 2 = mkF m 0 #[.val (.int x0), .val (.int x1)] [] := by first | (simp [entryFrame, mkF, argsToLocals, Value.category]; done) | rfl
theorem rm32n (l : Launch) (Z : State) (a0 : Array Value) (hw : ∀ d ∈ tables_1, d.before a0 Z = true) (ws : List Jvm.Cond) (p0 : Int32) (p1 : Int32) (h0 : Heap) (n0 : Nat) (Z0 : n0 ≤ h0.size) (ha0 : Sta Z h0 "jdk/internal/util/Preconditions" "SIOOBE_FORMATTER" "Ljava/util/function/BiFunction;" .null) (hp0 : ¬ p0 < 0) (hp1 : p0 < p1) :
    MetFree l y32 (head1 (Jvm.Cond.code y32 jdk_42_method_155_code 2 none :: ws) RM_1_0_0_14) (fun a U => a = #[(.int p0), (.int p1)] ∧ Z.Warmed39 U.vm ∧ U.heap = h0) (fun _ _ _ _ _ => True) (fun _ U o U' => ∃ v L, o = .returned v ∧ Q32n Z p0 p1 h0 n0 v U'.heap L ∧ FrameEnd U o U' L RM_1_0_0_14.cells RM_1_0_0_14.slots) := by
  refine MetFree.of_bodySF (plainFor_of_name pn_0) hisR ?_
  intro p e s m args below meth c s₁ Bd hml0 hP hK
  obtain ⟨rfl, hZ, hh⟩ := hP
  have hx := Bd.exec
  have hby := Bd.bytes
  have hml : c.maxLocals = 2 := hml0
  have hown : s.vm.findClass "java/lang/String" = some m.cls := findClass_of_methodNamed Bd.named
  have X0 : Stand p l e RM_1_0_0_14 s m _ below meth c s₁ [] 0 0 := Stand.of_body Bd
  have e0 : s₁.heap = h0 := by rw [← hh, Bd.state]; rfl
  have N0 := Fr.nil n0
  refine Go.into (P := fun oo uu => ∃ v L, oo = .returned v ∧ Q32n Z p0 p1 h0 n0 v uu.heap L ∧ FrameEnd s oo uu L RM_1_0_0_14.cells RM_1_0_0_14.slots) (ef_32_aa m p0 p1) ?_
  show Go p e below _ (s₁.setTop (mkF m 0 #[sI p0, sI p1] []))
  refine Vi (s₁.setTop (mkF m 2 #[sI p0, sI p1] [(.int p1), (.int p0)])) (fun tZ kZ => ?_) ?_
  · refine XS.iloadN X0.here hx rfl (hb hby d32_0) rfl ?_
    refine XS.iloadN X0.here hx rfl (hb hby d32_1) rfl ?_
    exact kZ
  obtain ⟨T1, X1, e1, st1⟩ := getS2 X0 hx hZ hown (host := "") (Or.inl (wq hw 109 rfl)) Via.refl e0 ha0 (g := (mkF m 2 #[sI p0, sI p1] [(.int p1), (.int p0)])) rfl (hb hby d32_2)
  refine Go.via st1 ?_
  obtain ⟨_, _, ⟨T2, L2, k2, n2⟩, -, X2, ⟨Lc2, hQ2, l2, y2, z2⟩, st2⟩ := Jvm.LawKit.callS X1 hx (y := y33) hown (mvT hZ (wq hw 158 rfl)) (mvT hZ (wq hw 159 rfl)) (mvT hZ (wq hw 110 rfl)) (mvT hZ (wq hw 160 rfl)) (by decide) (backOf (W := 0) (rm33n l Z a0 hw [] p0 p1 h0 n0 Z0 hp0 hp1) hZ (wq hw 160 rfl) (wq hw 110 rfl) (by decide) (by decide)) (g := (mkF m 5 #[sI p0, sI p1] [.null, (.int p1), (.int p0)])) rfl (by rw [hml]; rfl) (argsL := [(.int p0), (.int p1), .null]) (rest := []) (lenOf pd_29 rfl) rfl (leW rfl) (hb hby d32_5) (fun _ _ => ⟨rfl, e1, (by decide : 0 + 0 ≤ _), (by decide : 0 + 0 ≤ _)⟩)
  dsimp only [Pt.U, Pt.locs, Pt.cells, Pt.slots] at X2 l2 y2 z2 st2 hQ2
  subst l2 y2 z2
  obtain ⟨rfl, N2q, e2⟩ := hQ2
  have N2 := Fr.app N0 N2q
  refine Go.via st2 ?_
  refine Vi (T2.setTop (mkF m 9 #[sI p0, sI p1] [])) (fun tZ kZ => ?_) ?_
  · refine XS.pop X2.here hx rfl (hb hby d32_8) rfl rfl ?_
    exact kZ
  refine Go.retV X2 hx Bd.notSynchronized Bd.returns (hb hby d32_9) (by decide) (by decide) ?_
  rw [e2]
  exact ⟨rfl, N2, rfl⟩
def Q32r (Z : State) (p0 : Int32) (p1 : Int32) (fo : Addr) (h0 : Heap) (n0 : Nat) (v : Option Value) (h : Heap) (L : List Loc) : Prop := v = none ∧ Fr n0 L ∧ h = h0
theorem rm32r (l : Launch) (Z : State) (a0 : Array Value) (hw : ∀ d ∈ tables_1, d.before a0 Z = true) (ws : List Jvm.Cond) (p0 : Int32) (p1 : Int32) (fo : Addr) (h0 : Heap) (n0 : Nat) (Z0 : n0 ≤ h0.size) (ha0 : Sta Z h0 "jdk/internal/util/Preconditions" "SIOOBE_FORMATTER" "Ljava/util/function/BiFunction;" (.ref fo)) (hp0 : ¬ p0 < 0) (hp1 : p0 < p1) :
    MetFree l y32 (head1 (Jvm.Cond.code y32 jdk_42_method_155_code 2 none :: ws) RM_1_0_0_14) (fun a U => a = #[(.int p0), (.int p1)] ∧ Z.Warmed39 U.vm ∧ U.heap = h0) (fun _ _ _ _ _ => True) (fun _ U o U' => ∃ v L, o = .returned v ∧ Q32r Z p0 p1 fo h0 n0 v U'.heap L ∧ FrameEnd U o U' L RM_1_0_0_14.cells RM_1_0_0_14.slots) := by
  refine MetFree.of_bodySF (plainFor_of_name pn_0) hisR ?_
  intro p e s m args below meth c s₁ Bd hml0 hP hK
  obtain ⟨rfl, hZ, hh⟩ := hP
  have hx := Bd.exec
  have hby := Bd.bytes
  have hml : c.maxLocals = 2 := hml0
  have hown : s.vm.findClass "java/lang/String" = some m.cls := findClass_of_methodNamed Bd.named
  have X0 : Stand p l e RM_1_0_0_14 s m _ below meth c s₁ [] 0 0 := Stand.of_body Bd
  have e0 : s₁.heap = h0 := by rw [← hh, Bd.state]; rfl
  have N0 := Fr.nil n0
  refine Go.into (P := fun oo uu => ∃ v L, oo = .returned v ∧ Q32r Z p0 p1 fo h0 n0 v uu.heap L ∧ FrameEnd s oo uu L RM_1_0_0_14.cells RM_1_0_0_14.slots) (ef_32_aa m p0 p1) ?_
  show Go p e below _ (s₁.setTop (mkF m 0 #[sI p0, sI p1] []))
  refine Vi (s₁.setTop (mkF m 2 #[sI p0, sI p1] [(.int p1), (.int p0)])) (fun tZ kZ => ?_) ?_
  · refine XS.iloadN X0.here hx rfl (hb hby d32_0) rfl ?_
    refine XS.iloadN X0.here hx rfl (hb hby d32_1) rfl ?_
    exact kZ
  obtain ⟨T1, X1, e1, st1⟩ := getS2 X0 hx hZ hown (host := "") (Or.inl (wq hw 109 rfl)) Via.refl e0 ha0 (g := (mkF m 2 #[sI p0, sI p1] [(.int p1), (.int p0)])) rfl (hb hby d32_2)
  refine Go.via st1 ?_
  obtain ⟨_, _, ⟨T2, L2, k2, n2⟩, -, X2, ⟨Lc2, hQ2, l2, y2, z2⟩, st2⟩ := Jvm.LawKit.callS X1 hx (y := y33) hown (mvT hZ (wq hw 158 rfl)) (mvT hZ (wq hw 159 rfl)) (mvT hZ (wq hw 110 rfl)) (mvT hZ (wq hw 160 rfl)) (by decide) (backOf (W := 0) (rm33r l Z a0 hw [] p0 p1 fo h0 n0 Z0 hp0 hp1) hZ (wq hw 160 rfl) (wq hw 110 rfl) (by decide) (by decide)) (g := (mkF m 5 #[sI p0, sI p1] [(.ref fo), (.int p1), (.int p0)])) rfl (by rw [hml]; rfl) (argsL := [(.int p0), (.int p1), (.ref fo)]) (rest := []) (lenOf pd_29 rfl) rfl (leW rfl) (hb hby d32_5) (fun _ _ => ⟨rfl, e1, (by decide : 0 + 0 ≤ _), (by decide : 0 + 0 ≤ _)⟩)
  dsimp only [Pt.U, Pt.locs, Pt.cells, Pt.slots] at X2 l2 y2 z2 st2 hQ2
  subst l2 y2 z2
  obtain ⟨rfl, N2q, e2⟩ := hQ2
  have N2 := Fr.app N0 N2q
  refine Go.via st2 ?_
  refine Vi (T2.setTop (mkF m 9 #[sI p0, sI p1] [])) (fun tZ kZ => ?_) ?_
  · refine XS.pop X2.here hx rfl (hb hby d32_8) rfl rfl ?_
    exact kZ
  refine Go.retV X2 hx Bd.notSynchronized Bd.returns (hb hby d32_9) (by decide) (by decide) ?_
  rw [e2]
  exact ⟨rfl, N2, rfl⟩
theorem rm32 (l : Launch) (Z : State) (a0 : Array Value) (hw : ∀ d ∈ tables_1, d.before a0 Z = true) (ws : List Jvm.Cond) (p0 : Int32) (p1 : Int32) (sv : Value) (h0 : Heap) (n0 : Nat) (Z0 : n0 ≤ h0.size) (ha0 : Sta Z h0 "jdk/internal/util/Preconditions" "SIOOBE_FORMATTER" "Ljava/util/function/BiFunction;" sv) (hp0 : ¬ p0 < 0) (hp1 : p0 < p1) (hsv : sv.isRef = true) :
    MetFree l y32 (head1 (Jvm.Cond.code y32 jdk_42_method_155_code 2 none :: ws) RM_1_0_0_14) (fun a U => a = #[(.int p0), (.int p1)] ∧ Z.Warmed39 U.vm ∧ U.heap = h0) (fun _ _ _ _ _ => True) (fun _ U o U' => ∃ v L, o = .returned v ∧ Q32n Z p0 p1 h0 n0 v U'.heap L ∧ FrameEnd U o U' L RM_1_0_0_14.cells RM_1_0_0_14.slots) := by
  cases sv with
  | null => exact rm32n l Z a0 hw ws p0 p1 h0 n0 Z0 ha0 hp0 hp1
  | ref fo => exact rm32r l Z a0 hw ws p0 p1 fo h0 n0 Z0 ha0 hp0 hp1
  | _ => cases hsv
theorem d6_0 : decode B6 0 = .ok (.getstatic 1, 3) := by decide +kernel
theorem d6_3 : decode B6 3 = .ok (.astore_n 0, 1) := by decide +kernel
theorem d6_4 : decode B6 4 = .ok (.aload_n 0, 1) := by decide +kernel
theorem d6_5 : decode B6 5 = .ok (.areturn, 1) := by decide +kernel
def Q6 (Z : State) (em : Addr) (h0 : Heap) (n0 : Nat) (v : Option Value) (h : Heap) (L : List Loc) : Prop := v = some (.ref em) ∧ Fr n0 L ∧ h = h0
theorem pn_3 : plainName "java/util/Optional" = true := by first | (simp [plainName, overriddenIn]; done) | decide +kernel
theorem ef_6_ (m : MethodId)  : entryFrame m #[] 1 = mkF m 0 #[.unset] [] := by first | (simp [entryFrame, mkF, argsToLocals, Value.category]; done) | rfl
theorem rm6 (l : Launch) (Z : State) (a0 : Array Value) (hw : ∀ d ∈ tables_1, d.before a0 Z = true) (ws : List Jvm.Cond) (em : Addr) (h0 : Heap) (n0 : Nat) (Z0 : n0 ≤ h0.size) (ha0 : Sta Z h0 "java/util/Optional" "EMPTY" "Ljava/util/Optional;" (.ref em)) :
    MetFree l y6 (head1 (Jvm.Cond.code y6 jdk_32_method_1_code 1 (some (.object "java/util/Optional")) :: ws) RM_0_0_0_0) (fun a U => a = #[] ∧ Z.Warmed39 U.vm ∧ U.heap = h0) (fun _ _ _ _ _ => True) (fun _ U o U' => ∃ v L, o = .returned v ∧ Q6 Z em h0 n0 v U'.heap L ∧ FrameEnd U o U' L RM_0_0_0_0.cells RM_0_0_0_0.slots) := by
  refine MetFree.of_bodySF (plainFor_of_name pn_3) hisR ?_
  intro p e s m args below meth c s₁ Bd hml0 hP hK
  obtain ⟨rfl, hZ, hh⟩ := hP
  have hx := Bd.exec
  have hby := Bd.bytes
  have hml : c.maxLocals = 1 := hml0
  have hown : s.vm.findClass "java/util/Optional" = some m.cls := findClass_of_methodNamed Bd.named
  have X0 : Stand p l e RM_0_0_0_0 s m _ below meth c s₁ [] 0 0 := Stand.of_body Bd
  have e0 : s₁.heap = h0 := by rw [← hh, Bd.state]; rfl
  have N0 := Fr.nil n0
  refine Go.into (P := fun oo uu => ∃ v L, oo = .returned v ∧ Q6 Z em h0 n0 v uu.heap L ∧ FrameEnd s oo uu L RM_0_0_0_0.cells RM_0_0_0_0.slots) (ef_6_ m ) ?_
  show Go p e below _ (s₁.setTop (mkF m 0 #[.unset] []))
  obtain ⟨T1, X1, e1, st1⟩ := getS2 X0 hx hZ hown (host := "") (Or.inl (wq hw 38 rfl)) Via.refl e0 ha0 (g := (mkF m 0 #[.unset] [])) rfl (hb hby d6_0)
  refine Go.via st1 ?_
  refine Vi (T1.setTop (mkF m 5 #[sR em] [(.ref em)])) (fun tZ kZ => ?_) ?_
  · refine XS.astoreN X1.here hx rfl (hb hby d6_3) rfl rfl (l' := #[sR em]) rfl ?_
    refine XS.aloadN X1.here hx rfl (hb hby d6_4) rfl rfl ?_
    exact kZ
  refine Go.retR X1 hx Bd.notSynchronized Bd.returns rfl rfl (hb hby d6_5) (by decide) (by decide) ?_
  rw [e1]
  exact ⟨rfl, N0, rfl⟩
theorem d8_0 : decode B8 0 = .ok (.aload_n 0, 1) := by decide +kernel
theorem d8_1 : decode B8 1 = .ok (.invokespecial 1, 3) := by decide +kernel
theorem d8_4 : decode B8 4 = .ok (.return_, 1) := by decide +kernel
def Q8 (Z : State) (o0 : Addr) (h0 : Heap) (n0 : Nat) (v : Option Value) (h : Heap) (L : List Loc) : Prop := v = none ∧ Fr n0 L ∧ h = h0
abbrev RM_1_0_0_12 : Room := { frames := 1, cells := 0, slots := 0, locals := 12 }
theorem pn_4 : plainName "java/lang/Record" = true := by first | (simp [plainName, overriddenIn]; done) | decide +kernel
theorem ef_8_a (m : MethodId) (x0 : Addr) : entryFrame m #[(.ref x0)] 1 = mkF m 0 #[.val (.ref x0)] [] := by first | (simp [entryFrame, mkF, argsToLocals, Value.category]; done) | rfl
theorem rm8 (l : Launch) (Z : State) (a0 : Array Value) (hw : ∀ d ∈ tables_1, d.before a0 Z = true) (ws : List Jvm.Cond) (o0 : Addr) (h0 : Heap) (n0 : Nat) (Z0 : n0 ≤ h0.size) :
    MetFree l y8 (head1 (Jvm.Cond.code y8 jdk_30_method_1_code 1 none :: ws) RM_1_0_0_12) (fun a U => a = #[(.ref o0)] ∧ Z.Warmed39 U.vm ∧ U.heap = h0) (fun _ _ _ _ _ => True) (fun _ U o U' => ∃ v L, o = .returned v ∧ Q8 Z o0 h0 n0 v U'.heap L ∧ FrameEnd U o U' L RM_1_0_0_12.cells RM_1_0_0_12.slots) := by
  refine MetFree.of_bodySF (plainFor_of_name pn_4) hisR ?_
  intro p e s m args below meth c s₁ Bd hml0 hP hK
  obtain ⟨rfl, hZ, hh⟩ := hP
  have hx := Bd.exec
  have hby := Bd.bytes
  have hml : c.maxLocals = 1 := hml0
  have hown : s.vm.findClass "java/lang/Record" = some m.cls := findClass_of_methodNamed Bd.named
  have X0 : Stand p l e RM_1_0_0_12 s m _ below meth c s₁ [] 0 0 := Stand.of_body Bd
  have e0 : s₁.heap = h0 := by rw [← hh, Bd.state]; rfl
  have N0 := Fr.nil n0
  refine Go.into (P := fun oo uu => ∃ v L, oo = .returned v ∧ Q8 Z o0 h0 n0 v uu.heap L ∧ FrameEnd s oo uu L RM_1_0_0_12.cells RM_1_0_0_12.slots) (ef_8_a m o0) ?_
  show Go p e below _ (s₁.setTop (mkF m 0 #[sR o0] []))
  refine Vi (s₁.setTop (mkF m 1 #[sR o0] [(.ref o0)])) (fun tZ kZ => ?_) ?_
  · refine XS.aloadN X0.here hx rfl (hb hby d8_0) rfl rfl ?_
    exact kZ
  obtain ⟨T1, X1, e1, st1⟩ := initO X0 hx hZ hown (wq hw 47 rfl) (wq hw 26 rfl) (wq hw 27 rfl) e0 (g := (mkF m 1 #[sR o0] [(.ref o0)])) rfl (by rw [hml]; rfl) rfl (hb hby d8_1) (by decide) (W := 0) (by show 2 * 0 + _ ≤ _; exact Nat.le_of_eq rfl) (by decide)
  refine Go.via st1 ?_
  refine Go.retV X1 hx Bd.notSynchronized Bd.returns (hb hby d8_4) (by decide) (by decide) ?_
  rw [e1]
  exact ⟨rfl, N0, rfl⟩
theorem d7_0 : decode B7 0 = .ok (.aload_n 0, 1) := by decide +kernel
theorem pd_3 : parseMethodDescriptor "()V" = some ⟨[], none⟩ := by decide +kernel
theorem d7_1 : decode B7 1 = .ok (.invokespecial 1, 3) := by decide +kernel
theorem d7_4 : decode B7 4 = .ok (.aload_n 0, 1) := by decide +kernel
theorem d7_5 : decode B7 5 = .ok (.aload_n 1, 1) := by decide +kernel
theorem d7_6 : decode B7 6 = .ok (.putfield 7, 3) := by decide +kernel
theorem d7_9 : decode B7 9 = .ok (.aload_n 0, 1) := by decide +kernel
theorem d7_10 : decode B7 10 = .ok (.aload_n 2, 1) := by decide +kernel
theorem d7_11 : decode B7 11 = .ok (.putfield 13, 3) := by decide +kernel
theorem d7_14 : decode B7 14 = .ok (.aload_n 0, 1) := by decide +kernel
theorem d7_15 : decode B7 15 = .ok (.aload_n 3, 1) := by decide +kernel
theorem d7_16 : decode B7 16 = .ok (.putfield 16, 3) := by decide +kernel
theorem d7_19 : decode B7 19 = .ok (.return_, 1) := by decide +kernel
def Q7 (Z : State) (o0 : Addr) (o1 : Addr) (o2 : Addr) (o3 : Addr) (h0 : Heap) (n0 : Nat) (v : Option Value) (h : Heap) (L : List Loc) : Prop := v = none ∧ Fr n0 L ∧ Keep h0 h [o0] ∧ Exa Z h o0 "com/example/bindery/bindery/compiler/JavaType" ∧ Fld Z h o0 "com/example/bindery/bindery/compiler/JavaType" "packageName" "Ljava/lang/String;" (.ref o1) ∧ Fld Z h o0 "com/example/bindery/bindery/compiler/JavaType" "name" "Ljava/lang/String;" (.ref o2) ∧ Fld Z h o0 "com/example/bindery/bindery/compiler/JavaType" "argument" "Ljava/util/Optional;" (.ref o3)
abbrev RM_2_0_0_24 : Room := { frames := 2, cells := 0, slots := 0, locals := 24 }
theorem pn_5 : plainName "com/example/bindery/bindery/compiler/JavaType" = true := by first | (simp [plainName, overriddenIn]; done) | decide +kernel
theorem ef_7_aaaa (m : MethodId) (x0 : Addr) (x1 : Addr) (x2 : Addr) (x3 : Addr) : entryFrame m #[(.ref x0), (.ref x1), (.ref x2), (.ref x3)] 4 = mkF m 0 #[.val (.ref x0), .val (.ref x1), .val (.ref x2), .val (.ref x3)] [] := by first | (simp [entryFrame, mkF, argsToLocals, Value.category]; done) | rfl
theorem rm7 (l : Launch) (Z : State) (a0 : Array Value) (hw : ∀ d ∈ tables_1, d.before a0 Z = true) (ws : List Jvm.Cond) (o0 : Addr) (o1 : Addr) (o2 : Addr) (o3 : Addr) (h0 : Heap) (n0 : Nat) (Z0 : n0 ≤ h0.size) (ha0 : Exa Z h0 o0 "com/example/bindery/bindery/compiler/JavaType") (ha1 : Fld Z h0 o0 "com/example/bindery/bindery/compiler/JavaType" "packageName" "Ljava/lang/String;" .null) (ha2 : Fld Z h0 o0 "com/example/bindery/bindery/compiler/JavaType" "name" "Ljava/lang/String;" .null) (ha3 : Fld Z h0 o0 "com/example/bindery/bindery/compiler/JavaType" "argument" "Ljava/util/Optional;" .null) (ha4 : n0 ≤ o0) :
    MetFree l y7 (head1 (Jvm.Cond.code y7 prog_5_method_2_code 4 none :: ws) RM_2_0_0_24) (fun a U => a = #[(.ref o0), (.ref o1), (.ref o2), (.ref o3)] ∧ Z.Warmed39 U.vm ∧ U.heap = h0) (fun _ _ _ _ _ => True) (fun _ U o U' => ∃ v L, o = .returned v ∧ Q7 Z o0 o1 o2 o3 h0 n0 v U'.heap L ∧ FrameEnd U o U' L RM_2_0_0_24.cells RM_2_0_0_24.slots) := by
  refine MetFree.of_bodySF (plainFor_of_name pn_5) hisR ?_
  intro p e s m args below meth c s₁ Bd hml0 hP hK
  obtain ⟨rfl, hZ, hh⟩ := hP
  have hx := Bd.exec
  have hby := Bd.bytes
  have hml : c.maxLocals = 4 := hml0
  have hown : s.vm.findClass "com/example/bindery/bindery/compiler/JavaType" = some m.cls := findClass_of_methodNamed Bd.named
  have hnm := (name_of_methodNamed Bd.named Bd.method).1
  have X0 : Stand p l e RM_2_0_0_24 s m _ below meth c s₁ [] 0 0 := Stand.of_body Bd
  have e0 : s₁.heap = h0 := by rw [← hh, Bd.state]; rfl
  have N0 := Fr.nil n0
  refine Go.into (P := fun oo uu => ∃ v L, oo = .returned v ∧ Q7 Z o0 o1 o2 o3 h0 n0 v uu.heap L ∧ FrameEnd s oo uu L RM_2_0_0_24.cells RM_2_0_0_24.slots) (ef_7_aaaa m o0 o1 o2 o3) ?_
  show Go p e below _ (s₁.setTop (mkF m 0 #[sR o0, sR o1, sR o2, sR o3] []))
  refine Vi (s₁.setTop (mkF m 1 #[sR o0, sR o1, sR o2, sR o3] [(.ref o0)])) (fun tZ kZ => ?_) ?_
  · refine XS.aloadN X0.here hx rfl (hb hby d7_0) rfl rfl ?_
    exact kZ
  obtain ⟨_, _, ⟨T1, L1, k1, n1⟩, -, X1, ⟨Lc1, hQ1, l1, y1, z1⟩, st1⟩ := X0.specialBack hx (y := y8) rfl hown (mvT hZ (wq hw 42 rfl)) (mvT hZ (wq hw 43 rfl)) (mvT hZ (wq hw 46 rfl)) (by decide) (backOf (W := 0) (rm8 l Z a0 hw [] o0 h0 n0 Z0 ) hZ (wq hw 46 rfl) (wq hw 45 rfl) (by decide) (by decide)) (g := (mkF m 1 #[sR o0, sR o1, sR o2, sR o3] [(.ref o0)])) rfl (by rw [hml]; rfl) (Steps.refl _) (a := o0) (argsL := []) (rest := []) (lenOf pd_3 rfl) rfl (leW rfl) (hb hby d7_1) (fun _ _ => ⟨rfl, e0, (by decide : 0 + 0 ≤ _), (by decide : 0 + 0 ≤ _)⟩)
  dsimp only [Pt.U, Pt.locs, Pt.cells, Pt.slots] at X1 l1 y1 z1 st1 hQ1
  subst l1 y1 z1
  obtain ⟨rfl, N1q, e1⟩ := hQ1
  have N1 := Fr.app N0 N1q
  refine Go.via (fun t k => st1.trans k) ?_
  refine Vi (T1.setTop (mkF m 6 #[sR o0, sR o1, sR o2, sR o3] [(.ref o1), (.ref o0)])) (fun tZ kZ => ?_) ?_
  · refine XS.aloadN X1.here hx rfl (hb hby d7_4) rfl rfl ?_
    refine XS.aloadN X1.here hx rfl (hb hby d7_5) rfl rfl ?_
    exact kZ
  obtain ⟨T2, h2, X2, e2, W2, st2⟩ := putF X1 hx hZ hown (host := "") (Or.inl (wq hw 48 rfl)) Via.refl e1 ha1 ha0 (Or.inr ⟨(wq hw 49 rfl), rfl, hnm⟩) (wq hw 15 rfl) (ty := (.object "java/lang/String")) (by decide) rfl rfl (g := (mkF m 6 #[sR o0, sR o1, sR o2, sR o3] [(.ref o1), (.ref o0)])) rfl rfl (hb hby d7_6)
  have N2 := Fr.snoc X2 N1 ha4
  have c3_0 := ha0.wr W2
  have c3_2 := ha2.other W2 (Or.inr (slot_ne (Or.inr (wq hw 51 rfl)) (Or.inr (wq hw 49 rfl)) (by decide) (t := (.object "java/lang/String")) (t' := (.object "java/lang/String")) (by decide) (by decide)))
  have c3_3 := ha3.other W2 (Or.inr (slot_ne (Or.inr (wq hw 53 rfl)) (Or.inr (wq hw 49 rfl)) (by decide) (t := (.object "java/util/Optional")) (t' := (.object "java/lang/String")) (by decide) (by decide)))
  have K2 : Keep h0 h2 [o0] := (Keep.refl h0 [o0]).wr W2 (Or.inl (by simp))
  have Z2 : n0 ≤ h2.size := Nat.le_trans Z0 (Keep.of_wr W2).1
  have Fw2 := ha1.same W2
  refine Go.via st2 ?_
  refine Vi (T2.setTop (mkF m 11 #[sR o0, sR o1, sR o2, sR o3] [(.ref o2), (.ref o0)])) (fun tZ kZ => ?_) ?_
  · refine XS.aloadN X2.here hx rfl (hb hby d7_9) rfl rfl ?_
    refine XS.aloadN X2.here hx rfl (hb hby d7_10) rfl rfl ?_
    exact kZ
  obtain ⟨T4, h4, X4, e4, W4, st4⟩ := putF X2 hx hZ hown (host := "") (Or.inl (wq hw 50 rfl)) Via.refl e2 c3_2 c3_0 (Or.inr ⟨(wq hw 51 rfl), rfl, hnm⟩) (wq hw 15 rfl) (ty := (.object "java/lang/String")) (by decide) rfl rfl (g := (mkF m 11 #[sR o0, sR o1, sR o2, sR o3] [(.ref o2), (.ref o0)])) rfl rfl (hb hby d7_11)
  have N4 := Fr.snoc X4 N2 ha4
  have c5_0 := c3_0.wr W4
  have c5_1 := Fw2.other W4 (Or.inr (slot_ne (Or.inr (wq hw 49 rfl)) (Or.inr (wq hw 51 rfl)) (by decide) (t := (.object "java/lang/String")) (t' := (.object "java/lang/String")) (by decide) (by decide)))
  have c5_3 := c3_3.other W4 (Or.inr (slot_ne (Or.inr (wq hw 53 rfl)) (Or.inr (wq hw 51 rfl)) (by decide) (t := (.object "java/util/Optional")) (t' := (.object "java/lang/String")) (by decide) (by decide)))
  have K4 : Keep h0 h4 [o0] := K2.wr W4 (Or.inl (by simp))
  have Z4 : n0 ≤ h4.size := Nat.le_trans Z2 (Keep.of_wr W4).1
  have Fw4 := c3_2.same W4
  refine Go.via st4 ?_
  refine Vi (T4.setTop (mkF m 16 #[sR o0, sR o1, sR o2, sR o3] [(.ref o3), (.ref o0)])) (fun tZ kZ => ?_) ?_
  · refine XS.aloadN X4.here hx rfl (hb hby d7_14) rfl rfl ?_
    refine XS.aloadN X4.here hx rfl (hb hby d7_15) rfl rfl ?_
    exact kZ
  obtain ⟨T6, h6, X6, e6, W6, st6⟩ := putF X4 hx hZ hown (host := "") (Or.inl (wq hw 52 rfl)) Via.refl e4 c5_3 c5_0 (Or.inr ⟨(wq hw 53 rfl), rfl, hnm⟩) (wq hw 15 rfl) (ty := (.object "java/util/Optional")) (by decide) rfl rfl (g := (mkF m 16 #[sR o0, sR o1, sR o2, sR o3] [(.ref o3), (.ref o0)])) rfl rfl (hb hby d7_16)
  have N6 := Fr.snoc X6 N4 ha4
  have c7_0 := c5_0.wr W6
  have c7_1 := c5_1.other W6 (Or.inr (slot_ne (Or.inr (wq hw 49 rfl)) (Or.inr (wq hw 53 rfl)) (by decide) (t := (.object "java/lang/String")) (t' := (.object "java/util/Optional")) (by decide) (by decide)))
  have c7_2 := Fw4.other W6 (Or.inr (slot_ne (Or.inr (wq hw 51 rfl)) (Or.inr (wq hw 53 rfl)) (by decide) (t := (.object "java/lang/String")) (t' := (.object "java/util/Optional")) (by decide) (by decide)))
  have K6 : Keep h0 h6 [o0] := K4.wr W6 (Or.inl (by simp))
  have Z6 : n0 ≤ h6.size := Nat.le_trans Z4 (Keep.of_wr W6).1
  have Fw6 := c5_3.same W6
  refine Go.via st6 ?_
  refine Go.retV X6 hx Bd.notSynchronized Bd.returns (hb hby d7_19) (by decide) (by decide) ?_
  rw [e6]
  exact ⟨rfl, N6, K6, c7_0, c7_1, c7_2, Fw6⟩
theorem d5_0 : decode B5 0 = .ok (.aload_n 0, 1) := by decide +kernel
theorem d5_1 : decode B5 1 = .ok (.aload_n 1, 1) := by decide +kernel
theorem d5_2 : decode B5 2 = .ok (.aload_n 2, 1) := by decide +kernel
theorem pd_5 : parseMethodDescriptor "()Ljava/util/Optional;" = some ⟨[], some (.object "java/util/Optional")⟩ := by decide +kernel
theorem d5_3 : decode B5 3 = .ok (.invokestatic 20, 3) := by decide +kernel
theorem pd_6 : parseMethodDescriptor "(Ljava/lang/String;Ljava/lang/String;Ljava/util/Optional;)V" = some ⟨[(.object "java/lang/String"), (.object "java/lang/String"), (.object "java/util/Optional")], none⟩ := by decide +kernel
theorem d5_6 : decode B5 6 = .ok (.invokespecial 26, 3) := by decide +kernel
theorem d5_9 : decode B5 9 = .ok (.return_, 1) := by decide +kernel
def Q5 (Z : State) (o0 : Addr) (o1 : Addr) (o2 : Addr) (em : Addr) (h0 : Heap) (n0 : Nat) (v : Option Value) (h : Heap) (L : List Loc) : Prop := v = none ∧ Fr n0 L ∧ Keep h0 h [o0] ∧ Exa Z h o0 "com/example/bindery/bindery/compiler/JavaType" ∧ Fld Z h o0 "com/example/bindery/bindery/compiler/JavaType" "packageName" "Ljava/lang/String;" (.ref o1) ∧ Fld Z h o0 "com/example/bindery/bindery/compiler/JavaType" "name" "Ljava/lang/String;" (.ref o2) ∧ Fld Z h o0 "com/example/bindery/bindery/compiler/JavaType" "argument" "Ljava/util/Optional;" (.ref em) ∧ Sta Z h "java/util/Optional" "EMPTY" "Ljava/util/Optional;" (.ref em)
abbrev RM_3_0_0_39 : Room := { frames := 3, cells := 0, slots := 0, locals := 39 }
theorem ef_5_aaa (m : MethodId) (x0 : Addr) (x1 : Addr) (x2 : Addr) : entryFrame m #[(.ref x0), (.ref x1), (.ref x2)] 3 = mkF m 0 #[.val (.ref x0), .val (.ref x1), .val (.ref x2)] [] := by first | (simp [entryFrame, mkF, argsToLocals, Value.category]; done) | rfl
theorem rm5 (l : Launch) (Z : State) (a0 : Array Value) (hw : ∀ d ∈ tables_1, d.before a0 Z = true) (ws : List Jvm.Cond) (o0 : Addr) (o1 : Addr) (o2 : Addr) (em : Addr) (h0 : Heap) (n0 : Nat) (Z0 : n0 ≤ h0.size) (ha0 : Exa Z h0 o0 "com/example/bindery/bindery/compiler/JavaType") (ha1 : Fld Z h0 o0 "com/example/bindery/bindery/compiler/JavaType" "packageName" "Ljava/lang/String;" .null) (ha2 : Fld Z h0 o0 "com/example/bindery/bindery/compiler/JavaType" "name" "Ljava/lang/String;" .null) (ha3 : Fld Z h0 o0 "com/example/bindery/bindery/compiler/JavaType" "argument" "Ljava/util/Optional;" .null) (ha4 : n0 ≤ o0) (ha5 : Sta Z h0 "java/util/Optional" "EMPTY" "Ljava/util/Optional;" (.ref em)) :
    MetFree l y5 (head1 (Jvm.Cond.code y5 prog_5_method_1_code 3 none :: ws) RM_3_0_0_39) (fun a U => a = #[(.ref o0), (.ref o1), (.ref o2)] ∧ Z.Warmed39 U.vm ∧ U.heap = h0) (fun _ _ _ _ _ => True) (fun _ U o U' => ∃ v L, o = .returned v ∧ Q5 Z o0 o1 o2 em h0 n0 v U'.heap L ∧ FrameEnd U o U' L RM_3_0_0_39.cells RM_3_0_0_39.slots) := by
  refine MetFree.of_bodySF (plainFor_of_name pn_5) hisR ?_
  intro p e s m args below meth c s₁ Bd hml0 hP hK
  obtain ⟨rfl, hZ, hh⟩ := hP
  have hx := Bd.exec
  have hby := Bd.bytes
  have hml : c.maxLocals = 3 := hml0
  have hown : s.vm.findClass "com/example/bindery/bindery/compiler/JavaType" = some m.cls := findClass_of_methodNamed Bd.named
  have X0 : Stand p l e RM_3_0_0_39 s m _ below meth c s₁ [] 0 0 := Stand.of_body Bd
  have e0 : s₁.heap = h0 := by rw [← hh, Bd.state]; rfl
  have N0 := Fr.nil n0
  refine Go.into (P := fun oo uu => ∃ v L, oo = .returned v ∧ Q5 Z o0 o1 o2 em h0 n0 v uu.heap L ∧ FrameEnd s oo uu L RM_3_0_0_39.cells RM_3_0_0_39.slots) (ef_5_aaa m o0 o1 o2) ?_
  show Go p e below _ (s₁.setTop (mkF m 0 #[sR o0, sR o1, sR o2] []))
  refine Vi (s₁.setTop (mkF m 3 #[sR o0, sR o1, sR o2] [(.ref o2), (.ref o1), (.ref o0)])) (fun tZ kZ => ?_) ?_
  · refine XS.aloadN X0.here hx rfl (hb hby d5_0) rfl rfl ?_
    refine XS.aloadN X0.here hx rfl (hb hby d5_1) rfl rfl ?_
    refine XS.aloadN X0.here hx rfl (hb hby d5_2) rfl rfl ?_
    exact kZ
  obtain ⟨_, _, ⟨T1, L1, k1, n1⟩, -, X1, ⟨Lc1, hQ1, l1, y1, z1⟩, st1⟩ := Jvm.LawKit.callS X0 hx (y := y6) hown (mvT hZ (wq hw 34 rfl)) (mvT hZ (wq hw 35 rfl)) (mvT hZ (wq hw 36 rfl)) (mvT hZ (wq hw 37 rfl)) (by decide) (backOf (W := 3) (rm6 l Z a0 hw [] em h0 n0 Z0 ha5) hZ (wq hw 37 rfl) (wq hw 36 rfl) (by decide) (by decide)) (g := (mkF m 3 #[sR o0, sR o1, sR o2] [(.ref o2), (.ref o1), (.ref o0)])) rfl (by rw [hml]; rfl) (argsL := []) (rest := [(.ref o2), (.ref o1), (.ref o0)]) (lenOf pd_5 rfl) rfl (leW rfl) (hb hby d5_3) (fun _ _ => ⟨rfl, e0, (by decide : 0 + 0 ≤ _), (by decide : 0 + 0 ≤ _)⟩)
  dsimp only [Pt.U, Pt.locs, Pt.cells, Pt.slots] at X1 l1 y1 z1 st1 hQ1
  subst l1 y1 z1
  obtain ⟨rfl, N1q, e1⟩ := hQ1
  have N1 := Fr.app N0 N1q
  refine Go.via st1 ?_
  obtain ⟨_, _, ⟨T2, L2, k2, n2⟩, -, X2, ⟨Lc2, hQ2, l2, y2, z2⟩, st2⟩ := X1.specialBack hx (y := y7) rfl hown (mvT hZ (wq hw 39 rfl)) (mvT hZ (wq hw 40 rfl)) (mvT hZ (wq hw 41 rfl)) (by decide) (backOf (W := 0) (rm7 l Z a0 hw [] o0 o1 o2 em h0 n0 Z0 ha0 ha1 ha2 ha3 ha4) hZ (wq hw 41 rfl) (wq hw 16 rfl) (by decide) (by decide)) (g := (mkF m 6 #[sR o0, sR o1, sR o2] [(.ref em), (.ref o2), (.ref o1), (.ref o0)])) rfl (by rw [hml]; rfl) (Steps.refl _) (a := o0) (argsL := [(.ref o1), (.ref o2), (.ref em)]) (rest := []) (lenOf pd_6 rfl) rfl (leW rfl) (hb hby d5_6) (fun _ _ => ⟨rfl, e1, (by decide : 0 + 0 + 0 ≤ _), (by decide : 0 + 0 + 0 ≤ _)⟩)
  dsimp only [Pt.U, Pt.locs, Pt.cells, Pt.slots] at X2 l2 y2 z2 st2 hQ2
  subst l2 y2 z2
  obtain ⟨rfl, N2q, Kq2, f2_0, f2_1, f2_2, f2_3⟩ := hQ2
  have c3_5 := own_sk ha5 Kq2 (own_ns1 ha0.nostat (fun _ _ _ _ => nin0))
  have K2 : Keep h0 T2.heap [o0] := (Keep.refl h0 [o0]).trans Kq2 (allS (Or.inl (by simp)) all0)
  have Z2 : n0 ≤ T2.heap.size := Nat.le_trans Z0 Kq2.1
  have N2 := Fr.app N1 N2q
  refine Go.via (fun t k => st2.trans k) ?_
  refine Go.retV X2 hx Bd.notSynchronized Bd.returns (hb hby d5_9) (by decide) (by decide) ?_
  exact ⟨rfl, N2, K2, f2_0, f2_1, f2_2, f2_3, c3_5⟩
theorem d1_0 : decode B1 0 = .ok (.iload_n 1, 1) := by decide +kernel
theorem d1_1 : decode B1 1 = .ok (.iload_n 2, 1) := by decide +kernel
theorem d1_2 : decode B1 2 = .ok (.ishr, 1) := by decide +kernel
theorem d1_3 : decode B1 3 = .ok (.iconst 1, 1) := by decide +kernel
theorem d1_4 : decode B1 4 = .ok (.iand, 1) := by decide +kernel
theorem d1_5 : decode B1 5 = .ok (.ifCond .eq 8, 3) := by decide +kernel
theorem d1_13 : decode B1 13 = .ok (.iload_n 0, 1) := by decide +kernel
theorem d1_14 : decode B1 14 = .ok (.sipush 255, 3) := by decide +kernel
theorem d1_17 : decode B1 17 = .ok (.iand, 1) := by decide +kernel
theorem d1_18 : decode B1 18 = .ok (.i2c, 1) := by decide +kernel
theorem d1_8 : decode B1 8 = .ok (.bipush 46, 2) := by decide +kernel
theorem d1_10 : decode B1 10 = .ok (.goto 9, 3) := by decide +kernel
def w1_0 (p0 : Int32) (p1 : Int32) (p2 : Int32) : Int32 := (if ((p1 >>> (p2 &&& 31)) &&& (1 : Int32)) = (0 : Int32) then ((p0 &&& (255 : Int32)).toUInt32.toUInt16.toUInt32.toInt32) else (46 : Int32))
theorem d1_19 : decode B1 19 = .ok (.ireturn, 1) := by decide +kernel
def f1 (p0 : Int32) (p1 : Int32) (p2 : Int32) : Int32 := (nar .char (w1_0 p0 p1 p2))
def Q1 (p0 : Int32) (p1 : Int32) (p2 : Int32) (h0 : Heap) (n0 : Nat) (v : Option Value) (h : Heap) (L : List Loc) : Prop := v = some (.int (f1 p0 p1 p2)) ∧ Fr n0 L ∧ h = h0
theorem pn_6 : plainName "com/example/bindery/bindery/compiler/JavaTypeSimpleNamePinLaw" = true := by first | (simp [plainName, overriddenIn]; done) | decide +kernel
theorem ef_1_aaa (m : MethodId) (x0 : Int32) (x1 : Int32) (x2 : Int32) : entryFrame m #[(.int x0), (.int x1), (.int x2)] 3 = mkF m 0 #[.val (.int x0), .val (.int x1), .val (.int x2)] [] := by first | (simp [entryFrame, mkF, argsToLocals, Value.category]; done) | rfl
theorem rm1 (l : Launch) (Z : State) (a0 : Array Value) (hw : ∀ d ∈ tables_1, d.before a0 Z = true) (ws : List Jvm.Cond) (p0 : Int32) (p1 : Int32) (p2 : Int32) (h0 : Heap) (n0 : Nat) (Z0 : n0 ≤ h0.size) :
    MetFree l y1 (head1 (Jvm.Cond.code y1 method_2_code 3 (some .char) :: ws) RM_0_0_0_0) (fun a U => a = #[(.int p0), (.int p1), (.int p2)] ∧ Z.Warmed39 U.vm ∧ U.heap = h0) (fun _ _ _ _ _ => True) (fun _ U o U' => ∃ v L, o = .returned v ∧ Q1 p0 p1 p2 h0 n0 v U'.heap L ∧ FrameEnd U o U' L RM_0_0_0_0.cells RM_0_0_0_0.slots) := by
  refine MetFree.of_bodySF (plainFor_of_name pn_6) hisR ?_
  intro p e s m args below meth c s₁ Bd hml0 hP hK
  obtain ⟨rfl, hZ, hh⟩ := hP
  have hx := Bd.exec
  have hby := Bd.bytes
  have hml : c.maxLocals = 3 := hml0
  have hown : s.vm.findClass "com/example/bindery/bindery/compiler/JavaTypeSimpleNamePinLaw" = some m.cls := findClass_of_methodNamed Bd.named
  have X0 : Stand p l e RM_0_0_0_0 s m _ below meth c s₁ [] 0 0 := Stand.of_body Bd
  have e0 : s₁.heap = h0 := by rw [← hh, Bd.state]; rfl
  have N0 := Fr.nil n0
  refine Go.into (P := fun oo uu => ∃ v L, oo = .returned v ∧ Q1 p0 p1 p2 h0 n0 v uu.heap L ∧ FrameEnd s oo uu L RM_0_0_0_0.cells RM_0_0_0_0.slots) (ef_1_aaa m p0 p1 p2) ?_
  show Go p e below _ (s₁.setTop (mkF m 0 #[sI p0, sI p1, sI p2] []))
  refine Vi (s₁.setTop (mkF m 19 #[sI p0, sI p1, sI p2] [(.int (w1_0 p0 p1 p2))])) (fun tZ kZ => ?_) ?_
  · refine XS.iloadN X0.here hx rfl (hb hby d1_0) rfl ?_
    refine XS.iloadN X0.here hx rfl (hb hby d1_1) rfl ?_
    refine XS.ishr X0.here hx rfl (hb hby d1_2) rfl ?_
    refine XS.iconst X0.here hx rfl (hb hby d1_3) ?_
    refine XS.iand X0.here hx rfl (hb hby d1_4) rfl ?_
    have sg5 : Steps p.tables e below (s₁.setTop (mkF m 19 #[sI p0, sI p1, sI p2] [(.int (if ((p1 >>> (p2 &&& 31)) &&& (1 : Int32)) = (0 : Int32) then ((p0 &&& (255 : Int32)).toUInt32.toUInt16.toUInt32.toInt32) else (46 : Int32)))])) tZ → Steps p.tables e below (s₁.setTop (mkF m 5 #[sI p0, sI p1, sI p2] [(.int ((p1 >>> (p2 &&& 31)) &&& (1 : Int32)))])) tZ := by
      intro kj
      by_cases hc5 : ((p1 >>> (p2 &&& 31)) &&& (1 : Int32)) = (0 : Int32)
      · try simp only [if_pos hc5] at kj
        refine XS.ifYes X0.here hx rfl (pc0 := 5) (pc' := 13) rfl (hb hby d1_5) rfl ((if0 _ _).trans (teq hc5).1) (by decide) (by decide) ?_
        refine XS.iloadN X0.here hx rfl (hb hby d1_13) rfl ?_
        refine XS.sipush X0.here hx rfl (hb hby d1_14) ?_
        refine XS.iand X0.here hx rfl (hb hby d1_17) rfl ?_
        refine XS.i2c X0.here hx rfl (hb hby d1_18) rfl ?_
        exact kj
      · try simp only [if_neg hc5] at kj
        refine XS.ifNo X0.here hx rfl (hb hby d1_5) rfl ((if0 _ _).trans (feq hc5).1) ?_
        refine XS.bipush X0.here hx rfl (hb hby d1_8) ?_
        refine XS.goto X0.here hx rfl (pc0 := 10) (pc' := 19) rfl (hb hby d1_10) (by decide) (by decide) ?_
        exact kj
    refine sg5 ?_
    show Steps p.tables e below (s₁.setTop (mkF m 19 #[sI p0, sI p1, sI p2] [(.int (w1_0 p0 p1 p2))])) _
    exact kZ
  refine Go.retN X0 hx Bd.notSynchronized (t := .char) Bd.returns (by simp) (hb hby d1_19) (by decide) (by decide) ?_
  refine ⟨?_, N0, e0⟩
  show some ((Value.int (nar .char (w1_0 p0 p1 p2))) : Value) = some (.int (f1 p0 p1 p2))
  rfl
theorem own_pick (a b i : Int32) : own_ch (f1 a b i) := by
  unfold f1 w1_0
  split
  · exact own_idc2 a
  · exact ⟨⟨46, by decide⟩, by decide⟩
theorem own_sh0 (x : Int32) : x >>> ((0 : Int32) &&& 31) = x := by
  apply Int32.toBitVec_inj.mp
  rw [Int32.toBitVec_shiftRight]
  show x.toBitVec.sshiftRight _ = _
  exact BitVec.sshiftRight_zero
theorem d11_0 : decode B11 0 = .ok (.aload_n 0, 1) := by decide +kernel
theorem d11_1 : decode B11 1 = .ok (.getfield 9, 3) := by decide +kernel
theorem d11_4 : decode B11 4 = .ok (.arraylength, 1) := by decide +kernel
theorem d11_5 : decode B11 5 = .ok (.aload_n 0, 1) := by decide +kernel
theorem pd_10 : parseMethodDescriptor "()B" = some ⟨[], some .byte⟩ := by decide +kernel
theorem d11_6 : decode B11 6 = .ok (.invokevirtual 335, 3) := by decide +kernel
theorem d11_9 : decode B11 9 = .ok (.ishr, 1) := by decide +kernel
theorem d11_10 : decode B11 10 = .ok (.ireturn, 1) := by decide +kernel
def f11 (o0 : Addr) (b0 : Addr) (nN : Nat) (fF : Nat → Int32) (cs : Int32) : Int32 := ((Int32.ofNat nN) >>> ((0 : Int32) &&& 31))
def Q11 (o0 : Addr) (b0 : Addr) (nN : Nat) (fF : Nat → Int32) (cs : Int32) (h0 : Heap) (n0 : Nat) (v : Option Value) (h : Heap) (L : List Loc) : Prop := v = some (.int (f11 o0 b0 nN fF cs)) ∧ Fr n0 L ∧ h = h0
abbrev RM_1_0_0_13 : Room := { frames := 1, cells := 0, slots := 0, locals := 13 }
theorem ef_11_a (m : MethodId) (x0 : Addr) : entryFrame m #[(.ref x0)] 1 = mkF m 0 #[.val (.ref x0)] [] := by first | (simp [entryFrame, mkF, argsToLocals, Value.category]; done) | rfl
theorem rm11 (l : Launch) (Z : State) (a0 : Array Value) (hw : ∀ d ∈ tables_1, d.before a0 Z = true) (ws : List Jvm.Cond) (o0 : Addr) (b0 : Addr) (nN : Nat) (fF : Nat → Int32) (cs : Int32) (h0 : Heap) (n0 : Nat) (Z0 : n0 ≤ h0.size) (ha0 : Exa Z h0 o0 "java/lang/String") (ha1 : Fld Z h0 o0 "java/lang/String" "coder" "B" (.int 0)) (ha2 : Fld Z h0 o0 "java/lang/String" "value" "[B" (.ref b0)) (ha3 : AV Z h0 b0 .byte nN (fun k => .int (fF k))) (ha4 : Sta Z h0 "java/lang/String" "COMPACT_STRINGS" "Z" (.int cs)) (hcs : ¬ cs = 0) :
    MetFree l y11 (head1 (Jvm.Cond.code y11 jdk_42_method_54_code 1 (some .int) :: ws) RM_1_0_0_13) (fun a U => a = #[(.ref o0)] ∧ Z.Warmed39 U.vm ∧ U.heap = h0) (fun _ _ _ _ _ => True) (fun _ U o U' => ∃ v L, o = .returned v ∧ Q11 o0 b0 nN fF cs h0 n0 v U'.heap L ∧ FrameEnd U o U' L RM_1_0_0_13.cells RM_1_0_0_13.slots) := by
  refine MetFree.of_bodySF (plainFor_of_name pn_0) hisR ?_
  intro p e s m args below meth c s₁ Bd hml0 hP hK
  obtain ⟨rfl, hZ, hh⟩ := hP
  have hx := Bd.exec
  have hby := Bd.bytes
  have hml : c.maxLocals = 1 := hml0
  have hown : s.vm.findClass "java/lang/String" = some m.cls := findClass_of_methodNamed Bd.named
  have X0 : Stand p l e RM_1_0_0_13 s m _ below meth c s₁ [] 0 0 := Stand.of_body Bd
  have e0 : s₁.heap = h0 := by rw [← hh, Bd.state]; rfl
  have N0 := Fr.nil n0
  refine Go.into (P := fun oo uu => ∃ v L, oo = .returned v ∧ Q11 o0 b0 nN fF cs h0 n0 v uu.heap L ∧ FrameEnd s oo uu L RM_1_0_0_13.cells RM_1_0_0_13.slots) (ef_11_a m o0) ?_
  show Go p e below _ (s₁.setTop (mkF m 0 #[sR o0] []))
  refine Vi (s₁.setTop (mkF m 1 #[sR o0] [(.ref o0)])) (fun tZ kZ => ?_) ?_
  · refine XS.aloadN X0.here hx rfl (hb hby d11_0) rfl rfl ?_
    exact kZ
  obtain ⟨T1, X1, e1, st1⟩ := getF X0 hx hZ hown (host := "") (Or.inl (wq hw 29 rfl)) Via.refl e0 ha2 (g := (mkF m 1 #[sR o0] [(.ref o0)])) rfl rfl (hb hby d11_1)
  refine Go.via st1 ?_
  refine Vi (T1.setTop (mkF m 6 #[sR o0] [(.ref o0), (.int (Int32.ofNat nN))])) (fun tZ kZ => ?_) ?_
  · refine AV.len ha3 X1 hx hZ e1 (hb hby d11_4) ?_
    refine XS.aloadN X1.here hx rfl (hb hby d11_5) rfl rfl ?_
    exact kZ
  obtain ⟨cq2, kq2, q2a, q2b, q2c⟩ := isOf hZ e1 ha0
  obtain ⟨_, _, ⟨T2, L2, k2, n2⟩, -, X2, ⟨Lc2, hQ2, l2, y2, z2⟩, st2⟩ := X1.virtualBack hx (y := y12) (z := y12) hown (mvT hZ (wq hw 69 rfl)) (mvT hZ (wq hw 70 rfl)) (notFace_of_selects (args := #[]) (mvT hZ (wq hw 72 rfl))) (mvT hZ (wq hw 72 rfl)) (mvT hZ (wq hw 71 rfl)) (by decide) (backOf (W := 1) (rm12 l Z a0 hw [] o0 cs h0 n0 Z0 ha1 ha4 hcs) hZ (wq hw 73 rfl) (wq hw 7 rfl) (by decide) (by decide)) q2a q2c (g := (mkF m 6 #[sR o0] [(.ref o0), (.int (Int32.ofNat nN))])) rfl (by rw [hml]; rfl) (Steps.refl _) (argsL := []) (rest := [(.int (Int32.ofNat nN))]) (lenOf pd_10 rfl) rfl (leW rfl) (hb hby d11_6) (fun _ _ => ⟨rfl, e1, (by decide : 0 + 0 ≤ _), (by decide : 0 + 0 ≤ _)⟩)
  dsimp only [Pt.U, Pt.locs, Pt.cells, Pt.slots] at X2 l2 y2 z2 st2 hQ2
  subst l2 y2 z2
  obtain ⟨rfl, N2q, e2⟩ := hQ2
  have hv2 : (f12 o0 cs) = (0 : Int32) := by unfold f12; decide
  rw [hv2] at st2
  have N2 := Fr.app N0 N2q
  refine Go.via (fun t k => st2.trans k) ?_
  refine Vi (T2.setTop (mkF m 10 #[sR o0] [(.int ((Int32.ofNat nN) >>> ((0 : Int32) &&& 31)))])) (fun tZ kZ => ?_) ?_
  · refine XS.ishr X2.here hx rfl (hb hby d11_9) rfl ?_
    exact kZ
  refine Go.retI X2 hx Bd.notSynchronized Bd.returns (hb hby d11_10) (by decide) (by decide) ?_
  refine ⟨?_, N2, e2⟩
  show some ((.int ((Int32.ofNat nN) >>> ((0 : Int32) &&& 31))) : Value) = some (.int (f11 o0 b0 nN fF cs))
  rfl
theorem d31_0 : decode B31 0 = .ok (.iload_n 1, 1) := by decide +kernel
theorem d31_1 : decode B31 1 = .ok (.aload_n 0, 1) := by decide +kernel
theorem d31_2 : decode B31 2 = .ok (.arraylength, 1) := by decide +kernel
theorem pd_24 : parseMethodDescriptor "(II)V" = some ⟨[.int, .int], none⟩ := by decide +kernel
theorem d31_3 : decode B31 3 = .ok (.invokestatic 9, 3) := by decide +kernel
theorem d31_6 : decode B31 6 = .ok (.aload_n 0, 1) := by decide +kernel
theorem d31_7 : decode B31 7 = .ok (.iload_n 1, 1) := by decide +kernel
theorem d31_8 : decode B31 8 = .ok (.baload, 1) := by decide +kernel
theorem d31_9 : decode B31 9 = .ok (.sipush 255, 3) := by decide +kernel
theorem d31_12 : decode B31 12 = .ok (.iand, 1) := by decide +kernel
theorem d31_13 : decode B31 13 = .ok (.i2c, 1) := by decide +kernel
theorem d31_14 : decode B31 14 = .ok (.ireturn, 1) := by decide +kernel
def f31 (o0 : Addr) (p1 : Int32) (nN : Nat) (fF : Nat → Int32) (sv : Value) : Int32 := (nar .char (((fF p1.toNatClampNeg) &&& (255 : Int32)).toUInt32.toUInt16.toUInt32.toInt32))
def Q31 (o0 : Addr) (p1 : Int32) (nN : Nat) (fF : Nat → Int32) (sv : Value) (h0 : Heap) (n0 : Nat) (v : Option Value) (h : Heap) (L : List Loc) : Prop := v = some (.int (f31 o0 p1 nN fF sv)) ∧ Fr n0 L ∧ h = h0
abbrev RM_2_0_0_27 : Room := { frames := 2, cells := 0, slots := 0, locals := 27 }
theorem ef_31_aa (m : MethodId) (x0 : Addr) (x1 : Int32) : entryFrame m #[(.ref x0), (.int x1)] 2 = mkF m 0 #[.val (.ref x0), .val (.int x1)] [] := by first | (simp [entryFrame, mkF, argsToLocals, Value.category]; done) | rfl
theorem rm31 (l : Launch) (Z : State) (a0 : Array Value) (hw : ∀ d ∈ tables_1, d.before a0 Z = true) (ws : List Jvm.Cond) (o0 : Addr) (p1 : Int32) (nN : Nat) (fF : Nat → Int32) (sv : Value) (h0 : Heap) (n0 : Nat) (Z0 : n0 ≤ h0.size) (ha0 : AV Z h0 o0 .byte nN (fun k => .int (fF k))) (ha1 : Sta Z h0 "jdk/internal/util/Preconditions" "SIOOBE_FORMATTER" "Ljava/util/function/BiFunction;" sv) (hp0 : ¬ p1 < 0) (hp1 : p1 < (Int32.ofNat nN)) (hp2 : p1.toNatClampNeg < nN) (hsv : sv.isRef = true) :
    MetFree l y31 (head1 (Jvm.Cond.code y31 jdk_43_method_2_code 2 (some .char) :: ws) RM_2_0_0_27) (fun a U => a = #[(.ref o0), (.int p1)] ∧ Z.Warmed39 U.vm ∧ U.heap = h0) (fun _ _ _ _ _ => True) (fun _ U o U' => ∃ v L, o = .returned v ∧ Q31 o0 p1 nN fF sv h0 n0 v U'.heap L ∧ FrameEnd U o U' L RM_2_0_0_27.cells RM_2_0_0_27.slots) := by
  refine MetFree.of_bodySF (plainFor_of_name pn_1) hisR ?_
  intro p e s m args below meth c s₁ Bd hml0 hP hK
  obtain ⟨rfl, hZ, hh⟩ := hP
  have hx := Bd.exec
  have hby := Bd.bytes
  have hml : c.maxLocals = 2 := hml0
  have hown : s.vm.findClass "java/lang/StringLatin1" = some m.cls := findClass_of_methodNamed Bd.named
  have X0 : Stand p l e RM_2_0_0_27 s m _ below meth c s₁ [] 0 0 := Stand.of_body Bd
  have e0 : s₁.heap = h0 := by rw [← hh, Bd.state]; rfl
  have N0 := Fr.nil n0
  refine Go.into (P := fun oo uu => ∃ v L, oo = .returned v ∧ Q31 o0 p1 nN fF sv h0 n0 v uu.heap L ∧ FrameEnd s oo uu L RM_2_0_0_27.cells RM_2_0_0_27.slots) (ef_31_aa m o0 p1) ?_
  show Go p e below _ (s₁.setTop (mkF m 0 #[sR o0, sI p1] []))
  refine Vi (s₁.setTop (mkF m 3 #[sR o0, sI p1] [(.int (Int32.ofNat nN)), (.int p1)])) (fun tZ kZ => ?_) ?_
  · refine XS.iloadN X0.here hx rfl (hb hby d31_0) rfl ?_
    refine XS.aloadN X0.here hx rfl (hb hby d31_1) rfl rfl ?_
    refine AV.len ha0 X0 hx hZ e0 (hb hby d31_2) ?_
    exact kZ
  obtain ⟨_, _, ⟨T1, L1, k1, n1⟩, -, X1, ⟨Lc1, hQ1, l1, y1, z1⟩, st1⟩ := Jvm.LawKit.callS X0 hx (y := y32) hown (mvT hZ (wq hw 155 rfl)) (mvT hZ (wq hw 156 rfl)) (mvT hZ (wq hw 7 rfl)) (mvT hZ (wq hw 157 rfl)) (by decide) (backOf (W := 0) (rm32 l Z a0 hw [] p1 (Int32.ofNat nN) sv h0 n0 Z0 ha1 hp0 hp1 hsv) hZ (wq hw 157 rfl) (wq hw 7 rfl) (by decide) (by decide)) (g := (mkF m 3 #[sR o0, sI p1] [(.int (Int32.ofNat nN)), (.int p1)])) rfl (by rw [hml]; rfl) (argsL := [(.int p1), (.int (Int32.ofNat nN))]) (rest := []) (lenOf pd_24 rfl) rfl (leW rfl) (hb hby d31_3) (fun _ _ => ⟨rfl, e0, (by decide : 0 + 0 ≤ _), (by decide : 0 + 0 ≤ _)⟩)
  dsimp only [Pt.U, Pt.locs, Pt.cells, Pt.slots] at X1 l1 y1 z1 st1 hQ1
  subst l1 y1 z1
  obtain ⟨rfl, N1q, e1⟩ := hQ1
  have N1 := Fr.app N0 N1q
  refine Go.via st1 ?_
  refine Vi (T1.setTop (mkF m 14 #[sR o0, sI p1] [(.int (((fF p1.toNatClampNeg) &&& (255 : Int32)).toUInt32.toUInt16.toUInt32.toInt32))])) (fun tZ kZ => ?_) ?_
  · refine XS.aloadN X1.here hx rfl (hb hby d31_6) rfl rfl ?_
    refine XS.iloadN X1.here hx rfl (hb hby d31_7) rfl ?_
    refine AV.baload ha0 X1 hx hZ e1 (j := p1) ⟨hp0, hp2⟩ (hb hby d31_8) ?_
    refine XS.sipush X1.here hx rfl (hb hby d31_9) ?_
    refine XS.iand X1.here hx rfl (hb hby d31_12) rfl ?_
    refine XS.i2c X1.here hx rfl (hb hby d31_13) rfl ?_
    exact kZ
  refine Go.retN X1 hx Bd.notSynchronized (t := .char) Bd.returns (by simp) (hb hby d31_14) (by decide) (by decide) ?_
  refine ⟨?_, N1, e1⟩
  show some ((Value.int (nar .char (((fF p1.toNatClampNeg) &&& (255 : Int32)).toUInt32.toUInt16.toUInt32.toInt32))) : Value) = some (.int (f31 o0 p1 nN fF sv))
  rfl
theorem d30_0 : decode B30 0 = .ok (.aload_n 0, 1) := by decide +kernel
theorem pd_12 : parseMethodDescriptor "()Z" = some ⟨[], some .boolean⟩ := by decide +kernel
theorem d30_1 : decode B30 1 = .ok (.invokevirtual 492, 3) := by decide +kernel
theorem d30_4 : decode B30 4 = .ok (.ifCond .eq 12, 3) := by decide +kernel
theorem d30_7 : decode B30 7 = .ok (.aload_n 0, 1) := by decide +kernel
theorem d30_8 : decode B30 8 = .ok (.getfield 9, 3) := by decide +kernel
theorem d30_11 : decode B30 11 = .ok (.iload_n 1, 1) := by decide +kernel
theorem pd_28 : parseMethodDescriptor "([BI)C" = some ⟨[(.array .byte), .int], some .char⟩ := by decide +kernel
theorem d30_12 : decode B30 12 = .ok (.invokestatic 495, 3) := by decide +kernel
theorem d30_15 : decode B30 15 = .ok (.ireturn, 1) := by decide +kernel
def f30 (o0 : Addr) (p1 : Int32) (b0 : Addr) (nN : Nat) (fF : Nat → Int32) (cs : Int32) (sv : Value) : Int32 := (nar .char (f31 b0 p1 nN fF sv))
def Q30 (o0 : Addr) (p1 : Int32) (b0 : Addr) (nN : Nat) (fF : Nat → Int32) (cs : Int32) (sv : Value) (h0 : Heap) (n0 : Nat) (v : Option Value) (h : Heap) (L : List Loc) : Prop := v = some (.int (f30 o0 p1 b0 nN fF cs sv)) ∧ Fr n0 L ∧ h = h0
abbrev RM_3_0_0_40 : Room := { frames := 3, cells := 0, slots := 0, locals := 40 }
theorem ef_30_aa (m : MethodId) (x0 : Addr) (x1 : Int32) : entryFrame m #[(.ref x0), (.int x1)] 2 = mkF m 0 #[.val (.ref x0), .val (.int x1)] [] := by first | (simp [entryFrame, mkF, argsToLocals, Value.category]; done) | rfl
theorem rm30 (l : Launch) (Z : State) (a0 : Array Value) (hw : ∀ d ∈ tables_1, d.before a0 Z = true) (ws : List Jvm.Cond) (o0 : Addr) (p1 : Int32) (b0 : Addr) (nN : Nat) (fF : Nat → Int32) (cs : Int32) (sv : Value) (h0 : Heap) (n0 : Nat) (Z0 : n0 ≤ h0.size) (ha0 : Exa Z h0 o0 "java/lang/String") (ha1 : Fld Z h0 o0 "java/lang/String" "coder" "B" (.int 0)) (ha2 : Fld Z h0 o0 "java/lang/String" "value" "[B" (.ref b0)) (ha3 : AV Z h0 b0 .byte nN (fun k => .int (fF k))) (ha4 : Sta Z h0 "java/lang/String" "COMPACT_STRINGS" "Z" (.int cs)) (ha5 : Sta Z h0 "jdk/internal/util/Preconditions" "SIOOBE_FORMATTER" "Ljava/util/function/BiFunction;" sv) (hcs : ¬ cs = 0) (hp0 : ¬ p1 < 0) (hp1 : p1 < (Int32.ofNat nN)) (hp2 : p1.toNatClampNeg < nN) (hsv : sv.isRef = true) :
    MetFree l y30 (head1 (Jvm.Cond.code y30 jdk_42_method_56_code 2 (some .char) :: ws) RM_3_0_0_40) (fun a U => a = #[(.ref o0), (.int p1)] ∧ Z.Warmed39 U.vm ∧ U.heap = h0) (fun _ _ _ _ _ => True) (fun _ U o U' => ∃ v L, o = .returned v ∧ Q30 o0 p1 b0 nN fF cs sv h0 n0 v U'.heap L ∧ FrameEnd U o U' L RM_3_0_0_40.cells RM_3_0_0_40.slots) := by
  refine MetFree.of_bodySF (plainFor_of_name pn_0) hisR ?_
  intro p e s m args below meth c s₁ Bd hml0 hP hK
  obtain ⟨rfl, hZ, hh⟩ := hP
  have hx := Bd.exec
  have hby := Bd.bytes
  have hml : c.maxLocals = 2 := hml0
  have hown : s.vm.findClass "java/lang/String" = some m.cls := findClass_of_methodNamed Bd.named
  have X0 : Stand p l e RM_3_0_0_40 s m _ below meth c s₁ [] 0 0 := Stand.of_body Bd
  have e0 : s₁.heap = h0 := by rw [← hh, Bd.state]; rfl
  have N0 := Fr.nil n0
  refine Go.into (P := fun oo uu => ∃ v L, oo = .returned v ∧ Q30 o0 p1 b0 nN fF cs sv h0 n0 v uu.heap L ∧ FrameEnd s oo uu L RM_3_0_0_40.cells RM_3_0_0_40.slots) (ef_30_aa m o0 p1) ?_
  show Go p e below _ (s₁.setTop (mkF m 0 #[sR o0, sI p1] []))
  refine Vi (s₁.setTop (mkF m 1 #[sR o0, sI p1] [(.ref o0)])) (fun tZ kZ => ?_) ?_
  · refine XS.aloadN X0.here hx rfl (hb hby d30_0) rfl rfl ?_
    exact kZ
  obtain ⟨cq1, kq1, q1a, q1b, q1c⟩ := isOf hZ e0 ha0
  obtain ⟨_, _, ⟨T1, L1, k1, n1⟩, -, X1, ⟨Lc1, hQ1, l1, y1, z1⟩, st1⟩ := X0.virtualBack hx (y := y14) (z := y14) hown (mvT hZ (wq hw 80 rfl)) (mvT hZ (wq hw 81 rfl)) (notFace_of_selects (args := #[]) (mvT hZ (wq hw 83 rfl))) (mvT hZ (wq hw 83 rfl)) (mvT hZ (wq hw 82 rfl)) (by decide) (backOf (W := 0) (rm14 l Z a0 hw [] o0 cs h0 n0 Z0 ha1 ha4 hcs) hZ (wq hw 84 rfl) (wq hw 7 rfl) (by decide) (by decide)) q1a q1c (g := (mkF m 1 #[sR o0, sI p1] [(.ref o0)])) rfl (by rw [hml]; rfl) (Steps.refl _) (argsL := []) (rest := []) (lenOf pd_12 rfl) rfl (leW rfl) (hb hby d30_1) (fun _ _ => ⟨rfl, e0, (by decide : 0 + 0 ≤ _), (by decide : 0 + 0 ≤ _)⟩)
  dsimp only [Pt.U, Pt.locs, Pt.cells, Pt.slots] at X1 l1 y1 z1 st1 hQ1
  subst l1 y1 z1
  obtain ⟨rfl, N1q, e1⟩ := hQ1
  have hv1 : (f14 o0 cs) = (1 : Int32) := by unfold f14; decide
  rw [hv1] at st1
  have N1 := Fr.app N0 N1q
  refine Go.via (fun t k => st1.trans k) ?_
  refine Vi (T1.setTop (mkF m 8 #[sR o0, sI p1] [(.ref o0)])) (fun tZ kZ => ?_) ?_
  · refine XS.ifNo X1.here hx rfl (hb hby d30_4) rfl ((if0 _ _).trans (feq (by decide)).1) ?_
    refine XS.aloadN X1.here hx rfl (hb hby d30_7) rfl rfl ?_
    exact kZ
  obtain ⟨T2, X2, e2, st2⟩ := getF X1 hx hZ hown (host := "") (Or.inl (wq hw 29 rfl)) Via.refl e1 ha2 (g := (mkF m 8 #[sR o0, sI p1] [(.ref o0)])) rfl rfl (hb hby d30_8)
  refine Go.via st2 ?_
  refine Vi (T2.setTop (mkF m 12 #[sR o0, sI p1] [(.int p1), (.ref b0)])) (fun tZ kZ => ?_) ?_
  · refine XS.iloadN X2.here hx rfl (hb hby d30_11) rfl ?_
    exact kZ
  obtain ⟨_, _, ⟨T3, L3, k3, n3⟩, -, X3, ⟨Lc3, hQ3, l3, y3, z3⟩, st3⟩ := Jvm.LawKit.callS X2 hx (y := y31) hown (mvT hZ (wq hw 152 rfl)) (mvT hZ (wq hw 153 rfl)) (mvT hZ (wq hw 87 rfl)) (mvT hZ (wq hw 154 rfl)) (by decide) (backOf (W := 0) (rm31 l Z a0 hw [] b0 p1 nN fF sv h0 n0 Z0 ha3 ha5 hp0 hp1 hp2 hsv) hZ (wq hw 154 rfl) (wq hw 87 rfl) (by decide) (by decide)) (g := (mkF m 12 #[sR o0, sI p1] [(.int p1), (.ref b0)])) rfl (by rw [hml]; rfl) (argsL := [(.ref b0), (.int p1)]) (rest := []) (lenOf pd_28 rfl) rfl (leW rfl) (hb hby d30_12) (fun _ _ => ⟨rfl, e2, (by decide : 0 + 0 + 0 ≤ _), (by decide : 0 + 0 + 0 ≤ _)⟩)
  dsimp only [Pt.U, Pt.locs, Pt.cells, Pt.slots] at X3 l3 y3 z3 st3 hQ3
  subst l3 y3 z3
  obtain ⟨rfl, N3q, e3⟩ := hQ3
  have N3 := Fr.app N1 N3q
  refine Go.via st3 ?_
  refine Go.retN X3 hx Bd.notSynchronized (t := .char) Bd.returns (by simp) (hb hby d30_15) (by decide) (by decide) ?_
  refine ⟨?_, N3, e3⟩
  show some ((Value.int (nar .char (f31 b0 p1 nN fF sv))) : Value) = some (.int (f30 o0 p1 b0 nN fF cs sv))
  rfl
theorem d3_0 : decode B3 0 = .ok (.aload_n 0, 1) := by decide +kernel
theorem d3_1 : decode B3 1 = .ok (.invokespecial 1, 3) := by decide +kernel
theorem d3_4 : decode B3 4 = .ok (.iload_n 3, 1) := by decide +kernel
theorem d3_5 : decode B3 5 = .ok (.ifCond .ne 22, 3) := by decide +kernel
theorem d3_8 : decode B3 8 = .ok (.aload_n 0, 1) := by decide +kernel
theorem d3_9 : decode B3 9 = .ok (.ldc 7, 2) := by decide +kernel
theorem d3_11 : decode B3 11 = .ok (.getfield 9, 3) := by decide +kernel
theorem d3_14 : decode B3 14 = .ok (.putfield 9, 3) := by decide +kernel
theorem d3_17 : decode B3 17 = .ok (.aload_n 0, 1) := by decide +kernel
theorem d3_18 : decode B3 18 = .ok (.ldc 7, 2) := by decide +kernel
theorem d3_20 : decode B3 20 = .ok (.getfield 15, 3) := by decide +kernel
theorem d3_23 : decode B3 23 = .ok (.putfield 15, 3) := by decide +kernel
theorem d3_26 : decode B3 26 = .ok (.return_, 1) := by decide +kernel
def Q3w (Z : State) (o0 : Addr) (o1 : Addr) (h0 : Heap) (n0 : Nat) (v : Option Value) (h : Heap) (L : List Loc) : Prop := ∃ ab2 : Addr, v = none ∧ Fr n0 L ∧ Keep h0 h [o0] ∧ Exa Z h o0 "java/lang/String" ∧ Fld Z h o0 "java/lang/String" "value" "[B" (.ref ab2) ∧ Fld Z h o0 "java/lang/String" "coder" "B" (.int 0) ∧ AV Z h ab2 .byte 0 (fun k => .int ((own_t []) k))
abbrev RM_1_4_136_12 : Room := { frames := 1, cells := 4, slots := 136, locals := 12 }
theorem ef_3_aaaan (m : MethodId) (x0 : Addr) (x1 : Addr) (x2 : Int32) (x3 : Int32) : entryFrame m #[(.ref x0), (.ref x1), (.int x2), (.int x3), .null] 6 = mkF m 0 #[.val (.ref x0), .val (.ref x1), .val (.int x2), .val (.int x3), .val .null, .unset] [] := by first | (simp [entryFrame, mkF, argsToLocals, Value.category]; done) | rfl
theorem rm3w (l : Launch) (Z : State) (a0 : Array Value) (hw : ∀ d ∈ tables_1, d.before a0 Z = true) (ws : List Jvm.Cond) (o0 : Addr) (o1 : Addr) (h0 : Heap) (n0 : Nat) (Z0 : n0 ≤ h0.size) (ha0 : Exa Z h0 o0 "java/lang/String") (ha1 : Fld Z h0 o0 "java/lang/String" "value" "[B" .null) (ha2 : Fld Z h0 o0 "java/lang/String" "coder" "B" (.int 0)) (ha3 : n0 ≤ o0) :
    MetFree l y3 (head1 (Jvm.Cond.code y3 jdk_42_method_149_code 6 none :: ws) RM_1_4_136_12) (fun a U => a = #[(.ref o0), (.ref o1), (.int 0), (.int 0), .null] ∧ Z.Warmed39 U.vm ∧ U.heap = h0 ∧ CHv Z own_EL U.vm h0) (fun _ _ _ _ _ => True) (fun _ U o U' => ∃ v L, o = .returned v ∧ Q3w Z o0 o1 h0 n0 v U'.heap L ∧ CHr Z own_EL U.vm U.heap U'.vm U'.heap ∧ ReturnedEndW U o U' L RM_1_4_136_12.cells RM_1_4_136_12.slots) := by
  refine MetFree.of_bodySF (plainFor_of_name pn_0) hisR ?_
  intro p e s m args below meth c s₁ Bd hml0 hP hK
  obtain ⟨rfl, hZ, hh, hCH⟩ := hP
  have hx := Bd.exec
  have hby := Bd.bytes
  have hml : c.maxLocals = 6 := hml0
  have hown : s.vm.findClass "java/lang/String" = some m.cls := findClass_of_methodNamed Bd.named
  have hnm := (name_of_methodNamed Bd.named Bd.method).1
  have X0 : Stand p l e RM_1_4_136_12 s m _ below meth c s₁ [] 0 0 := Stand.of_body Bd
  have e0 : s₁.heap = h0 := by rw [← hh, Bd.state]; rfl
  have N0 := Fr.nil n0
  refine Go.into (P := fun oo uu => ∃ v L, oo = .returned v ∧ Q3w Z o0 o1 h0 n0 v uu.heap L ∧ CHr Z own_EL s.vm s.heap uu.vm uu.heap ∧ ReturnedEndW s oo uu L RM_1_4_136_12.cells RM_1_4_136_12.slots) (ef_3_aaaan m o0 o1 (0 : Int32) (0 : Int32)) ?_
  show Go p e below _ (s₁.setTop (mkF m 0 #[sR o0, sR o1, sI 0, sI 0, .val .null, .unset] []))
  have hS0 : s.Since s.vm 0 := (State.WarmedH.refl s).since 0
  have wS : ∀ a ∈ Bundle.stringAtoms, a.before a0 Z = true := by
    intro d hd
    simp only [Bundle.stringAtoms, List.mem_cons, List.not_mem_nil, or_false] at hd
    rcases hd with rfl | rfl | rfl | rfl | rfl | rfl | rfl
    · exact (wq hw 7 rfl)
    · exact (wq hw 8 rfl)
    · exact (wq hw 9 rfl)
    · exact (wq hw 10 rfl)
    · exact (wq hw 11 rfl)
    · exact (wq hw 12 rfl)
    · exact (wq hw 13 rfl)
  have Sf_o0 : Safe Z own_EL s.vm h0 o0 := own_safeNull hZ.alike ha0 ha1
  refine Vi (s₁.setTop (mkF m 1 #[sR o0, sR o1, sI 0, sI 0, .val .null, .unset] [(.ref o0)])) (fun tZ kZ => ?_) ?_
  · refine XS.aloadN X0.here hx rfl (hb hby d3_0) rfl rfl ?_
    exact kZ
  obtain ⟨T1, X1, e1, st1⟩ := initO X0 hx hZ hown (wq hw 25 rfl) (wq hw 26 rfl) (wq hw 27 rfl) e0 (g := (mkF m 1 #[sR o0, sR o1, sI 0, sI 0, .val .null, .unset] [(.ref o0)])) rfl (by rw [hml]; rfl) rfl (hb hby d3_1) (by decide) (W := 0) (by show 2 * 0 + _ ≤ _; exact Nat.le_of_eq rfl) (by decide)
  refine Go.via st1 ?_
  refine Vi (T1.setTop (mkF m 9 #[sR o0, sR o1, sI 0, sI 0, .val .null, .unset] [(.ref o0)])) (fun tZ kZ => ?_) ?_
  · refine XS.iloadN X1.here hx rfl (hb hby d3_4) rfl ?_
    refine XS.ifNo X1.here hx rfl (hb hby d3_5) rfl ((if0 _ _).trans (teq (by decide)).2) ?_
    refine XS.aloadN X1.here hx rfl (hb hby d3_8) rfl rfl ?_
    exact kZ
  obtain ⟨as2, T2, h2, kk2, ab2, kc2, X2, e2, E2, hS2, hk2, hZ, hown, Ea2, Fc2, Fv2, Ar2, -, -, A2, -, nS2, st2⟩ := ldcCH (s := s) (vm0 := s.vm) (EL := own_EL) X1 hx hZ hown (wq hw 28 rfl) wS e1 hS0 (Nat.zero_le _) (own_EW hw) (by simp [own_EL]) hCH (vs := ([] : List Int32).map Value.int) (z := 0) ⟨by decide, by decide +kernel⟩ (by decide) rfl (g := (mkF m 9 #[sR o0, sR o1, sI 0, sI 0, .val .null, .unset] [(.ref o0)])) rfl (hb hby d3_9) (n := 64) (by decide) (by decide) (by decide) (by decide)
  have Sf3_0 := A2.safe ha0.lt Sf_o0
  have CR3c := CHr.trans (CHr.refl hCH) A2
  have c4_0 := ha0.ext E2
  have c4_1 := ha1.ext E2
  have c4_2 := ha2.ext E2
  have Va2 := AV.ofArv Ar2 (n := 0) rfl (by decide)
  have K2 : Keep h0 h2 [o0] := (Keep.refl h0 [o0]).ext E2
  have Z2 : n0 ≤ h2.size := Nat.le_trans Z0 E2.1
  have ne_o0_as2 := (nS2 o0 Sf3_0).1
  have ne_o0_ab2 := (nS2 o0 Sf3_0).2
  refine Go.via st2 ?_
  obtain ⟨T5, X5, e5, st5⟩ := getF X2 hx hZ hown (host := "") (Or.inl (wq hw 29 rfl)) Via.refl e2 Fv2 (g := (mkF m 11 #[sR o0, sR o1, sI 0, sI 0, .val .null, .unset] [(.ref as2), (.ref o0)])) rfl rfl (hb hby d3_11)
  refine Go.via st5 ?_
  obtain ⟨T6, h6, X6, e6, W6, st6⟩ := putF X5 hx hZ hown (host := "") (Or.inl (wq hw 29 rfl)) Via.refl e5 c4_1 c4_0 (Or.inr ⟨(wq hw 10 rfl), rfl, hnm⟩) (wq hw 8 rfl) (ty := (.array .byte)) (by decide) rfl rfl (g := (mkF m 14 #[sR o0, sR o1, sI 0, sI 0, .val .null, .unset] [(.ref ab2), (.ref o0)])) rfl rfl (hb hby d3_14)
  have N6 := Fr.snoc X6 N0 ha3
  have Ac7 := CHr.wr W6 Sf3_0 A2.1
  have Sf7_0 := Ac7.safe c4_0.lt Sf3_0
  have CR7c := CHr.trans CR3c Ac7
  have c8_0 := c4_0.wr W6
  have c8_2 := c4_2.other W6 (Or.inr (slot_ne (Or.inr (wq hw 11 rfl)) (Or.inr (wq hw 10 rfl)) (by decide) (t := .byte) (t' := (.array .byte)) (by decide) (by decide)))
  have c8_4 := Ea2.wr W6
  have c8_5 := Fc2.other W6 (Or.inl (Ne.symm ne_o0_as2))
  have c8_6 := Fv2.other W6 (Or.inl (Ne.symm ne_o0_as2))
  have c8_7 := Va2.other W6 (Ne.symm ne_o0_ab2)
  have K6 : Keep h0 h6 [o0] := K2.wr W6 (Or.inl (by simp))
  have Z6 : n0 ≤ h6.size := Nat.le_trans Z2 (Keep.of_wr W6).1
  have hk6 := Nat.le_trans hk2 (Keep.of_wr W6).1
  have Fw6 := c4_1.same W6
  refine Go.via st6 ?_
  refine Vi (T6.setTop (mkF m 18 #[sR o0, sR o1, sI 0, sI 0, .val .null, .unset] [(.ref o0)])) (fun tZ kZ => ?_) ?_
  · refine XS.aloadN X6.here hx rfl (hb hby d3_17) rfl rfl ?_
    exact kZ
  obtain ⟨as9, T9, h9, kk9, ab9, kc9, X9, e9, E9, hS9, hk9, hZ, hown, Ea9, Fc9, Fv9, Ar9, -, -, A9, -, nS9, st9⟩ := ldcCH (s := s) (vm0 := T2.vm) (EL := own_EL) X6 hx hZ hown (wq hw 28 rfl) wS e6 hS2 hk6 (own_EW hw) (by simp [own_EL]) Ac7.1 (vs := ([] : List Int32).map Value.int) (z := 0) ⟨by decide, by decide +kernel⟩ (by decide) rfl (g := (mkF m 18 #[sR o0, sR o1, sI 0, sI 0, .val .null, .unset] [(.ref o0)])) rfl (hb hby d3_18) (n := 64) (by decide) (by decide) (by decide) (by decide)
  have Sf10_0 := A9.safe c8_0.lt Sf7_0
  have CR10c := CHr.trans CR7c A9
  have c11_0 := c8_0.ext E9
  have c11_1 := Fw6.ext E9
  have c11_2 := c8_2.ext E9
  have c11_4 := c8_7.ext E9
  have Va9 := AV.ofArv Ar9 (n := 0) rfl (by decide)
  have K9 : Keep h0 h9 [o0] := K6.ext E9
  have Z9 : n0 ≤ h9.size := Nat.le_trans Z6 E9.1
  have ne_o0_as9 := (nS9 o0 Sf10_0).1
  have ne_o0_ab9 := (nS9 o0 Sf10_0).2
  refine Go.via st9 ?_
  obtain ⟨T12, X12, e12, st12⟩ := getF X9 hx hZ hown (host := "") (Or.inl (wq hw 30 rfl)) Via.refl e9 Fc9 (g := (mkF m 20 #[sR o0, sR o1, sI 0, sI 0, .val .null, .unset] [(.ref as9), (.ref o0)])) rfl rfl (hb hby d3_20)
  refine Go.via st12 ?_
  obtain ⟨T13, h13, X13, e13, W13, st13⟩ := putFN X12 hx hZ hown (wq hw 30 rfl) Via.refl e12 c11_2 c11_0 (Or.inr ⟨(wq hw 11 rfl), rfl, hnm⟩) (wq hw 8 rfl) (ty := .byte) (v' := (.int (nar .byte (0 : Int32)))) (by decide) rfl (fits_nar_byte _) (g := (mkF m 23 #[sR o0, sR o1, sI 0, sI 0, .val .null, .unset] [(.int 0), (.ref o0)])) rfl rfl (hb hby d3_23)
  have N13 := Fr.snoc X13 N6 ha3
  have Ac14 := CHr.wr W13 Sf10_0 A9.1
  have Sf14_0 := Ac14.safe c11_0.lt Sf10_0
  have CR14c := CHr.trans CR10c Ac14
  have c15_0 := c11_0.wr W13
  have c15_1 := c11_1.other W13 (Or.inr (slot_ne (Or.inr (wq hw 10 rfl)) (Or.inr (wq hw 11 rfl)) (by decide) (t := (.array .byte)) (t' := .byte) (by decide) (by decide)))
  have c15_4 := c11_4.other W13 (Ne.symm ne_o0_ab2)
  have c15_5 := Ea9.wr W13
  have c15_6 := Fc9.other W13 (Or.inl (Ne.symm ne_o0_as9))
  have c15_7 := Fv9.other W13 (Or.inl (Ne.symm ne_o0_as9))
  have c15_8 := Va9.other W13 (Ne.symm ne_o0_ab9)
  have K13 : Keep h0 h13 [o0] := K9.wr W13 (Or.inl (by simp))
  have Z13 : n0 ≤ h13.size := Nat.le_trans Z9 (Keep.of_wr W13).1
  have hk13 := Nat.le_trans hk9 (Keep.of_wr W13).1
  have Fw13 : Fld Z h13 o0 "java/lang/String" "coder" "B" (.int 0) := c11_2.same W13
  refine Go.via st13 ?_
  refine Go.finW (h := h13) (h0 := h0) (s := s) (vm₁ := T9.vm) X13 hS9 e13 hk13 Bd.notSynchronized (v := none) (fun _ => rfl) (fun fs hr => X13.returnOut hx Bd.returns (hb hby d3_26) hr) (by decide) (by decide) hh hZ (own_EW hw) CR14c ?_
  exact ⟨ab2, rfl, N13, K13, c15_0, c15_1, Fw13, c15_4⟩
theorem d2_0 : decode B2 0 = .ok (.aload_n 0, 1) := by decide +kernel
theorem d2_1 : decode B2 1 = .ok (.aload_n 1, 1) := by decide +kernel
theorem d2_2 : decode B2 2 = .ok (.iconst 0, 1) := by decide +kernel
theorem d2_3 : decode B2 3 = .ok (.aload_n 1, 1) := by decide +kernel
theorem d2_4 : decode B2 4 = .ok (.arraylength, 1) := by decide +kernel
theorem d2_5 : decode B2 5 = .ok (.aconst_null, 1) := by decide +kernel
theorem pd_2 : parseMethodDescriptor "([CIILjava/lang/Void;)V" = some ⟨[(.array .char), .int, .int, (.object "java/lang/Void")], none⟩ := by decide +kernel
theorem d2_6 : decode B2 6 = .ok (.invokespecial 27, 3) := by decide +kernel
theorem d2_9 : decode B2 9 = .ok (.return_, 1) := by decide +kernel
def Q2w (Z : State) (o0 : Addr) (o1 : Addr) (cF : Nat → Int32) (h0 : Heap) (n0 : Nat) (v : Option Value) (h : Heap) (L : List Loc) : Prop := ∃ b1_0 : Addr, v = none ∧ Fr n0 L ∧ Keep h0 h [o0] ∧ Exa Z h o0 "java/lang/String" ∧ Fld Z h o0 "java/lang/String" "value" "[B" (.ref b1_0) ∧ Fld Z h o0 "java/lang/String" "coder" "B" (.int 0) ∧ AV Z h o1 .char 0 (fun k => .int (cF k)) ∧ AV Z h b1_0 .byte 0 (fun k => .int ((own_t []) k))
abbrev RM_2_4_136_29 : Room := { frames := 2, cells := 4, slots := 136, locals := 29 }
theorem ef_2_aa (m : MethodId) (x0 : Addr) (x1 : Addr) : entryFrame m #[(.ref x0), (.ref x1)] 2 = mkF m 0 #[.val (.ref x0), .val (.ref x1)] [] := by first | (simp [entryFrame, mkF, argsToLocals, Value.category]; done) | rfl
theorem rm2w (l : Launch) (Z : State) (a0 : Array Value) (hw : ∀ d ∈ tables_1, d.before a0 Z = true) (ws : List Jvm.Cond) (o0 : Addr) (o1 : Addr) (cF : Nat → Int32) (h0 : Heap) (n0 : Nat) (Z0 : n0 ≤ h0.size) (ha0 : Exa Z h0 o0 "java/lang/String") (ha1 : Fld Z h0 o0 "java/lang/String" "value" "[B" .null) (ha2 : Fld Z h0 o0 "java/lang/String" "coder" "B" (.int 0)) (ha3 : n0 ≤ o0) (ha4 : AV Z h0 o1 .char 0 (fun k => .int (cF k))) (hne_o1_o0 : o1 ≠ o0) :
    MetFree l y2 (head1 (Jvm.Cond.code y2 jdk_42_method_3_code 2 none :: ws) RM_2_4_136_29) (fun a U => a = #[(.ref o0), (.ref o1)] ∧ Z.Warmed39 U.vm ∧ U.heap = h0 ∧ CHv Z own_EL U.vm h0) (fun _ _ _ _ _ => True) (fun _ U o U' => ∃ v L, o = .returned v ∧ Q2w Z o0 o1 cF h0 n0 v U'.heap L ∧ CHr Z own_EL U.vm U.heap U'.vm U'.heap ∧ ReturnedEndW U o U' L RM_2_4_136_29.cells RM_2_4_136_29.slots) := by
  refine MetFree.of_bodySF (plainFor_of_name pn_0) hisR ?_
  intro p e s m args below meth c s₁ Bd hml0 hP hK
  obtain ⟨rfl, hZ, hh, hCH⟩ := hP
  have hx := Bd.exec
  have hby := Bd.bytes
  have hml : c.maxLocals = 2 := hml0
  have hown : s.vm.findClass "java/lang/String" = some m.cls := findClass_of_methodNamed Bd.named
  have X0 : Stand p l e RM_2_4_136_29 s m _ below meth c s₁ [] 0 0 := Stand.of_body Bd
  have e0 : s₁.heap = h0 := by rw [← hh, Bd.state]; rfl
  have N0 := Fr.nil n0
  refine Go.into (P := fun oo uu => ∃ v L, oo = .returned v ∧ Q2w Z o0 o1 cF h0 n0 v uu.heap L ∧ CHr Z own_EL s.vm s.heap uu.vm uu.heap ∧ ReturnedEndW s oo uu L RM_2_4_136_29.cells RM_2_4_136_29.slots) (ef_2_aa m o0 o1) ?_
  show Go p e below _ (s₁.setTop (mkF m 0 #[sR o0, sR o1] []))
  have hS0 : s.Since s.vm 0 := (State.WarmedH.refl s).since 0
  have wS : ∀ a ∈ Bundle.stringAtoms, a.before a0 Z = true := by
    intro d hd
    simp only [Bundle.stringAtoms, List.mem_cons, List.not_mem_nil, or_false] at hd
    rcases hd with rfl | rfl | rfl | rfl | rfl | rfl | rfl
    · exact (wq hw 7 rfl)
    · exact (wq hw 8 rfl)
    · exact (wq hw 9 rfl)
    · exact (wq hw 10 rfl)
    · exact (wq hw 11 rfl)
    · exact (wq hw 12 rfl)
    · exact (wq hw 13 rfl)
  have Sf_o0 : Safe Z own_EL s.vm h0 o0 := own_safeNull hZ.alike ha0 ha1
  refine Vi (s₁.setTop (mkF m 6 #[sR o0, sR o1] [.null, (.int 0), (.int 0), (.ref o1), (.ref o0)])) (fun tZ kZ => ?_) ?_
  · refine XS.aloadN X0.here hx rfl (hb hby d2_0) rfl rfl ?_
    refine XS.aloadN X0.here hx rfl (hb hby d2_1) rfl rfl ?_
    refine XS.iconst X0.here hx rfl (hb hby d2_2) ?_
    refine XS.aloadN X0.here hx rfl (hb hby d2_3) rfl rfl ?_
    refine AV.len ha4 X0 hx hZ e0 (hb hby d2_4) ?_
    refine XS.aconstNull X0.here hx rfl (hb hby d2_5) ?_
    exact kZ
  obtain ⟨_, _, ⟨T1, L1, k1, n1⟩, -, X1, hS1, -, ⟨Lc1, hQ1, l1, y1, z1, A1⟩, st1⟩ := specialBackS (s := s.setVm s.vm) X0 hx (y := y3) rfl hown (mvT hZ (wq hw 21 rfl)) (mvT hZ (wq hw 22 rfl)) (mvT hZ (wq hw 24 rfl)) (by decide) (backOfSH (s := s) (vm0 := s.vm) (W := 0) (rm3w l Z a0 hw [] o0 o1 h0 n0 Z0 ha0 ha1 ha2 ha3) hZ (wq hw 24 rfl) (wq hw 7 rfl) (by decide) (by decide) (own_EW hw) hCH) (g := (mkF m 6 #[sR o0, sR o1] [.null, (.int 0), (.int 0), (.ref o1), (.ref o0)])) rfl (by rw [hml]; rfl) (Steps.refl _) (a := o0) (argsL := [(.ref o1), (.int 0), (.int 0), .null]) (rest := []) (lenOf pd_2 rfl) rfl (leW rfl) (hb hby d2_6) (fun _ _ => ⟨rfl, e0, (by decide : 0 + 4 ≤ _), (by decide : 0 + 136 ≤ _)⟩)
  dsimp only [Pt.U, Pt.locs, Pt.cells, Pt.slots] at X1 hS1 l1 y1 z1 A1 st1 hQ1
  subst l1 y1 z1
  obtain ⟨b1_0, rfl, N1q, Kq1, f1_0, f1_1, f1_2, f1_3⟩ := hQ1
  have Sf2_0 := A1.safe ha0.lt Sf_o0
  have CR2c := CHr.trans (CHr.refl hCH) A1
  have c3_4 := ha4.keep Kq1 (ninS hne_o1_o0 nin0)
  have K1 : Keep h0 T1.heap [o0] := (Keep.refl h0 [o0]).trans Kq1 (allS (Or.inl (by simp)) all0)
  have Z1 : n0 ≤ T1.heap.size := Nat.le_trans Z0 Kq1.1
  have ne_b1_0_o0 := AV.neExa f1_3 f1_0 (wq hw 8 rfl)
  have N1 := Fr.app N0 N1q
  have hS1c : s.Since T1.vm T1.heap.size := State.Since.trans hS0 hS1 (Nat.le_trans (Nat.zero_le _) Kq1.1)
  replace hZ : Z.Warmed39 (s.setVm T1.vm).vm := State.Warmed39.trans (t := s.setVm s.vm) hZ hS1.1
  replace hown : (s.setVm T1.vm).vm.findClass "java/lang/String" = some m.cls := by rw [show (s.setVm T1.vm).vm = T1.vm from rfl, hS1.1.alike.findClass]; exact hown
  refine Go.via (fun t k => st1.trans k) ?_
  refine Go.finW (h := T1.heap) (h0 := h0) (s := s) (vm₁ := T1.vm) X1 hS1c rfl (Nat.le_refl _) Bd.notSynchronized (v := none) (fun _ => rfl) (fun fs hr => X1.returnOut hx Bd.returns (hb hby d2_9) hr) (by decide) (by decide) hh hZ (own_EW hw) CR2c ?_
  exact ⟨b1_0, rfl, N1, K1, f1_0, f1_1, f1_2, c3_4, f1_3⟩
theorem d23_0 : decode B23 0 = .ok (.iconst 0, 1) := by decide +kernel
theorem d23_1 : decode B23 1 = .ok (.istore 5, 2) := by decide +kernel
theorem d23_3 : decode B23 3 = .ok (.iload 5, 2) := by decide +kernel
theorem d23_5 : decode B23 5 = .ok (.iload 4, 2) := by decide +kernel
theorem d23_7 : decode B23 7 = .ok (.if_icmp .ge 37, 3) := by decide +kernel
theorem d23_10 : decode B23 10 = .ok (.aload_n 0, 1) := by decide +kernel
theorem d23_11 : decode B23 11 = .ok (.iload_n 1, 1) := by decide +kernel
theorem d23_12 : decode B23 12 = .ok (.caload, 1) := by decide +kernel
theorem d23_13 : decode B23 13 = .ok (.istore 6, 2) := by decide +kernel
theorem d23_15 : decode B23 15 = .ok (.iload 6, 2) := by decide +kernel
theorem d23_17 : decode B23 17 = .ok (.sipush 255, 3) := by decide +kernel
theorem d23_20 : decode B23 20 = .ok (.if_icmp .le 6, 3) := by decide +kernel
theorem d23_26 : decode B23 26 = .ok (.aload_n 2, 1) := by decide +kernel
theorem d23_27 : decode B23 27 = .ok (.iload_n 3, 1) := by decide +kernel
theorem d23_28 : decode B23 28 = .ok (.iload 6, 2) := by decide +kernel
theorem d23_30 : decode B23 30 = .ok (.i2b, 1) := by decide +kernel
theorem d23_31 : decode B23 31 = .ok (.bastore, 1) := by decide +kernel
theorem d23_32 : decode B23 32 = .ok (.iinc 1 1, 3) := by decide +kernel
theorem d23_35 : decode B23 35 = .ok (.iinc 3 1, 3) := by decide +kernel
theorem d23_38 : decode B23 38 = .ok (.iinc 5 1, 3) := by decide +kernel
theorem d23_41 : decode B23 41 = .ok (.goto (-38), 3) := by decide +kernel
theorem d23_44 : decode B23 44 = .ok (.iload 4, 2) := by decide +kernel
theorem d23_46 : decode B23 46 = .ok (.ireturn, 1) := by decide +kernel
def Q23n1 (Z : State) (o0 : Addr) (o2 : Addr) (cF : Nat → Int32) (bF : Nat → Int32) (h0 : Heap) (n0 : Nat) (v : Option Value) (h : Heap) (L : List Loc) : Prop := v = some (.int 1) ∧ Fr n0 L ∧ Keep h0 h [o2] ∧ AV Z h o0 .char 1 (fun k => .int (cF k)) ∧ AV Z h o2 .byte 1 (fun k => .int ((up bF (0 : Int32).toNatClampNeg (nar .byte ((cF (0 : Int32).toNatClampNeg).toInt8.toInt32))) k))
theorem pn_7 : plainName "java/lang/StringUTF16" = true := by first | (simp [plainName, overriddenIn]; done) | decide +kernel
theorem ef_23_aaaaa (m : MethodId) (x0 : Addr) (x1 : Int32) (x2 : Addr) (x3 : Int32) (x4 : Int32) : entryFrame m #[(.ref x0), (.int x1), (.ref x2), (.int x3), (.int x4)] 7 = mkF m 0 #[.val (.ref x0), .val (.int x1), .val (.ref x2), .val (.int x3), .val (.int x4), .unset, .unset] [] := by first | (simp [entryFrame, mkF, argsToLocals, Value.category]; done) | rfl
theorem rm23n1 (l : Launch) (Z : State) (a0 : Array Value) (hw : ∀ d ∈ tables_1, d.before a0 Z = true) (ws : List Jvm.Cond) (o0 : Addr) (o2 : Addr) (cF : Nat → Int32) (bF : Nat → Int32) (h0 : Heap) (n0 : Nat) (Z0 : n0 ≤ h0.size) (ha0 : AV Z h0 o0 .char 1 (fun k => .int (cF k))) (ha1 : AV Z h0 o2 .byte 1 (fun k => .int (bF k))) (ha2 : n0 ≤ o2) (hne_o0_o2 : o0 ≠ o2) (hch0 : ¬ (255 : Int32) < (cF (0 : Int32).toNatClampNeg)) :
    MetFree l y23 (head1 (Jvm.Cond.code y23 jdk_52_method_21_code 7 (some .int) :: ws) RM_0_0_0_0) (fun a U => a = #[(.ref o0), (.int 0), (.ref o2), (.int 0), (.int 1)] ∧ Z.Warmed39 U.vm ∧ U.heap = h0) (fun _ _ _ _ _ => True) (fun _ U o U' => ∃ v L, o = .returned v ∧ Q23n1 Z o0 o2 cF bF h0 n0 v U'.heap L ∧ FrameEnd U o U' L RM_0_0_0_0.cells RM_0_0_0_0.slots) := by
  refine MetFree.of_bodySF (plainFor_of_name pn_7) hisR ?_
  intro p e s m args below meth c s₁ Bd hml0 hP hK
  obtain ⟨rfl, hZ, hh⟩ := hP
  have hx := Bd.exec
  have hby := Bd.bytes
  have hml : c.maxLocals = 7 := hml0
  have hown : s.vm.findClass "java/lang/StringUTF16" = some m.cls := findClass_of_methodNamed Bd.named
  have X0 : Stand p l e RM_0_0_0_0 s m _ below meth c s₁ [] 0 0 := Stand.of_body Bd
  have e0 : s₁.heap = h0 := by rw [← hh, Bd.state]; rfl
  have N0 := Fr.nil n0
  refine Go.into (P := fun oo uu => ∃ v L, oo = .returned v ∧ Q23n1 Z o0 o2 cF bF h0 n0 v uu.heap L ∧ FrameEnd s oo uu L RM_0_0_0_0.cells RM_0_0_0_0.slots) (ef_23_aaaaa m o0 (0 : Int32) o2 (0 : Int32) (1 : Int32)) ?_
  show Go p e below _ (s₁.setTop (mkF m 0 #[sR o0, sI 0, sR o2, sI 0, sI 1, .unset, .unset] []))
  refine Vi (s₁.setTop (mkF m 31 #[sR o0, sI 0, sR o2, sI 0, sI 1, sI 0, sI (cF (0 : Int32).toNatClampNeg)] [(.int ((cF (0 : Int32).toNatClampNeg).toInt8.toInt32)), (.int 0), (.ref o2)])) (fun tZ kZ => ?_) ?_
  · refine XS.iconst X0.here hx rfl (hb hby d23_0) ?_
    refine XS.istore X0.here hx rfl (hb hby d23_1) rfl (l' := #[sR o0, sI 0, sR o2, sI 0, sI 1, sI 0, .unset]) rfl ?_
    refine XS.iload X0.here hx rfl (hb hby d23_3) rfl ?_
    refine XS.iload X0.here hx rfl (hb hby d23_5) rfl ?_
    refine XS.icmpNo X0.here hx rfl (hb hby d23_7) rfl (tlt (by decide)).2.1 ?_
    refine XS.aloadN X0.here hx rfl (hb hby d23_10) rfl rfl ?_
    refine XS.iloadN X0.here hx rfl (hb hby d23_11) rfl ?_
    refine AV.caload ha0 X0 hx hZ e0 (j := (0 : Int32)) (by decide) (hb hby d23_12) ?_
    refine XS.istore X0.here hx rfl (hb hby d23_13) rfl (l' := #[sR o0, sI 0, sR o2, sI 0, sI 1, sI 0, sI (cF (0 : Int32).toNatClampNeg)]) rfl ?_
    refine XS.iload X0.here hx rfl (hb hby d23_15) rfl ?_
    refine XS.sipush X0.here hx rfl (hb hby d23_17) ?_
    refine XS.icmpYes X0.here hx rfl (pc0 := 20) (pc' := 26) rfl (hb hby d23_20) rfl (flt hch0).2.2.2 (by decide) (by decide) ?_
    refine XS.aloadN X0.here hx rfl (hb hby d23_26) rfl rfl ?_
    refine XS.iloadN X0.here hx rfl (hb hby d23_27) rfl ?_
    refine XS.iload X0.here hx rfl (hb hby d23_28) rfl ?_
    refine XS.i2b X0.here hx rfl (hb hby d23_30) rfl ?_
    exact kZ
  obtain ⟨T1, h1, X1, e1, W1, V1, st1⟩ := AV.bastoreB ha1 X0 hx hZ e0 (j := (0 : Int32)) (by decide) (Ls := #[sR o0, sI 0, sR o2, sI 0, sI 1, sI 0, sI (cF (0 : Int32).toNatClampNeg)]) (rest := []) (hb hby d23_31) (x := ((cF (0 : Int32).toNatClampNeg).toInt8.toInt32))
  have N1 := Fr.snoc X1 N0 ha2
  have c2_0 := ha0.other W1 hne_o0_o2
  have K1 : Keep h0 h1 [o2] := (Keep.refl h0 [o2]).wr W1 (Or.inl (by simp))
  have Z1 : n0 ≤ h1.size := Nat.le_trans Z0 (Keep.of_wr W1).1
  refine Go.via st1 ?_
  refine Vi (T1.setTop (mkF m 46 #[sR o0, sI 1, sR o2, sI 1, sI 1, sI 1, sI (cF (0 : Int32).toNatClampNeg)] [(.int 1)])) (fun tZ kZ => ?_) ?_
  · refine XS.iinc X1.here hx rfl (hb hby d23_32) rfl (l' := #[sR o0, sI 1, sR o2, sI 0, sI 1, sI 0, sI (cF (0 : Int32).toNatClampNeg)]) rfl ?_
    refine XS.iinc X1.here hx rfl (hb hby d23_35) rfl (l' := #[sR o0, sI 1, sR o2, sI 1, sI 1, sI 0, sI (cF (0 : Int32).toNatClampNeg)]) rfl ?_
    refine XS.iinc X1.here hx rfl (hb hby d23_38) rfl (l' := #[sR o0, sI 1, sR o2, sI 1, sI 1, sI 1, sI (cF (0 : Int32).toNatClampNeg)]) rfl ?_
    refine XS.goto X1.here hx rfl (pc0 := 41) (pc' := 3) rfl (hb hby d23_41) (by decide) (by decide) ?_
    refine XS.iload X1.here hx rfl (hb hby d23_3) rfl ?_
    refine XS.iload X1.here hx rfl (hb hby d23_5) rfl ?_
    refine XS.icmpYes X1.here hx rfl (pc0 := 7) (pc' := 44) rfl (hb hby d23_7) rfl (flt (by decide)).2.1 (by decide) (by decide) ?_
    refine XS.iload X1.here hx rfl (hb hby d23_44) rfl ?_
    exact kZ
  refine Go.retI X1 hx Bd.notSynchronized Bd.returns (hb hby d23_46) (by decide) (by decide) ?_
  rw [e1]
  exact ⟨rfl, N1, K1, c2_0, V1⟩
theorem d22_0 : decode B22 0 = .ok (.iload_n 2, 1) := by decide +kernel
theorem d22_1 : decode B22 1 = .ok (.newarray .byte, 2) := by decide +kernel
theorem d22_3 : decode B22 3 = .ok (.astore_n 3, 1) := by decide +kernel
theorem d22_4 : decode B22 4 = .ok (.aload_n 0, 1) := by decide +kernel
theorem d22_5 : decode B22 5 = .ok (.iload_n 1, 1) := by decide +kernel
theorem d22_6 : decode B22 6 = .ok (.aload_n 3, 1) := by decide +kernel
theorem d22_7 : decode B22 7 = .ok (.iconst 0, 1) := by decide +kernel
theorem d22_8 : decode B22 8 = .ok (.iload_n 2, 1) := by decide +kernel
theorem pd_20 : parseMethodDescriptor "([CI[BII)I" = some ⟨[(.array .char), .int, (.array .byte), .int, .int], some .int⟩ := by decide +kernel
theorem d22_9 : decode B22 9 = .ok (.invokestatic 115, 3) := by decide +kernel
theorem d22_12 : decode B22 12 = .ok (.istore 4, 2) := by decide +kernel
theorem d22_14 : decode B22 14 = .ok (.iload 4, 2) := by decide +kernel
theorem d22_16 : decode B22 16 = .ok (.iload_n 2, 1) := by decide +kernel
theorem d22_17 : decode B22 17 = .ok (.if_icmp .eq 40, 3) := by decide +kernel
theorem d22_57 : decode B22 57 = .ok (.aload_n 3, 1) := by decide +kernel
theorem d22_58 : decode B22 58 = .ok (.areturn, 1) := by decide +kernel
def Q22n1 (Z : State) (o0 : Addr) (cF : Nat → Int32) (h0 : Heap) (n0 : Nat) (v : Option Value) (h : Heap) (L : List Loc) : Prop := ∃ b1 : Addr, v = some (.ref b1) ∧ Fr n0 L ∧ Keep h0 h [] ∧ h0.size ≤ b1 ∧ AV Z h o0 .char 1 (fun k => .int (cF k)) ∧ AV Z h b1 .byte 1 (fun k => .int ((up (fun _ => (0 : Int32)) (0 : Int32).toNatClampNeg (nar .byte ((cF (0 : Int32).toNatClampNeg).toInt8.toInt32))) k))
abbrev RM_1_1_1_18 : Room := { frames := 1, cells := 1, slots := 1, locals := 18 }
theorem ef_22_aaa (m : MethodId) (x0 : Addr) (x1 : Int32) (x2 : Int32) : entryFrame m #[(.ref x0), (.int x1), (.int x2)] 6 = mkF m 0 #[.val (.ref x0), .val (.int x1), .val (.int x2), .unset, .unset, .unset] [] := by first | (simp [entryFrame, mkF, argsToLocals, Value.category]; done) | rfl
theorem rm22n1 (l : Launch) (Z : State) (a0 : Array Value) (hw : ∀ d ∈ tables_1, d.before a0 Z = true) (ws : List Jvm.Cond) (o0 : Addr) (cF : Nat → Int32) (h0 : Heap) (n0 : Nat) (Z0 : n0 ≤ h0.size) (ha0 : AV Z h0 o0 .char 1 (fun k => .int (cF k))) (hch0 : ¬ (255 : Int32) < (cF (0 : Int32).toNatClampNeg)) :
    MetFree l y22 (head1 (Jvm.Cond.code y22 jdk_52_method_16_code 6 (some (.array .byte)) :: ws) RM_1_1_1_18) (fun a U => a = #[(.ref o0), (.int 0), (.int 1)] ∧ Z.Warmed39 U.vm ∧ U.heap = h0) (fun _ _ _ _ _ => True) (fun _ U o U' => ∃ v L, o = .returned v ∧ Q22n1 Z o0 cF h0 n0 v U'.heap L ∧ FrameEnd U o U' L RM_1_1_1_18.cells RM_1_1_1_18.slots) := by
  refine MetFree.of_bodySF (plainFor_of_name pn_7) hisR ?_
  intro p e s m args below meth c s₁ Bd hml0 hP hK
  obtain ⟨rfl, hZ, hh⟩ := hP
  have hx := Bd.exec
  have hby := Bd.bytes
  have hml : c.maxLocals = 6 := hml0
  have hown : s.vm.findClass "java/lang/StringUTF16" = some m.cls := findClass_of_methodNamed Bd.named
  have X0 : Stand p l e RM_1_1_1_18 s m _ below meth c s₁ [] 0 0 := Stand.of_body Bd
  have e0 : s₁.heap = h0 := by rw [← hh, Bd.state]; rfl
  have N0 := Fr.nil n0
  refine Go.into (P := fun oo uu => ∃ v L, oo = .returned v ∧ Q22n1 Z o0 cF h0 n0 v uu.heap L ∧ FrameEnd s oo uu L RM_1_1_1_18.cells RM_1_1_1_18.slots) (ef_22_aaa m o0 (0 : Int32) (1 : Int32)) ?_
  show Go p e below _ (s₁.setTop (mkF m 0 #[sR o0, sI 0, sI 1, .unset, .unset, .unset] []))
  refine Vi (s₁.setTop (mkF m 1 #[sR o0, sI 0, sI 1, .unset, .unset, .unset] [(.int 1)])) (fun tZ kZ => ?_) ?_
  · refine XS.iloadN X0.here hx rfl (hb hby d22_0) rfl ?_
    exact kZ
  obtain ⟨T1, h1, k1, X1, e1, E1, A1, B1, st1⟩ := newPE X0 hx hZ (wq hw 9 rfl) e0 (g := (mkF m 1 #[sR o0, sI 0, sI 1, .unset, .unset, .unset] [(.int 1)])) rfl (hb hby d22_1) rfl (by decide) (cap := 1) (by decide) (by decide) (by decide) (by decide) (ad := "[B") rfl
  obtain ⟨b1, g1⟩ : ∃ z, z = h0.size := ⟨_, rfl⟩
  rw [← g1] at A1 B1 st1
  have g_b1 : n0 ≤ b1 := Nat.le_trans Z0 (Nat.le_of_eq g1.symm)
  have sz_b1 : h0.size ≤ b1 := Nat.le_trans ((Keep.refl h0 [])).1 (Nat.le_of_eq g1.symm)
  have ne_o0_b1 : o0 ≠ b1 := Nat.ne_of_lt (Nat.lt_of_lt_of_le ha0.lt (Nat.le_of_eq g1.symm))
  have c2_0 := ha0.ext E1
  have K1 : Keep h0 h1 [] := (Keep.refl h0 []).ext E1
  have Z1 : n0 ≤ h1.size := Nat.le_trans Z0 E1.1
  have V1 : AV Z h1 b1 .byte 1 (fun k => .int ((fun _ => (0 : Int32)) k)) := by have q := AV.new A1; exact q
  refine Go.via st1 ?_
  refine Vi (T1.setTop (mkF m 9 #[sR o0, sI 0, sI 1, sR b1, .unset, .unset] [(.int 1), (.int 0), (.ref b1), (.int 0), (.ref o0)])) (fun tZ kZ => ?_) ?_
  · refine XS.astoreN X1.here hx rfl (hb hby d22_3) rfl rfl (l' := #[sR o0, sI 0, sI 1, sR b1, .unset, .unset]) rfl ?_
    refine XS.aloadN X1.here hx rfl (hb hby d22_4) rfl rfl ?_
    refine XS.iloadN X1.here hx rfl (hb hby d22_5) rfl ?_
    refine XS.aloadN X1.here hx rfl (hb hby d22_6) rfl rfl ?_
    refine XS.iconst X1.here hx rfl (hb hby d22_7) ?_
    refine XS.iloadN X1.here hx rfl (hb hby d22_8) rfl ?_
    exact kZ
  obtain ⟨_, _, ⟨T3, L3, k3, n3⟩, -, X3, ⟨Lc3, hQ3, l3, y3, z3⟩, st3⟩ := Jvm.LawKit.callS X1 hx (y := y23) hown (mvT hZ (wq hw 119 rfl)) (mvT hZ (wq hw 120 rfl)) (mvT hZ (wq hw 117 rfl)) (mvT hZ (wq hw 121 rfl)) (by decide) (backOf (W := 0) (rm23n1 l Z a0 hw [] o0 b1 cF (fun _ => (0 : Int32)) h1 n0 Z1 c2_0 V1 g_b1 ne_o0_b1 hch0) hZ (wq hw 121 rfl) (wq hw 117 rfl) (by decide) (by decide)) (g := (mkF m 9 #[sR o0, sI 0, sI 1, sR b1, .unset, .unset] [(.int 1), (.int 0), (.ref b1), (.int 0), (.ref o0)])) rfl (by rw [hml]; rfl) (argsL := [(.ref o0), (.int 0), (.ref b1), (.int 0), (.int 1)]) (rest := []) (lenOf pd_20 rfl) rfl (leW rfl) (hb hby d22_9) (fun _ _ => ⟨rfl, e1, (by decide : 0 + 1 + 0 ≤ _), (by decide : 0 + 1 + 0 ≤ _)⟩)
  dsimp only [Pt.U, Pt.locs, Pt.cells, Pt.slots] at X3 l3 y3 z3 st3 hQ3
  subst l3 y3 z3
  obtain ⟨rfl, N3q, Kq3, f3_0, f3_1⟩ := hQ3
  have K3 : Keep h0 T3.heap [] := K1.trans Kq3 (allS (Or.inr sz_b1) all0)
  have Z3 : n0 ≤ T3.heap.size := Nat.le_trans Z1 Kq3.1
  have N3 := Fr.app N0 N3q
  refine Go.via st3 ?_
  refine Vi (T3.setTop (mkF m 58 #[sR o0, sI 0, sI 1, sR b1, sI 1, .unset] [(.ref b1)])) (fun tZ kZ => ?_) ?_
  · refine XS.istore X3.here hx rfl (hb hby d22_12) rfl (l' := #[sR o0, sI 0, sI 1, sR b1, sI 1, .unset]) rfl ?_
    refine XS.iload X3.here hx rfl (hb hby d22_14) rfl ?_
    refine XS.iloadN X3.here hx rfl (hb hby d22_16) rfl ?_
    refine XS.icmpYes X3.here hx rfl (pc0 := 17) (pc' := 57) rfl (hb hby d22_17) rfl (teq (by decide)).1 (by decide) (by decide) ?_
    refine XS.aloadN X3.here hx rfl (hb hby d22_57) rfl rfl ?_
    exact kZ
  refine Go.retR X3 hx Bd.notSynchronized Bd.returns rfl rfl (hb hby d22_58) (by decide) (by decide) ?_
  exact ⟨b1, rfl, N3, K3, sz_b1, f3_0, f3_1⟩
theorem d24_0 : decode B24 0 = .ok (.iload_n 1, 1) := by decide +kernel
theorem d24_1 : decode B24 1 = .ok (.aload_n 0, 1) := by decide +kernel
theorem d24_2 : decode B24 2 = .ok (.arraylength, 1) := by decide +kernel
theorem d24_3 : decode B24 3 = .ok (.isub, 1) := by decide +kernel
theorem d24_4 : decode B24 4 = .ok (.bipush 31, 2) := by decide +kernel
theorem d24_6 : decode B24 6 = .ok (.iushr, 1) := by decide +kernel
theorem d24_7 : decode B24 7 = .ok (.i2b, 1) := by decide +kernel
theorem d24_8 : decode B24 8 = .ok (.ireturn, 1) := by decide +kernel
def f24n1 (o0 : Addr) (bF : Nat → Int32) : Int32 := (nar .byte ((((0 : Int32).toUInt32 >>> ((31 : Int32) &&& 31).toUInt32).toInt32).toInt8.toInt32))
def Q24n1 (o0 : Addr) (bF : Nat → Int32) (h0 : Heap) (n0 : Nat) (v : Option Value) (h : Heap) (L : List Loc) : Prop := v = some (.int (f24n1 o0 bF)) ∧ Fr n0 L ∧ h = h0
theorem ef_24_aa (m : MethodId) (x0 : Addr) (x1 : Int32) : entryFrame m #[(.ref x0), (.int x1)] 2 = mkF m 0 #[.val (.ref x0), .val (.int x1)] [] := by first | (simp [entryFrame, mkF, argsToLocals, Value.category]; done) | rfl
theorem rm24n1 (l : Launch) (Z : State) (a0 : Array Value) (hw : ∀ d ∈ tables_1, d.before a0 Z = true) (ws : List Jvm.Cond) (o0 : Addr) (bF : Nat → Int32) (h0 : Heap) (n0 : Nat) (Z0 : n0 ≤ h0.size) (ha0 : AV Z h0 o0 .byte 1 (fun k => .int (bF k))) :
    MetFree l y24 (head1 (Jvm.Cond.code y24 jdk_52_method_15_code 2 (some .byte) :: ws) RM_0_0_0_0) (fun a U => a = #[(.ref o0), (.int 1)] ∧ Z.Warmed39 U.vm ∧ U.heap = h0) (fun _ _ _ _ _ => True) (fun _ U o U' => ∃ v L, o = .returned v ∧ Q24n1 o0 bF h0 n0 v U'.heap L ∧ FrameEnd U o U' L RM_0_0_0_0.cells RM_0_0_0_0.slots) := by
  refine MetFree.of_bodySF (plainFor_of_name pn_7) hisR ?_
  intro p e s m args below meth c s₁ Bd hml0 hP hK
  obtain ⟨rfl, hZ, hh⟩ := hP
  have hx := Bd.exec
  have hby := Bd.bytes
  have hml : c.maxLocals = 2 := hml0
  have hown : s.vm.findClass "java/lang/StringUTF16" = some m.cls := findClass_of_methodNamed Bd.named
  have X0 : Stand p l e RM_0_0_0_0 s m _ below meth c s₁ [] 0 0 := Stand.of_body Bd
  have e0 : s₁.heap = h0 := by rw [← hh, Bd.state]; rfl
  have N0 := Fr.nil n0
  refine Go.into (P := fun oo uu => ∃ v L, oo = .returned v ∧ Q24n1 o0 bF h0 n0 v uu.heap L ∧ FrameEnd s oo uu L RM_0_0_0_0.cells RM_0_0_0_0.slots) (ef_24_aa m o0 (1 : Int32)) ?_
  show Go p e below _ (s₁.setTop (mkF m 0 #[sR o0, sI 1] []))
  refine Vi (s₁.setTop (mkF m 8 #[sR o0, sI 1] [(.int ((((0 : Int32).toUInt32 >>> ((31 : Int32) &&& 31).toUInt32).toInt32).toInt8.toInt32))])) (fun tZ kZ => ?_) ?_
  · refine XS.iloadN X0.here hx rfl (hb hby d24_0) rfl ?_
    refine XS.aloadN X0.here hx rfl (hb hby d24_1) rfl rfl ?_
    refine AV.len ha0 X0 hx hZ e0 (hb hby d24_2) ?_
    refine XS.isub X0.here hx rfl (hb hby d24_3) rfl ?_
    refine XS.bipush X0.here hx rfl (hb hby d24_4) ?_
    refine XS.iushr X0.here hx rfl (hb hby d24_6) rfl ?_
    refine XS.i2b X0.here hx rfl (hb hby d24_7) rfl ?_
    exact kZ
  refine Go.retN X0 hx Bd.notSynchronized (t := .byte) Bd.returns (by simp) (hb hby d24_8) (by decide) (by decide) ?_
  refine ⟨?_, N0, e0⟩
  show some ((Value.int (nar .byte ((((0 : Int32).toUInt32 >>> ((31 : Int32) &&& 31).toUInt32).toInt32).toInt8.toInt32))) : Value) = some (.int (f24n1 o0 bF))
  rfl
theorem d3_27 : decode B3 27 = .ok (.getstatic 38, 3) := by decide +kernel
theorem d3_30 : decode B3 30 = .ok (.ifCond .eq 28, 3) := by decide +kernel
theorem d3_33 : decode B3 33 = .ok (.aload_n 1, 1) := by decide +kernel
theorem d3_34 : decode B3 34 = .ok (.iload_n 2, 1) := by decide +kernel
theorem d3_35 : decode B3 35 = .ok (.iload_n 3, 1) := by decide +kernel
theorem pd_19 : parseMethodDescriptor "([CII)[B" = some ⟨[(.array .char), .int, .int], some (.array .byte)⟩ := by decide +kernel
theorem d3_36 : decode B3 36 = .ok (.invokestatic 177, 3) := by decide +kernel
theorem d3_39 : decode B3 39 = .ok (.astore 5, 2) := by decide +kernel
theorem d3_41 : decode B3 41 = .ok (.aload_n 0, 1) := by decide +kernel
theorem d3_42 : decode B3 42 = .ok (.aload 5, 2) := by decide +kernel
theorem d3_44 : decode B3 44 = .ok (.iload_n 3, 1) := by decide +kernel
theorem pd_21 : parseMethodDescriptor "([BI)B" = some ⟨[(.array .byte), .int], some .byte⟩ := by decide +kernel
theorem d3_45 : decode B3 45 = .ok (.invokestatic 47, 3) := by decide +kernel
theorem d3_48 : decode B3 48 = .ok (.putfield 15, 3) := by decide +kernel
theorem d3_51 : decode B3 51 = .ok (.aload_n 0, 1) := by decide +kernel
theorem d3_52 : decode B3 52 = .ok (.aload 5, 2) := by decide +kernel
theorem d3_54 : decode B3 54 = .ok (.putfield 9, 3) := by decide +kernel
theorem d3_57 : decode B3 57 = .ok (.return_, 1) := by decide +kernel
def Q3n1 (Z : State) (o0 : Addr) (o1 : Addr) (cF : Nat → Int32) (cs : Int32) (h0 : Heap) (n0 : Nat) (v : Option Value) (h : Heap) (L : List Loc) : Prop := ∃ b3_0 : Addr, v = none ∧ Fr n0 L ∧ Keep h0 h [o0] ∧ h0.size ≤ b3_0 ∧ Exa Z h o0 "java/lang/String" ∧ Fld Z h o0 "java/lang/String" "value" "[B" (.ref b3_0) ∧ Fld Z h o0 "java/lang/String" "coder" "B" (.int 0) ∧ AV Z h o1 .char 1 (fun k => .int (cF k)) ∧ Sta Z h "java/lang/String" "COMPACT_STRINGS" "Z" (.int cs) ∧ AV Z h b3_0 .byte 1 (fun k => .int ((up (fun _ => (0 : Int32)) (0 : Int32).toNatClampNeg (nar .byte ((cF (0 : Int32).toNatClampNeg).toInt8.toInt32))) k))
abbrev RM_2_1_1_35 : Room := { frames := 2, cells := 1, slots := 1, locals := 35 }
theorem rm3n1 (l : Launch) (Z : State) (a0 : Array Value) (hw : ∀ d ∈ tables_1, d.before a0 Z = true) (ws : List Jvm.Cond) (o0 : Addr) (o1 : Addr) (cF : Nat → Int32) (cs : Int32) (h0 : Heap) (n0 : Nat) (Z0 : n0 ≤ h0.size) (ha0 : Exa Z h0 o0 "java/lang/String") (ha1 : Fld Z h0 o0 "java/lang/String" "value" "[B" .null) (ha2 : Fld Z h0 o0 "java/lang/String" "coder" "B" (.int 0)) (ha3 : n0 ≤ o0) (ha4 : AV Z h0 o1 .char 1 (fun k => .int (cF k))) (ha5 : Sta Z h0 "java/lang/String" "COMPACT_STRINGS" "Z" (.int cs)) (hne_o1_o0 : o1 ≠ o0) (hch0 : ¬ (255 : Int32) < (cF (0 : Int32).toNatClampNeg)) (hcs : ¬ cs = 0) :
    MetFree l y3 (head1 (Jvm.Cond.code y3 jdk_42_method_149_code 6 none :: ws) RM_2_1_1_35) (fun a U => a = #[(.ref o0), (.ref o1), (.int 0), (.int 1), .null] ∧ Z.Warmed39 U.vm ∧ U.heap = h0) (fun _ _ _ _ _ => True) (fun _ U o U' => ∃ v L, o = .returned v ∧ Q3n1 Z o0 o1 cF cs h0 n0 v U'.heap L ∧ FrameEnd U o U' L RM_2_1_1_35.cells RM_2_1_1_35.slots) := by
  refine MetFree.of_bodySF (plainFor_of_name pn_0) hisR ?_
  intro p e s m args below meth c s₁ Bd hml0 hP hK
  obtain ⟨rfl, hZ, hh⟩ := hP
  have hx := Bd.exec
  have hby := Bd.bytes
  have hml : c.maxLocals = 6 := hml0
  have hown : s.vm.findClass "java/lang/String" = some m.cls := findClass_of_methodNamed Bd.named
  have hnm := (name_of_methodNamed Bd.named Bd.method).1
  have X0 : Stand p l e RM_2_1_1_35 s m _ below meth c s₁ [] 0 0 := Stand.of_body Bd
  have e0 : s₁.heap = h0 := by rw [← hh, Bd.state]; rfl
  have N0 := Fr.nil n0
  refine Go.into (P := fun oo uu => ∃ v L, oo = .returned v ∧ Q3n1 Z o0 o1 cF cs h0 n0 v uu.heap L ∧ FrameEnd s oo uu L RM_2_1_1_35.cells RM_2_1_1_35.slots) (ef_3_aaaan m o0 o1 (0 : Int32) (1 : Int32)) ?_
  show Go p e below _ (s₁.setTop (mkF m 0 #[sR o0, sR o1, sI 0, sI 1, .val .null, .unset] []))
  refine Vi (s₁.setTop (mkF m 1 #[sR o0, sR o1, sI 0, sI 1, .val .null, .unset] [(.ref o0)])) (fun tZ kZ => ?_) ?_
  · refine XS.aloadN X0.here hx rfl (hb hby d3_0) rfl rfl ?_
    exact kZ
  obtain ⟨T1, X1, e1, st1⟩ := initO X0 hx hZ hown (wq hw 25 rfl) (wq hw 26 rfl) (wq hw 27 rfl) e0 (g := (mkF m 1 #[sR o0, sR o1, sI 0, sI 1, .val .null, .unset] [(.ref o0)])) rfl (by rw [hml]; rfl) rfl (hb hby d3_1) (by decide) (W := 0) (by show 2 * 0 + _ ≤ _; exact Nat.le_of_eq rfl) (by decide)
  refine Go.via st1 ?_
  refine Vi (T1.setTop (mkF m 27 #[sR o0, sR o1, sI 0, sI 1, .val .null, .unset] [])) (fun tZ kZ => ?_) ?_
  · refine XS.iloadN X1.here hx rfl (hb hby d3_4) rfl ?_
    refine XS.ifYes X1.here hx rfl (pc0 := 5) (pc' := 27) rfl (hb hby d3_5) rfl ((if0 _ _).trans (feq (by decide)).2) (by decide) (by decide) ?_
    exact kZ
  obtain ⟨T2, X2, e2, st2⟩ := getS2 X1 hx hZ hown (host := "") (Or.inl (wq hw 74 rfl)) Via.refl e1 ha5 (g := (mkF m 27 #[sR o0, sR o1, sI 0, sI 1, .val .null, .unset] [])) rfl (hb hby d3_27)
  refine Go.via st2 ?_
  refine Vi (T2.setTop (mkF m 36 #[sR o0, sR o1, sI 0, sI 1, .val .null, .unset] [(.int 1), (.int 0), (.ref o1)])) (fun tZ kZ => ?_) ?_
  · refine XS.ifNo X2.here hx rfl (hb hby d3_30) rfl ((if0 _ _).trans (feq hcs).1) ?_
    refine XS.aloadN X2.here hx rfl (hb hby d3_33) rfl rfl ?_
    refine XS.iloadN X2.here hx rfl (hb hby d3_34) rfl ?_
    refine XS.iloadN X2.here hx rfl (hb hby d3_35) rfl ?_
    exact kZ
  obtain ⟨_, _, ⟨T3, L3, k3, n3⟩, -, X3, ⟨Lc3, hQ3, l3, y3, z3⟩, st3⟩ := Jvm.LawKit.callS X2 hx (y := y22) hown (mvT hZ (wq hw 115 rfl)) (mvT hZ (wq hw 116 rfl)) (mvT hZ (wq hw 117 rfl)) (mvT hZ (wq hw 118 rfl)) (by decide) (backOf (W := 0) (rm22n1 l Z a0 hw [] o1 cF h0 n0 Z0 ha4 hch0) hZ (wq hw 118 rfl) (wq hw 117 rfl) (by decide) (by decide)) (g := (mkF m 36 #[sR o0, sR o1, sI 0, sI 1, .val .null, .unset] [(.int 1), (.int 0), (.ref o1)])) rfl (by rw [hml]; rfl) (argsL := [(.ref o1), (.int 0), (.int 1)]) (rest := []) (lenOf pd_19 rfl) rfl (leW rfl) (hb hby d3_36) (fun _ _ => ⟨rfl, e2, (by decide : 0 + 1 ≤ _), (by decide : 0 + 1 ≤ _)⟩)
  dsimp only [Pt.U, Pt.locs, Pt.cells, Pt.slots] at X3 l3 y3 z3 st3 hQ3
  subst l3 y3 z3
  obtain ⟨b3_0, rfl, N3q, Kq3, hz_b3_0, f3_0, f3_1⟩ := hQ3
  have g_b3_0 : n0 ≤ b3_0 := Nat.le_trans Z0 hz_b3_0
  have sz_b3_0 : h0.size ≤ b3_0 := Nat.le_trans ((Keep.refl h0 [o0])).1 hz_b3_0
  have ne_o0_b3_0 : o0 ≠ b3_0 := Nat.ne_of_lt (Nat.lt_of_lt_of_le ha0.lt hz_b3_0)
  have ne_o1_b3_0 : o1 ≠ b3_0 := Nat.ne_of_lt (Nat.lt_of_lt_of_le ha4.lt hz_b3_0)
  have c4_0 := ha0.keep Kq3
  have c4_1 := ha1.keep Kq3 nin0
  have c4_2 := ha2.keep Kq3 nin0
  have c4_5 := own_sk ha5 Kq3 (fun _ _ _ _ => nin0)
  have K3 : Keep h0 T3.heap [o0] := (Keep.refl h0 [o0]).trans Kq3 all0
  have Z3 : n0 ≤ T3.heap.size := Nat.le_trans Z0 Kq3.1
  have N3 := Fr.app N0 N3q
  refine Go.via st3 ?_
  refine Vi (T3.setTop (mkF m 45 #[sR o0, sR o1, sI 0, sI 1, .val .null, sR b3_0] [(.int 1), (.ref b3_0), (.ref o0)])) (fun tZ kZ => ?_) ?_
  · refine XS.astore X3.here hx rfl (hb hby d3_39) rfl rfl (l' := #[sR o0, sR o1, sI 0, sI 1, .val .null, sR b3_0]) rfl ?_
    refine XS.aloadN X3.here hx rfl (hb hby d3_41) rfl rfl ?_
    refine XS.aload X3.here hx rfl (hb hby d3_42) rfl rfl ?_
    refine XS.iloadN X3.here hx rfl (hb hby d3_44) rfl ?_
    exact kZ
  obtain ⟨_, _, ⟨T5, L5, k5, n5⟩, -, X5, ⟨Lc5, hQ5, l5, y5, z5⟩, st5⟩ := Jvm.LawKit.callS X3 hx (y := y24) hown (mvT hZ (wq hw 122 rfl)) (mvT hZ (wq hw 123 rfl)) (mvT hZ (wq hw 117 rfl)) (mvT hZ (wq hw 124 rfl)) (by decide) (backOf (W := 1) (rm24n1 l Z a0 hw [] b3_0 (up (fun _ => (0 : Int32)) (0 : Int32).toNatClampNeg (nar .byte ((cF (0 : Int32).toNatClampNeg).toInt8.toInt32))) T3.heap n0 Z3 f3_1) hZ (wq hw 124 rfl) (wq hw 117 rfl) (by decide) (by decide)) (g := (mkF m 45 #[sR o0, sR o1, sI 0, sI 1, .val .null, sR b3_0] [(.int 1), (.ref b3_0), (.ref o0)])) rfl (by rw [hml]; rfl) (argsL := [(.ref b3_0), (.int 1)]) (rest := [(.ref o0)]) (lenOf pd_21 rfl) rfl (leW rfl) (hb hby d3_45) (fun _ _ => ⟨rfl, rfl, (by decide : 0 + 1 + 0 ≤ _), (by decide : 0 + 1 + 0 ≤ _)⟩)
  dsimp only [Pt.U, Pt.locs, Pt.cells, Pt.slots] at X5 l5 y5 z5 st5 hQ5
  subst l5 y5 z5
  obtain ⟨rfl, N5q, e5⟩ := hQ5
  have hv5 : (f24n1 b3_0 (up (fun _ => (0 : Int32)) (0 : Int32).toNatClampNeg (nar .byte ((cF (0 : Int32).toNatClampNeg).toInt8.toInt32)))) = (0 : Int32) := by unfold f24n1; decide
  rw [hv5] at st5
  have N5 := Fr.app N3 N5q
  refine Go.via st5 ?_
  obtain ⟨T6, h6, X6, e6, W6, st6⟩ := putFN X5 hx hZ hown (wq hw 30 rfl) Via.refl e5 c4_2 c4_0 (Or.inr ⟨(wq hw 11 rfl), rfl, hnm⟩) (wq hw 8 rfl) (ty := .byte) (v' := (.int (nar .byte (0 : Int32)))) (by decide) rfl (fits_nar_byte _) (g := (mkF m 48 #[sR o0, sR o1, sI 0, sI 1, .val .null, sR b3_0] [(.int 0), (.ref o0)])) rfl rfl (hb hby d3_48)
  have N6 := Fr.snoc X6 N5 ha3
  have c7_0 := c4_0.wr W6
  have c7_1 := c4_1.other W6 (Or.inr (slot_ne (Or.inr (wq hw 10 rfl)) (Or.inr (wq hw 11 rfl)) (by decide) (t := (.array .byte)) (t' := .byte) (by decide) (by decide)))
  have c7_4 := f3_0.other W6 hne_o1_o0
  have c7_5 := c4_5.wr W6
  have c7_6 := f3_1.other W6 (Ne.symm ne_o0_b3_0)
  have K6 : Keep h0 h6 [o0] := K3.wr W6 (Or.inl (by simp))
  have Z6 : n0 ≤ h6.size := Nat.le_trans Z3 (Keep.of_wr W6).1
  have Fw6 : Fld Z h6 o0 "java/lang/String" "coder" "B" (.int 0) := c4_2.same W6
  refine Go.via st6 ?_
  refine Vi (T6.setTop (mkF m 54 #[sR o0, sR o1, sI 0, sI 1, .val .null, sR b3_0] [(.ref b3_0), (.ref o0)])) (fun tZ kZ => ?_) ?_
  · refine XS.aloadN X6.here hx rfl (hb hby d3_51) rfl rfl ?_
    refine XS.aload X6.here hx rfl (hb hby d3_52) rfl rfl ?_
    exact kZ
  obtain ⟨T8, h8, X8, e8, W8, st8⟩ := putF X6 hx hZ hown (host := "") (Or.inl (wq hw 29 rfl)) Via.refl e6 c7_1 c7_0 (Or.inr ⟨(wq hw 10 rfl), rfl, hnm⟩) (wq hw 8 rfl) (ty := (.array .byte)) (by decide) rfl rfl (g := (mkF m 54 #[sR o0, sR o1, sI 0, sI 1, .val .null, sR b3_0] [(.ref b3_0), (.ref o0)])) rfl rfl (hb hby d3_54)
  have N8 := Fr.snoc X8 N6 ha3
  have c9_0 := c7_0.wr W8
  have c9_2 := Fw6.other W8 (Or.inr (slot_ne (Or.inr (wq hw 11 rfl)) (Or.inr (wq hw 10 rfl)) (by decide) (t := .byte) (t' := (.array .byte)) (by decide) (by decide)))
  have c9_4 := c7_4.other W8 hne_o1_o0
  have c9_5 := c7_5.wr W8
  have c9_6 := c7_6.other W8 (Ne.symm ne_o0_b3_0)
  have K8 : Keep h0 h8 [o0] := K6.wr W8 (Or.inl (by simp))
  have Z8 : n0 ≤ h8.size := Nat.le_trans Z6 (Keep.of_wr W8).1
  have Fw8 := c7_1.same W8
  refine Go.via st8 ?_
  refine Go.retV X8 hx Bd.notSynchronized Bd.returns (hb hby d3_57) (by decide) (by decide) ?_
  rw [e8]
  exact ⟨b3_0, rfl, N8, K8, sz_b3_0, c9_0, Fw8, c9_2, c9_4, c9_5, c9_6⟩
def Q2n1 (Z : State) (o0 : Addr) (o1 : Addr) (cF : Nat → Int32) (cs : Int32) (h0 : Heap) (n0 : Nat) (v : Option Value) (h : Heap) (L : List Loc) : Prop := ∃ b1_0 : Addr, v = none ∧ Fr n0 L ∧ Keep h0 h [o0] ∧ h0.size ≤ b1_0 ∧ Exa Z h o0 "java/lang/String" ∧ Fld Z h o0 "java/lang/String" "value" "[B" (.ref b1_0) ∧ Fld Z h o0 "java/lang/String" "coder" "B" (.int 0) ∧ AV Z h o1 .char 1 (fun k => .int (cF k)) ∧ Sta Z h "java/lang/String" "COMPACT_STRINGS" "Z" (.int cs) ∧ AV Z h b1_0 .byte 1 (fun k => .int ((up (fun _ => (0 : Int32)) (0 : Int32).toNatClampNeg (nar .byte ((cF (0 : Int32).toNatClampNeg).toInt8.toInt32))) k))
abbrev RM_3_1_1_52 : Room := { frames := 3, cells := 1, slots := 1, locals := 52 }
theorem rm2n1 (l : Launch) (Z : State) (a0 : Array Value) (hw : ∀ d ∈ tables_1, d.before a0 Z = true) (ws : List Jvm.Cond) (o0 : Addr) (o1 : Addr) (cF : Nat → Int32) (cs : Int32) (h0 : Heap) (n0 : Nat) (Z0 : n0 ≤ h0.size) (ha0 : Exa Z h0 o0 "java/lang/String") (ha1 : Fld Z h0 o0 "java/lang/String" "value" "[B" .null) (ha2 : Fld Z h0 o0 "java/lang/String" "coder" "B" (.int 0)) (ha3 : n0 ≤ o0) (ha4 : AV Z h0 o1 .char 1 (fun k => .int (cF k))) (ha5 : Sta Z h0 "java/lang/String" "COMPACT_STRINGS" "Z" (.int cs)) (hne_o1_o0 : o1 ≠ o0) (hch0 : ¬ (255 : Int32) < (cF (0 : Int32).toNatClampNeg)) (hcs : ¬ cs = 0) :
    MetFree l y2 (head1 (Jvm.Cond.code y2 jdk_42_method_3_code 2 none :: ws) RM_3_1_1_52) (fun a U => a = #[(.ref o0), (.ref o1)] ∧ Z.Warmed39 U.vm ∧ U.heap = h0) (fun _ _ _ _ _ => True) (fun _ U o U' => ∃ v L, o = .returned v ∧ Q2n1 Z o0 o1 cF cs h0 n0 v U'.heap L ∧ FrameEnd U o U' L RM_3_1_1_52.cells RM_3_1_1_52.slots) := by
  refine MetFree.of_bodySF (plainFor_of_name pn_0) hisR ?_
  intro p e s m args below meth c s₁ Bd hml0 hP hK
  obtain ⟨rfl, hZ, hh⟩ := hP
  have hx := Bd.exec
  have hby := Bd.bytes
  have hml : c.maxLocals = 2 := hml0
  have hown : s.vm.findClass "java/lang/String" = some m.cls := findClass_of_methodNamed Bd.named
  have X0 : Stand p l e RM_3_1_1_52 s m _ below meth c s₁ [] 0 0 := Stand.of_body Bd
  have e0 : s₁.heap = h0 := by rw [← hh, Bd.state]; rfl
  have N0 := Fr.nil n0
  refine Go.into (P := fun oo uu => ∃ v L, oo = .returned v ∧ Q2n1 Z o0 o1 cF cs h0 n0 v uu.heap L ∧ FrameEnd s oo uu L RM_3_1_1_52.cells RM_3_1_1_52.slots) (ef_2_aa m o0 o1) ?_
  show Go p e below _ (s₁.setTop (mkF m 0 #[sR o0, sR o1] []))
  refine Vi (s₁.setTop (mkF m 6 #[sR o0, sR o1] [.null, (.int 1), (.int 0), (.ref o1), (.ref o0)])) (fun tZ kZ => ?_) ?_
  · refine XS.aloadN X0.here hx rfl (hb hby d2_0) rfl rfl ?_
    refine XS.aloadN X0.here hx rfl (hb hby d2_1) rfl rfl ?_
    refine XS.iconst X0.here hx rfl (hb hby d2_2) ?_
    refine XS.aloadN X0.here hx rfl (hb hby d2_3) rfl rfl ?_
    refine AV.len ha4 X0 hx hZ e0 (hb hby d2_4) ?_
    refine XS.aconstNull X0.here hx rfl (hb hby d2_5) ?_
    exact kZ
  obtain ⟨_, _, ⟨T1, L1, k1, n1⟩, -, X1, ⟨Lc1, hQ1, l1, y1, z1⟩, st1⟩ := X0.specialBack hx (y := y3) rfl hown (mvT hZ (wq hw 21 rfl)) (mvT hZ (wq hw 22 rfl)) (mvT hZ (wq hw 24 rfl)) (by decide) (backOf (W := 0) (rm3n1 l Z a0 hw [] o0 o1 cF cs h0 n0 Z0 ha0 ha1 ha2 ha3 ha4 ha5 hne_o1_o0 hch0 hcs) hZ (wq hw 24 rfl) (wq hw 7 rfl) (by decide) (by decide)) (g := (mkF m 6 #[sR o0, sR o1] [.null, (.int 1), (.int 0), (.ref o1), (.ref o0)])) rfl (by rw [hml]; rfl) (Steps.refl _) (a := o0) (argsL := [(.ref o1), (.int 0), (.int 1), .null]) (rest := []) (lenOf pd_2 rfl) rfl (leW rfl) (hb hby d2_6) (fun _ _ => ⟨rfl, e0, (by decide : 0 + 1 ≤ _), (by decide : 0 + 1 ≤ _)⟩)
  dsimp only [Pt.U, Pt.locs, Pt.cells, Pt.slots] at X1 l1 y1 z1 st1 hQ1
  subst l1 y1 z1
  obtain ⟨b1_0, rfl, N1q, Kq1, hz_b1_0, f1_0, f1_1, f1_2, f1_3, f1_4, f1_5⟩ := hQ1
  have g_b1_0 : n0 ≤ b1_0 := Nat.le_trans Z0 hz_b1_0
  have sz_b1_0 : h0.size ≤ b1_0 := Nat.le_trans ((Keep.refl h0 [o0])).1 hz_b1_0
  have ne_o0_b1_0 : o0 ≠ b1_0 := Nat.ne_of_lt (Nat.lt_of_lt_of_le ha0.lt hz_b1_0)
  have ne_o1_b1_0 : o1 ≠ b1_0 := Nat.ne_of_lt (Nat.lt_of_lt_of_le ha4.lt hz_b1_0)
  have K1 : Keep h0 T1.heap [o0] := (Keep.refl h0 [o0]).trans Kq1 (allS (Or.inl (by simp)) all0)
  have Z1 : n0 ≤ T1.heap.size := Nat.le_trans Z0 Kq1.1
  have N1 := Fr.app N0 N1q
  refine Go.via (fun t k => st1.trans k) ?_
  refine Go.retV X1 hx Bd.notSynchronized Bd.returns (hb hby d2_9) (by decide) (by decide) ?_
  exact ⟨b1_0, rfl, N1, K1, sz_b1_0, f1_0, f1_1, f1_2, f1_3, f1_4, f1_5⟩
def Q23n2 (Z : State) (o0 : Addr) (o2 : Addr) (cF : Nat → Int32) (bF : Nat → Int32) (h0 : Heap) (n0 : Nat) (v : Option Value) (h : Heap) (L : List Loc) : Prop := v = some (.int 2) ∧ Fr n0 L ∧ Keep h0 h [o2] ∧ AV Z h o0 .char 2 (fun k => .int (cF k)) ∧ AV Z h o2 .byte 2 (fun k => .int ((up (up bF (0 : Int32).toNatClampNeg (nar .byte ((cF (0 : Int32).toNatClampNeg).toInt8.toInt32))) (1 : Int32).toNatClampNeg (nar .byte ((cF (1 : Int32).toNatClampNeg).toInt8.toInt32))) k))
theorem rm23n2 (l : Launch) (Z : State) (a0 : Array Value) (hw : ∀ d ∈ tables_1, d.before a0 Z = true) (ws : List Jvm.Cond) (o0 : Addr) (o2 : Addr) (cF : Nat → Int32) (bF : Nat → Int32) (h0 : Heap) (n0 : Nat) (Z0 : n0 ≤ h0.size) (ha0 : AV Z h0 o0 .char 2 (fun k => .int (cF k))) (ha1 : AV Z h0 o2 .byte 2 (fun k => .int (bF k))) (ha2 : n0 ≤ o2) (hne_o0_o2 : o0 ≠ o2) (hch0 : ¬ (255 : Int32) < (cF (0 : Int32).toNatClampNeg)) (hch1 : ¬ (255 : Int32) < (cF (1 : Int32).toNatClampNeg)) :
    MetFree l y23 (head1 (Jvm.Cond.code y23 jdk_52_method_21_code 7 (some .int) :: ws) RM_0_0_0_0) (fun a U => a = #[(.ref o0), (.int 0), (.ref o2), (.int 0), (.int 2)] ∧ Z.Warmed39 U.vm ∧ U.heap = h0) (fun _ _ _ _ _ => True) (fun _ U o U' => ∃ v L, o = .returned v ∧ Q23n2 Z o0 o2 cF bF h0 n0 v U'.heap L ∧ FrameEnd U o U' L RM_0_0_0_0.cells RM_0_0_0_0.slots) := by
  refine MetFree.of_bodySF (plainFor_of_name pn_7) hisR ?_
  intro p e s m args below meth c s₁ Bd hml0 hP hK
  obtain ⟨rfl, hZ, hh⟩ := hP
  have hx := Bd.exec
  have hby := Bd.bytes
  have hml : c.maxLocals = 7 := hml0
  have hown : s.vm.findClass "java/lang/StringUTF16" = some m.cls := findClass_of_methodNamed Bd.named
  have X0 : Stand p l e RM_0_0_0_0 s m _ below meth c s₁ [] 0 0 := Stand.of_body Bd
  have e0 : s₁.heap = h0 := by rw [← hh, Bd.state]; rfl
  have N0 := Fr.nil n0
  refine Go.into (P := fun oo uu => ∃ v L, oo = .returned v ∧ Q23n2 Z o0 o2 cF bF h0 n0 v uu.heap L ∧ FrameEnd s oo uu L RM_0_0_0_0.cells RM_0_0_0_0.slots) (ef_23_aaaaa m o0 (0 : Int32) o2 (0 : Int32) (2 : Int32)) ?_
  show Go p e below _ (s₁.setTop (mkF m 0 #[sR o0, sI 0, sR o2, sI 0, sI 2, .unset, .unset] []))
  refine Vi (s₁.setTop (mkF m 31 #[sR o0, sI 0, sR o2, sI 0, sI 2, sI 0, sI (cF (0 : Int32).toNatClampNeg)] [(.int ((cF (0 : Int32).toNatClampNeg).toInt8.toInt32)), (.int 0), (.ref o2)])) (fun tZ kZ => ?_) ?_
  · refine XS.iconst X0.here hx rfl (hb hby d23_0) ?_
    refine XS.istore X0.here hx rfl (hb hby d23_1) rfl (l' := #[sR o0, sI 0, sR o2, sI 0, sI 2, sI 0, .unset]) rfl ?_
    refine XS.iload X0.here hx rfl (hb hby d23_3) rfl ?_
    refine XS.iload X0.here hx rfl (hb hby d23_5) rfl ?_
    refine XS.icmpNo X0.here hx rfl (hb hby d23_7) rfl (tlt (by decide)).2.1 ?_
    refine XS.aloadN X0.here hx rfl (hb hby d23_10) rfl rfl ?_
    refine XS.iloadN X0.here hx rfl (hb hby d23_11) rfl ?_
    refine AV.caload ha0 X0 hx hZ e0 (j := (0 : Int32)) (by decide) (hb hby d23_12) ?_
    refine XS.istore X0.here hx rfl (hb hby d23_13) rfl (l' := #[sR o0, sI 0, sR o2, sI 0, sI 2, sI 0, sI (cF (0 : Int32).toNatClampNeg)]) rfl ?_
    refine XS.iload X0.here hx rfl (hb hby d23_15) rfl ?_
    refine XS.sipush X0.here hx rfl (hb hby d23_17) ?_
    refine XS.icmpYes X0.here hx rfl (pc0 := 20) (pc' := 26) rfl (hb hby d23_20) rfl (flt hch0).2.2.2 (by decide) (by decide) ?_
    refine XS.aloadN X0.here hx rfl (hb hby d23_26) rfl rfl ?_
    refine XS.iloadN X0.here hx rfl (hb hby d23_27) rfl ?_
    refine XS.iload X0.here hx rfl (hb hby d23_28) rfl ?_
    refine XS.i2b X0.here hx rfl (hb hby d23_30) rfl ?_
    exact kZ
  obtain ⟨T1, h1, X1, e1, W1, V1, st1⟩ := AV.bastoreB ha1 X0 hx hZ e0 (j := (0 : Int32)) (by decide) (Ls := #[sR o0, sI 0, sR o2, sI 0, sI 2, sI 0, sI (cF (0 : Int32).toNatClampNeg)]) (rest := []) (hb hby d23_31) (x := ((cF (0 : Int32).toNatClampNeg).toInt8.toInt32))
  have N1 := Fr.snoc X1 N0 ha2
  have c2_0 := ha0.other W1 hne_o0_o2
  have K1 : Keep h0 h1 [o2] := (Keep.refl h0 [o2]).wr W1 (Or.inl (by simp))
  have Z1 : n0 ≤ h1.size := Nat.le_trans Z0 (Keep.of_wr W1).1
  refine Go.via st1 ?_
  refine Vi (T1.setTop (mkF m 31 #[sR o0, sI 1, sR o2, sI 1, sI 2, sI 1, sI (cF (1 : Int32).toNatClampNeg)] [(.int ((cF (1 : Int32).toNatClampNeg).toInt8.toInt32)), (.int 1), (.ref o2)])) (fun tZ kZ => ?_) ?_
  · refine XS.iinc X1.here hx rfl (hb hby d23_32) rfl (l' := #[sR o0, sI 1, sR o2, sI 0, sI 2, sI 0, sI (cF (0 : Int32).toNatClampNeg)]) rfl ?_
    refine XS.iinc X1.here hx rfl (hb hby d23_35) rfl (l' := #[sR o0, sI 1, sR o2, sI 1, sI 2, sI 0, sI (cF (0 : Int32).toNatClampNeg)]) rfl ?_
    refine XS.iinc X1.here hx rfl (hb hby d23_38) rfl (l' := #[sR o0, sI 1, sR o2, sI 1, sI 2, sI 1, sI (cF (0 : Int32).toNatClampNeg)]) rfl ?_
    refine XS.goto X1.here hx rfl (pc0 := 41) (pc' := 3) rfl (hb hby d23_41) (by decide) (by decide) ?_
    refine XS.iload X1.here hx rfl (hb hby d23_3) rfl ?_
    refine XS.iload X1.here hx rfl (hb hby d23_5) rfl ?_
    refine XS.icmpNo X1.here hx rfl (hb hby d23_7) rfl (tlt (by decide)).2.1 ?_
    refine XS.aloadN X1.here hx rfl (hb hby d23_10) rfl rfl ?_
    refine XS.iloadN X1.here hx rfl (hb hby d23_11) rfl ?_
    refine AV.caload c2_0 X1 hx hZ e1 (j := (1 : Int32)) (by decide) (hb hby d23_12) ?_
    refine XS.istore X1.here hx rfl (hb hby d23_13) rfl (l' := #[sR o0, sI 1, sR o2, sI 1, sI 2, sI 1, sI (cF (1 : Int32).toNatClampNeg)]) rfl ?_
    refine XS.iload X1.here hx rfl (hb hby d23_15) rfl ?_
    refine XS.sipush X1.here hx rfl (hb hby d23_17) ?_
    refine XS.icmpYes X1.here hx rfl (pc0 := 20) (pc' := 26) rfl (hb hby d23_20) rfl (flt hch1).2.2.2 (by decide) (by decide) ?_
    refine XS.aloadN X1.here hx rfl (hb hby d23_26) rfl rfl ?_
    refine XS.iloadN X1.here hx rfl (hb hby d23_27) rfl ?_
    refine XS.iload X1.here hx rfl (hb hby d23_28) rfl ?_
    refine XS.i2b X1.here hx rfl (hb hby d23_30) rfl ?_
    exact kZ
  obtain ⟨T3, h3, X3, e3, W3, V3, st3⟩ := AV.bastoreB V1 X1 hx hZ e1 (j := (1 : Int32)) (by decide) (Ls := #[sR o0, sI 1, sR o2, sI 1, sI 2, sI 1, sI (cF (1 : Int32).toNatClampNeg)]) (rest := []) (hb hby d23_31) (x := ((cF (1 : Int32).toNatClampNeg).toInt8.toInt32))
  have N3 := Fr.snoc X3 N1 ha2
  have c4_0 := c2_0.other W3 hne_o0_o2
  have K3 : Keep h0 h3 [o2] := K1.wr W3 (Or.inl (by simp))
  have Z3 : n0 ≤ h3.size := Nat.le_trans Z1 (Keep.of_wr W3).1
  refine Go.via st3 ?_
  refine Vi (T3.setTop (mkF m 46 #[sR o0, sI 2, sR o2, sI 2, sI 2, sI 2, sI (cF (1 : Int32).toNatClampNeg)] [(.int 2)])) (fun tZ kZ => ?_) ?_
  · refine XS.iinc X3.here hx rfl (hb hby d23_32) rfl (l' := #[sR o0, sI 2, sR o2, sI 1, sI 2, sI 1, sI (cF (1 : Int32).toNatClampNeg)]) rfl ?_
    refine XS.iinc X3.here hx rfl (hb hby d23_35) rfl (l' := #[sR o0, sI 2, sR o2, sI 2, sI 2, sI 1, sI (cF (1 : Int32).toNatClampNeg)]) rfl ?_
    refine XS.iinc X3.here hx rfl (hb hby d23_38) rfl (l' := #[sR o0, sI 2, sR o2, sI 2, sI 2, sI 2, sI (cF (1 : Int32).toNatClampNeg)]) rfl ?_
    refine XS.goto X3.here hx rfl (pc0 := 41) (pc' := 3) rfl (hb hby d23_41) (by decide) (by decide) ?_
    refine XS.iload X3.here hx rfl (hb hby d23_3) rfl ?_
    refine XS.iload X3.here hx rfl (hb hby d23_5) rfl ?_
    refine XS.icmpYes X3.here hx rfl (pc0 := 7) (pc' := 44) rfl (hb hby d23_7) rfl (flt (by decide)).2.1 (by decide) (by decide) ?_
    refine XS.iload X3.here hx rfl (hb hby d23_44) rfl ?_
    exact kZ
  refine Go.retI X3 hx Bd.notSynchronized Bd.returns (hb hby d23_46) (by decide) (by decide) ?_
  rw [e3]
  exact ⟨rfl, N3, K3, c4_0, V3⟩
def Q22n2 (Z : State) (o0 : Addr) (cF : Nat → Int32) (h0 : Heap) (n0 : Nat) (v : Option Value) (h : Heap) (L : List Loc) : Prop := ∃ b1 : Addr, v = some (.ref b1) ∧ Fr n0 L ∧ Keep h0 h [] ∧ h0.size ≤ b1 ∧ AV Z h o0 .char 2 (fun k => .int (cF k)) ∧ AV Z h b1 .byte 2 (fun k => .int ((up (up (fun _ => (0 : Int32)) (0 : Int32).toNatClampNeg (nar .byte ((cF (0 : Int32).toNatClampNeg).toInt8.toInt32))) (1 : Int32).toNatClampNeg (nar .byte ((cF (1 : Int32).toNatClampNeg).toInt8.toInt32))) k))
abbrev RM_1_1_2_18 : Room := { frames := 1, cells := 1, slots := 2, locals := 18 }
theorem rm22n2 (l : Launch) (Z : State) (a0 : Array Value) (hw : ∀ d ∈ tables_1, d.before a0 Z = true) (ws : List Jvm.Cond) (o0 : Addr) (cF : Nat → Int32) (h0 : Heap) (n0 : Nat) (Z0 : n0 ≤ h0.size) (ha0 : AV Z h0 o0 .char 2 (fun k => .int (cF k))) (hch0 : ¬ (255 : Int32) < (cF (0 : Int32).toNatClampNeg)) (hch1 : ¬ (255 : Int32) < (cF (1 : Int32).toNatClampNeg)) :
    MetFree l y22 (head1 (Jvm.Cond.code y22 jdk_52_method_16_code 6 (some (.array .byte)) :: ws) RM_1_1_2_18) (fun a U => a = #[(.ref o0), (.int 0), (.int 2)] ∧ Z.Warmed39 U.vm ∧ U.heap = h0) (fun _ _ _ _ _ => True) (fun _ U o U' => ∃ v L, o = .returned v ∧ Q22n2 Z o0 cF h0 n0 v U'.heap L ∧ FrameEnd U o U' L RM_1_1_2_18.cells RM_1_1_2_18.slots) := by
  refine MetFree.of_bodySF (plainFor_of_name pn_7) hisR ?_
  intro p e s m args below meth c s₁ Bd hml0 hP hK
  obtain ⟨rfl, hZ, hh⟩ := hP
  have hx := Bd.exec
  have hby := Bd.bytes
  have hml : c.maxLocals = 6 := hml0
  have hown : s.vm.findClass "java/lang/StringUTF16" = some m.cls := findClass_of_methodNamed Bd.named
  have X0 : Stand p l e RM_1_1_2_18 s m _ below meth c s₁ [] 0 0 := Stand.of_body Bd
  have e0 : s₁.heap = h0 := by rw [← hh, Bd.state]; rfl
  have N0 := Fr.nil n0
  refine Go.into (P := fun oo uu => ∃ v L, oo = .returned v ∧ Q22n2 Z o0 cF h0 n0 v uu.heap L ∧ FrameEnd s oo uu L RM_1_1_2_18.cells RM_1_1_2_18.slots) (ef_22_aaa m o0 (0 : Int32) (2 : Int32)) ?_
  show Go p e below _ (s₁.setTop (mkF m 0 #[sR o0, sI 0, sI 2, .unset, .unset, .unset] []))
  refine Vi (s₁.setTop (mkF m 1 #[sR o0, sI 0, sI 2, .unset, .unset, .unset] [(.int 2)])) (fun tZ kZ => ?_) ?_
  · refine XS.iloadN X0.here hx rfl (hb hby d22_0) rfl ?_
    exact kZ
  obtain ⟨T1, h1, k1, X1, e1, E1, A1, B1, st1⟩ := newPE X0 hx hZ (wq hw 9 rfl) e0 (g := (mkF m 1 #[sR o0, sI 0, sI 2, .unset, .unset, .unset] [(.int 2)])) rfl (hb hby d22_1) rfl (by decide) (cap := 2) (by decide) (by decide) (by decide) (by decide) (ad := "[B") rfl
  obtain ⟨b1, g1⟩ : ∃ z, z = h0.size := ⟨_, rfl⟩
  rw [← g1] at A1 B1 st1
  have g_b1 : n0 ≤ b1 := Nat.le_trans Z0 (Nat.le_of_eq g1.symm)
  have sz_b1 : h0.size ≤ b1 := Nat.le_trans ((Keep.refl h0 [])).1 (Nat.le_of_eq g1.symm)
  have ne_o0_b1 : o0 ≠ b1 := Nat.ne_of_lt (Nat.lt_of_lt_of_le ha0.lt (Nat.le_of_eq g1.symm))
  have c2_0 := ha0.ext E1
  have K1 : Keep h0 h1 [] := (Keep.refl h0 []).ext E1
  have Z1 : n0 ≤ h1.size := Nat.le_trans Z0 E1.1
  have V1 : AV Z h1 b1 .byte 2 (fun k => .int ((fun _ => (0 : Int32)) k)) := by have q := AV.new A1; exact q
  refine Go.via st1 ?_
  refine Vi (T1.setTop (mkF m 9 #[sR o0, sI 0, sI 2, sR b1, .unset, .unset] [(.int 2), (.int 0), (.ref b1), (.int 0), (.ref o0)])) (fun tZ kZ => ?_) ?_
  · refine XS.astoreN X1.here hx rfl (hb hby d22_3) rfl rfl (l' := #[sR o0, sI 0, sI 2, sR b1, .unset, .unset]) rfl ?_
    refine XS.aloadN X1.here hx rfl (hb hby d22_4) rfl rfl ?_
    refine XS.iloadN X1.here hx rfl (hb hby d22_5) rfl ?_
    refine XS.aloadN X1.here hx rfl (hb hby d22_6) rfl rfl ?_
    refine XS.iconst X1.here hx rfl (hb hby d22_7) ?_
    refine XS.iloadN X1.here hx rfl (hb hby d22_8) rfl ?_
    exact kZ
  obtain ⟨_, _, ⟨T3, L3, k3, n3⟩, -, X3, ⟨Lc3, hQ3, l3, y3, z3⟩, st3⟩ := Jvm.LawKit.callS X1 hx (y := y23) hown (mvT hZ (wq hw 119 rfl)) (mvT hZ (wq hw 120 rfl)) (mvT hZ (wq hw 117 rfl)) (mvT hZ (wq hw 121 rfl)) (by decide) (backOf (W := 0) (rm23n2 l Z a0 hw [] o0 b1 cF (fun _ => (0 : Int32)) h1 n0 Z1 c2_0 V1 g_b1 ne_o0_b1 hch0 hch1) hZ (wq hw 121 rfl) (wq hw 117 rfl) (by decide) (by decide)) (g := (mkF m 9 #[sR o0, sI 0, sI 2, sR b1, .unset, .unset] [(.int 2), (.int 0), (.ref b1), (.int 0), (.ref o0)])) rfl (by rw [hml]; rfl) (argsL := [(.ref o0), (.int 0), (.ref b1), (.int 0), (.int 2)]) (rest := []) (lenOf pd_20 rfl) rfl (leW rfl) (hb hby d22_9) (fun _ _ => ⟨rfl, e1, (by decide : 0 + 1 + 0 ≤ _), (by decide : 0 + 2 + 0 ≤ _)⟩)
  dsimp only [Pt.U, Pt.locs, Pt.cells, Pt.slots] at X3 l3 y3 z3 st3 hQ3
  subst l3 y3 z3
  obtain ⟨rfl, N3q, Kq3, f3_0, f3_1⟩ := hQ3
  have K3 : Keep h0 T3.heap [] := K1.trans Kq3 (allS (Or.inr sz_b1) all0)
  have Z3 : n0 ≤ T3.heap.size := Nat.le_trans Z1 Kq3.1
  have N3 := Fr.app N0 N3q
  refine Go.via st3 ?_
  refine Vi (T3.setTop (mkF m 58 #[sR o0, sI 0, sI 2, sR b1, sI 2, .unset] [(.ref b1)])) (fun tZ kZ => ?_) ?_
  · refine XS.istore X3.here hx rfl (hb hby d22_12) rfl (l' := #[sR o0, sI 0, sI 2, sR b1, sI 2, .unset]) rfl ?_
    refine XS.iload X3.here hx rfl (hb hby d22_14) rfl ?_
    refine XS.iloadN X3.here hx rfl (hb hby d22_16) rfl ?_
    refine XS.icmpYes X3.here hx rfl (pc0 := 17) (pc' := 57) rfl (hb hby d22_17) rfl (teq (by decide)).1 (by decide) (by decide) ?_
    refine XS.aloadN X3.here hx rfl (hb hby d22_57) rfl rfl ?_
    exact kZ
  refine Go.retR X3 hx Bd.notSynchronized Bd.returns rfl rfl (hb hby d22_58) (by decide) (by decide) ?_
  exact ⟨b1, rfl, N3, K3, sz_b1, f3_0, f3_1⟩
def f24n2 (o0 : Addr) (bF : Nat → Int32) : Int32 := (nar .byte ((((0 : Int32).toUInt32 >>> ((31 : Int32) &&& 31).toUInt32).toInt32).toInt8.toInt32))
def Q24n2 (o0 : Addr) (bF : Nat → Int32) (h0 : Heap) (n0 : Nat) (v : Option Value) (h : Heap) (L : List Loc) : Prop := v = some (.int (f24n2 o0 bF)) ∧ Fr n0 L ∧ h = h0
theorem rm24n2 (l : Launch) (Z : State) (a0 : Array Value) (hw : ∀ d ∈ tables_1, d.before a0 Z = true) (ws : List Jvm.Cond) (o0 : Addr) (bF : Nat → Int32) (h0 : Heap) (n0 : Nat) (Z0 : n0 ≤ h0.size) (ha0 : AV Z h0 o0 .byte 2 (fun k => .int (bF k))) :
    MetFree l y24 (head1 (Jvm.Cond.code y24 jdk_52_method_15_code 2 (some .byte) :: ws) RM_0_0_0_0) (fun a U => a = #[(.ref o0), (.int 2)] ∧ Z.Warmed39 U.vm ∧ U.heap = h0) (fun _ _ _ _ _ => True) (fun _ U o U' => ∃ v L, o = .returned v ∧ Q24n2 o0 bF h0 n0 v U'.heap L ∧ FrameEnd U o U' L RM_0_0_0_0.cells RM_0_0_0_0.slots) := by
  refine MetFree.of_bodySF (plainFor_of_name pn_7) hisR ?_
  intro p e s m args below meth c s₁ Bd hml0 hP hK
  obtain ⟨rfl, hZ, hh⟩ := hP
  have hx := Bd.exec
  have hby := Bd.bytes
  have hml : c.maxLocals = 2 := hml0
  have hown : s.vm.findClass "java/lang/StringUTF16" = some m.cls := findClass_of_methodNamed Bd.named
  have X0 : Stand p l e RM_0_0_0_0 s m _ below meth c s₁ [] 0 0 := Stand.of_body Bd
  have e0 : s₁.heap = h0 := by rw [← hh, Bd.state]; rfl
  have N0 := Fr.nil n0
  refine Go.into (P := fun oo uu => ∃ v L, oo = .returned v ∧ Q24n2 o0 bF h0 n0 v uu.heap L ∧ FrameEnd s oo uu L RM_0_0_0_0.cells RM_0_0_0_0.slots) (ef_24_aa m o0 (2 : Int32)) ?_
  show Go p e below _ (s₁.setTop (mkF m 0 #[sR o0, sI 2] []))
  refine Vi (s₁.setTop (mkF m 8 #[sR o0, sI 2] [(.int ((((0 : Int32).toUInt32 >>> ((31 : Int32) &&& 31).toUInt32).toInt32).toInt8.toInt32))])) (fun tZ kZ => ?_) ?_
  · refine XS.iloadN X0.here hx rfl (hb hby d24_0) rfl ?_
    refine XS.aloadN X0.here hx rfl (hb hby d24_1) rfl rfl ?_
    refine AV.len ha0 X0 hx hZ e0 (hb hby d24_2) ?_
    refine XS.isub X0.here hx rfl (hb hby d24_3) rfl ?_
    refine XS.bipush X0.here hx rfl (hb hby d24_4) ?_
    refine XS.iushr X0.here hx rfl (hb hby d24_6) rfl ?_
    refine XS.i2b X0.here hx rfl (hb hby d24_7) rfl ?_
    exact kZ
  refine Go.retN X0 hx Bd.notSynchronized (t := .byte) Bd.returns (by simp) (hb hby d24_8) (by decide) (by decide) ?_
  refine ⟨?_, N0, e0⟩
  show some ((Value.int (nar .byte ((((0 : Int32).toUInt32 >>> ((31 : Int32) &&& 31).toUInt32).toInt32).toInt8.toInt32))) : Value) = some (.int (f24n2 o0 bF))
  rfl
def Q3n2 (Z : State) (o0 : Addr) (o1 : Addr) (cF : Nat → Int32) (cs : Int32) (h0 : Heap) (n0 : Nat) (v : Option Value) (h : Heap) (L : List Loc) : Prop := ∃ b3_0 : Addr, v = none ∧ Fr n0 L ∧ Keep h0 h [o0] ∧ h0.size ≤ b3_0 ∧ Exa Z h o0 "java/lang/String" ∧ Fld Z h o0 "java/lang/String" "value" "[B" (.ref b3_0) ∧ Fld Z h o0 "java/lang/String" "coder" "B" (.int 0) ∧ AV Z h o1 .char 2 (fun k => .int (cF k)) ∧ Sta Z h "java/lang/String" "COMPACT_STRINGS" "Z" (.int cs) ∧ AV Z h b3_0 .byte 2 (fun k => .int ((up (up (fun _ => (0 : Int32)) (0 : Int32).toNatClampNeg (nar .byte ((cF (0 : Int32).toNatClampNeg).toInt8.toInt32))) (1 : Int32).toNatClampNeg (nar .byte ((cF (1 : Int32).toNatClampNeg).toInt8.toInt32))) k))
abbrev RM_2_1_2_35 : Room := { frames := 2, cells := 1, slots := 2, locals := 35 }
theorem rm3n2 (l : Launch) (Z : State) (a0 : Array Value) (hw : ∀ d ∈ tables_1, d.before a0 Z = true) (ws : List Jvm.Cond) (o0 : Addr) (o1 : Addr) (cF : Nat → Int32) (cs : Int32) (h0 : Heap) (n0 : Nat) (Z0 : n0 ≤ h0.size) (ha0 : Exa Z h0 o0 "java/lang/String") (ha1 : Fld Z h0 o0 "java/lang/String" "value" "[B" .null) (ha2 : Fld Z h0 o0 "java/lang/String" "coder" "B" (.int 0)) (ha3 : n0 ≤ o0) (ha4 : AV Z h0 o1 .char 2 (fun k => .int (cF k))) (ha5 : Sta Z h0 "java/lang/String" "COMPACT_STRINGS" "Z" (.int cs)) (hne_o1_o0 : o1 ≠ o0) (hch0 : ¬ (255 : Int32) < (cF (0 : Int32).toNatClampNeg)) (hch1 : ¬ (255 : Int32) < (cF (1 : Int32).toNatClampNeg)) (hcs : ¬ cs = 0) :
    MetFree l y3 (head1 (Jvm.Cond.code y3 jdk_42_method_149_code 6 none :: ws) RM_2_1_2_35) (fun a U => a = #[(.ref o0), (.ref o1), (.int 0), (.int 2), .null] ∧ Z.Warmed39 U.vm ∧ U.heap = h0) (fun _ _ _ _ _ => True) (fun _ U o U' => ∃ v L, o = .returned v ∧ Q3n2 Z o0 o1 cF cs h0 n0 v U'.heap L ∧ FrameEnd U o U' L RM_2_1_2_35.cells RM_2_1_2_35.slots) := by
  refine MetFree.of_bodySF (plainFor_of_name pn_0) hisR ?_
  intro p e s m args below meth c s₁ Bd hml0 hP hK
  obtain ⟨rfl, hZ, hh⟩ := hP
  have hx := Bd.exec
  have hby := Bd.bytes
  have hml : c.maxLocals = 6 := hml0
  have hown : s.vm.findClass "java/lang/String" = some m.cls := findClass_of_methodNamed Bd.named
  have hnm := (name_of_methodNamed Bd.named Bd.method).1
  have X0 : Stand p l e RM_2_1_2_35 s m _ below meth c s₁ [] 0 0 := Stand.of_body Bd
  have e0 : s₁.heap = h0 := by rw [← hh, Bd.state]; rfl
  have N0 := Fr.nil n0
  refine Go.into (P := fun oo uu => ∃ v L, oo = .returned v ∧ Q3n2 Z o0 o1 cF cs h0 n0 v uu.heap L ∧ FrameEnd s oo uu L RM_2_1_2_35.cells RM_2_1_2_35.slots) (ef_3_aaaan m o0 o1 (0 : Int32) (2 : Int32)) ?_
  show Go p e below _ (s₁.setTop (mkF m 0 #[sR o0, sR o1, sI 0, sI 2, .val .null, .unset] []))
  refine Vi (s₁.setTop (mkF m 1 #[sR o0, sR o1, sI 0, sI 2, .val .null, .unset] [(.ref o0)])) (fun tZ kZ => ?_) ?_
  · refine XS.aloadN X0.here hx rfl (hb hby d3_0) rfl rfl ?_
    exact kZ
  obtain ⟨T1, X1, e1, st1⟩ := initO X0 hx hZ hown (wq hw 25 rfl) (wq hw 26 rfl) (wq hw 27 rfl) e0 (g := (mkF m 1 #[sR o0, sR o1, sI 0, sI 2, .val .null, .unset] [(.ref o0)])) rfl (by rw [hml]; rfl) rfl (hb hby d3_1) (by decide) (W := 0) (by show 2 * 0 + _ ≤ _; exact Nat.le_of_eq rfl) (by decide)
  refine Go.via st1 ?_
  refine Vi (T1.setTop (mkF m 27 #[sR o0, sR o1, sI 0, sI 2, .val .null, .unset] [])) (fun tZ kZ => ?_) ?_
  · refine XS.iloadN X1.here hx rfl (hb hby d3_4) rfl ?_
    refine XS.ifYes X1.here hx rfl (pc0 := 5) (pc' := 27) rfl (hb hby d3_5) rfl ((if0 _ _).trans (feq (by decide)).2) (by decide) (by decide) ?_
    exact kZ
  obtain ⟨T2, X2, e2, st2⟩ := getS2 X1 hx hZ hown (host := "") (Or.inl (wq hw 74 rfl)) Via.refl e1 ha5 (g := (mkF m 27 #[sR o0, sR o1, sI 0, sI 2, .val .null, .unset] [])) rfl (hb hby d3_27)
  refine Go.via st2 ?_
  refine Vi (T2.setTop (mkF m 36 #[sR o0, sR o1, sI 0, sI 2, .val .null, .unset] [(.int 2), (.int 0), (.ref o1)])) (fun tZ kZ => ?_) ?_
  · refine XS.ifNo X2.here hx rfl (hb hby d3_30) rfl ((if0 _ _).trans (feq hcs).1) ?_
    refine XS.aloadN X2.here hx rfl (hb hby d3_33) rfl rfl ?_
    refine XS.iloadN X2.here hx rfl (hb hby d3_34) rfl ?_
    refine XS.iloadN X2.here hx rfl (hb hby d3_35) rfl ?_
    exact kZ
  obtain ⟨_, _, ⟨T3, L3, k3, n3⟩, -, X3, ⟨Lc3, hQ3, l3, y3, z3⟩, st3⟩ := Jvm.LawKit.callS X2 hx (y := y22) hown (mvT hZ (wq hw 115 rfl)) (mvT hZ (wq hw 116 rfl)) (mvT hZ (wq hw 117 rfl)) (mvT hZ (wq hw 118 rfl)) (by decide) (backOf (W := 0) (rm22n2 l Z a0 hw [] o1 cF h0 n0 Z0 ha4 hch0 hch1) hZ (wq hw 118 rfl) (wq hw 117 rfl) (by decide) (by decide)) (g := (mkF m 36 #[sR o0, sR o1, sI 0, sI 2, .val .null, .unset] [(.int 2), (.int 0), (.ref o1)])) rfl (by rw [hml]; rfl) (argsL := [(.ref o1), (.int 0), (.int 2)]) (rest := []) (lenOf pd_19 rfl) rfl (leW rfl) (hb hby d3_36) (fun _ _ => ⟨rfl, e2, (by decide : 0 + 1 ≤ _), (by decide : 0 + 2 ≤ _)⟩)
  dsimp only [Pt.U, Pt.locs, Pt.cells, Pt.slots] at X3 l3 y3 z3 st3 hQ3
  subst l3 y3 z3
  obtain ⟨b3_0, rfl, N3q, Kq3, hz_b3_0, f3_0, f3_1⟩ := hQ3
  have g_b3_0 : n0 ≤ b3_0 := Nat.le_trans Z0 hz_b3_0
  have sz_b3_0 : h0.size ≤ b3_0 := Nat.le_trans ((Keep.refl h0 [o0])).1 hz_b3_0
  have ne_o0_b3_0 : o0 ≠ b3_0 := Nat.ne_of_lt (Nat.lt_of_lt_of_le ha0.lt hz_b3_0)
  have ne_o1_b3_0 : o1 ≠ b3_0 := Nat.ne_of_lt (Nat.lt_of_lt_of_le ha4.lt hz_b3_0)
  have c4_0 := ha0.keep Kq3
  have c4_1 := ha1.keep Kq3 nin0
  have c4_2 := ha2.keep Kq3 nin0
  have c4_5 := own_sk ha5 Kq3 (fun _ _ _ _ => nin0)
  have K3 : Keep h0 T3.heap [o0] := (Keep.refl h0 [o0]).trans Kq3 all0
  have Z3 : n0 ≤ T3.heap.size := Nat.le_trans Z0 Kq3.1
  have N3 := Fr.app N0 N3q
  refine Go.via st3 ?_
  refine Vi (T3.setTop (mkF m 45 #[sR o0, sR o1, sI 0, sI 2, .val .null, sR b3_0] [(.int 2), (.ref b3_0), (.ref o0)])) (fun tZ kZ => ?_) ?_
  · refine XS.astore X3.here hx rfl (hb hby d3_39) rfl rfl (l' := #[sR o0, sR o1, sI 0, sI 2, .val .null, sR b3_0]) rfl ?_
    refine XS.aloadN X3.here hx rfl (hb hby d3_41) rfl rfl ?_
    refine XS.aload X3.here hx rfl (hb hby d3_42) rfl rfl ?_
    refine XS.iloadN X3.here hx rfl (hb hby d3_44) rfl ?_
    exact kZ
  obtain ⟨_, _, ⟨T5, L5, k5, n5⟩, -, X5, ⟨Lc5, hQ5, l5, y5, z5⟩, st5⟩ := Jvm.LawKit.callS X3 hx (y := y24) hown (mvT hZ (wq hw 122 rfl)) (mvT hZ (wq hw 123 rfl)) (mvT hZ (wq hw 117 rfl)) (mvT hZ (wq hw 124 rfl)) (by decide) (backOf (W := 1) (rm24n2 l Z a0 hw [] b3_0 (up (up (fun _ => (0 : Int32)) (0 : Int32).toNatClampNeg (nar .byte ((cF (0 : Int32).toNatClampNeg).toInt8.toInt32))) (1 : Int32).toNatClampNeg (nar .byte ((cF (1 : Int32).toNatClampNeg).toInt8.toInt32))) T3.heap n0 Z3 f3_1) hZ (wq hw 124 rfl) (wq hw 117 rfl) (by decide) (by decide)) (g := (mkF m 45 #[sR o0, sR o1, sI 0, sI 2, .val .null, sR b3_0] [(.int 2), (.ref b3_0), (.ref o0)])) rfl (by rw [hml]; rfl) (argsL := [(.ref b3_0), (.int 2)]) (rest := [(.ref o0)]) (lenOf pd_21 rfl) rfl (leW rfl) (hb hby d3_45) (fun _ _ => ⟨rfl, rfl, (by decide : 0 + 1 + 0 ≤ _), (by decide : 0 + 2 + 0 ≤ _)⟩)
  dsimp only [Pt.U, Pt.locs, Pt.cells, Pt.slots] at X5 l5 y5 z5 st5 hQ5
  subst l5 y5 z5
  obtain ⟨rfl, N5q, e5⟩ := hQ5
  have hv5 : (f24n2 b3_0 (up (up (fun _ => (0 : Int32)) (0 : Int32).toNatClampNeg (nar .byte ((cF (0 : Int32).toNatClampNeg).toInt8.toInt32))) (1 : Int32).toNatClampNeg (nar .byte ((cF (1 : Int32).toNatClampNeg).toInt8.toInt32)))) = (0 : Int32) := by unfold f24n2; decide
  rw [hv5] at st5
  have N5 := Fr.app N3 N5q
  refine Go.via st5 ?_
  obtain ⟨T6, h6, X6, e6, W6, st6⟩ := putFN X5 hx hZ hown (wq hw 30 rfl) Via.refl e5 c4_2 c4_0 (Or.inr ⟨(wq hw 11 rfl), rfl, hnm⟩) (wq hw 8 rfl) (ty := .byte) (v' := (.int (nar .byte (0 : Int32)))) (by decide) rfl (fits_nar_byte _) (g := (mkF m 48 #[sR o0, sR o1, sI 0, sI 2, .val .null, sR b3_0] [(.int 0), (.ref o0)])) rfl rfl (hb hby d3_48)
  have N6 := Fr.snoc X6 N5 ha3
  have c7_0 := c4_0.wr W6
  have c7_1 := c4_1.other W6 (Or.inr (slot_ne (Or.inr (wq hw 10 rfl)) (Or.inr (wq hw 11 rfl)) (by decide) (t := (.array .byte)) (t' := .byte) (by decide) (by decide)))
  have c7_4 := f3_0.other W6 hne_o1_o0
  have c7_5 := c4_5.wr W6
  have c7_6 := f3_1.other W6 (Ne.symm ne_o0_b3_0)
  have K6 : Keep h0 h6 [o0] := K3.wr W6 (Or.inl (by simp))
  have Z6 : n0 ≤ h6.size := Nat.le_trans Z3 (Keep.of_wr W6).1
  have Fw6 : Fld Z h6 o0 "java/lang/String" "coder" "B" (.int 0) := c4_2.same W6
  refine Go.via st6 ?_
  refine Vi (T6.setTop (mkF m 54 #[sR o0, sR o1, sI 0, sI 2, .val .null, sR b3_0] [(.ref b3_0), (.ref o0)])) (fun tZ kZ => ?_) ?_
  · refine XS.aloadN X6.here hx rfl (hb hby d3_51) rfl rfl ?_
    refine XS.aload X6.here hx rfl (hb hby d3_52) rfl rfl ?_
    exact kZ
  obtain ⟨T8, h8, X8, e8, W8, st8⟩ := putF X6 hx hZ hown (host := "") (Or.inl (wq hw 29 rfl)) Via.refl e6 c7_1 c7_0 (Or.inr ⟨(wq hw 10 rfl), rfl, hnm⟩) (wq hw 8 rfl) (ty := (.array .byte)) (by decide) rfl rfl (g := (mkF m 54 #[sR o0, sR o1, sI 0, sI 2, .val .null, sR b3_0] [(.ref b3_0), (.ref o0)])) rfl rfl (hb hby d3_54)
  have N8 := Fr.snoc X8 N6 ha3
  have c9_0 := c7_0.wr W8
  have c9_2 := Fw6.other W8 (Or.inr (slot_ne (Or.inr (wq hw 11 rfl)) (Or.inr (wq hw 10 rfl)) (by decide) (t := .byte) (t' := (.array .byte)) (by decide) (by decide)))
  have c9_4 := c7_4.other W8 hne_o1_o0
  have c9_5 := c7_5.wr W8
  have c9_6 := c7_6.other W8 (Ne.symm ne_o0_b3_0)
  have K8 : Keep h0 h8 [o0] := K6.wr W8 (Or.inl (by simp))
  have Z8 : n0 ≤ h8.size := Nat.le_trans Z6 (Keep.of_wr W8).1
  have Fw8 := c7_1.same W8
  refine Go.via st8 ?_
  refine Go.retV X8 hx Bd.notSynchronized Bd.returns (hb hby d3_57) (by decide) (by decide) ?_
  rw [e8]
  exact ⟨b3_0, rfl, N8, K8, sz_b3_0, c9_0, Fw8, c9_2, c9_4, c9_5, c9_6⟩
def Q2n2 (Z : State) (o0 : Addr) (o1 : Addr) (cF : Nat → Int32) (cs : Int32) (h0 : Heap) (n0 : Nat) (v : Option Value) (h : Heap) (L : List Loc) : Prop := ∃ b1_0 : Addr, v = none ∧ Fr n0 L ∧ Keep h0 h [o0] ∧ h0.size ≤ b1_0 ∧ Exa Z h o0 "java/lang/String" ∧ Fld Z h o0 "java/lang/String" "value" "[B" (.ref b1_0) ∧ Fld Z h o0 "java/lang/String" "coder" "B" (.int 0) ∧ AV Z h o1 .char 2 (fun k => .int (cF k)) ∧ Sta Z h "java/lang/String" "COMPACT_STRINGS" "Z" (.int cs) ∧ AV Z h b1_0 .byte 2 (fun k => .int ((up (up (fun _ => (0 : Int32)) (0 : Int32).toNatClampNeg (nar .byte ((cF (0 : Int32).toNatClampNeg).toInt8.toInt32))) (1 : Int32).toNatClampNeg (nar .byte ((cF (1 : Int32).toNatClampNeg).toInt8.toInt32))) k))
abbrev RM_3_1_2_52 : Room := { frames := 3, cells := 1, slots := 2, locals := 52 }
theorem rm2n2 (l : Launch) (Z : State) (a0 : Array Value) (hw : ∀ d ∈ tables_1, d.before a0 Z = true) (ws : List Jvm.Cond) (o0 : Addr) (o1 : Addr) (cF : Nat → Int32) (cs : Int32) (h0 : Heap) (n0 : Nat) (Z0 : n0 ≤ h0.size) (ha0 : Exa Z h0 o0 "java/lang/String") (ha1 : Fld Z h0 o0 "java/lang/String" "value" "[B" .null) (ha2 : Fld Z h0 o0 "java/lang/String" "coder" "B" (.int 0)) (ha3 : n0 ≤ o0) (ha4 : AV Z h0 o1 .char 2 (fun k => .int (cF k))) (ha5 : Sta Z h0 "java/lang/String" "COMPACT_STRINGS" "Z" (.int cs)) (hne_o1_o0 : o1 ≠ o0) (hch0 : ¬ (255 : Int32) < (cF (0 : Int32).toNatClampNeg)) (hch1 : ¬ (255 : Int32) < (cF (1 : Int32).toNatClampNeg)) (hcs : ¬ cs = 0) :
    MetFree l y2 (head1 (Jvm.Cond.code y2 jdk_42_method_3_code 2 none :: ws) RM_3_1_2_52) (fun a U => a = #[(.ref o0), (.ref o1)] ∧ Z.Warmed39 U.vm ∧ U.heap = h0) (fun _ _ _ _ _ => True) (fun _ U o U' => ∃ v L, o = .returned v ∧ Q2n2 Z o0 o1 cF cs h0 n0 v U'.heap L ∧ FrameEnd U o U' L RM_3_1_2_52.cells RM_3_1_2_52.slots) := by
  refine MetFree.of_bodySF (plainFor_of_name pn_0) hisR ?_
  intro p e s m args below meth c s₁ Bd hml0 hP hK
  obtain ⟨rfl, hZ, hh⟩ := hP
  have hx := Bd.exec
  have hby := Bd.bytes
  have hml : c.maxLocals = 2 := hml0
  have hown : s.vm.findClass "java/lang/String" = some m.cls := findClass_of_methodNamed Bd.named
  have X0 : Stand p l e RM_3_1_2_52 s m _ below meth c s₁ [] 0 0 := Stand.of_body Bd
  have e0 : s₁.heap = h0 := by rw [← hh, Bd.state]; rfl
  have N0 := Fr.nil n0
  refine Go.into (P := fun oo uu => ∃ v L, oo = .returned v ∧ Q2n2 Z o0 o1 cF cs h0 n0 v uu.heap L ∧ FrameEnd s oo uu L RM_3_1_2_52.cells RM_3_1_2_52.slots) (ef_2_aa m o0 o1) ?_
  show Go p e below _ (s₁.setTop (mkF m 0 #[sR o0, sR o1] []))
  refine Vi (s₁.setTop (mkF m 6 #[sR o0, sR o1] [.null, (.int 2), (.int 0), (.ref o1), (.ref o0)])) (fun tZ kZ => ?_) ?_
  · refine XS.aloadN X0.here hx rfl (hb hby d2_0) rfl rfl ?_
    refine XS.aloadN X0.here hx rfl (hb hby d2_1) rfl rfl ?_
    refine XS.iconst X0.here hx rfl (hb hby d2_2) ?_
    refine XS.aloadN X0.here hx rfl (hb hby d2_3) rfl rfl ?_
    refine AV.len ha4 X0 hx hZ e0 (hb hby d2_4) ?_
    refine XS.aconstNull X0.here hx rfl (hb hby d2_5) ?_
    exact kZ
  obtain ⟨_, _, ⟨T1, L1, k1, n1⟩, -, X1, ⟨Lc1, hQ1, l1, y1, z1⟩, st1⟩ := X0.specialBack hx (y := y3) rfl hown (mvT hZ (wq hw 21 rfl)) (mvT hZ (wq hw 22 rfl)) (mvT hZ (wq hw 24 rfl)) (by decide) (backOf (W := 0) (rm3n2 l Z a0 hw [] o0 o1 cF cs h0 n0 Z0 ha0 ha1 ha2 ha3 ha4 ha5 hne_o1_o0 hch0 hch1 hcs) hZ (wq hw 24 rfl) (wq hw 7 rfl) (by decide) (by decide)) (g := (mkF m 6 #[sR o0, sR o1] [.null, (.int 2), (.int 0), (.ref o1), (.ref o0)])) rfl (by rw [hml]; rfl) (Steps.refl _) (a := o0) (argsL := [(.ref o1), (.int 0), (.int 2), .null]) (rest := []) (lenOf pd_2 rfl) rfl (leW rfl) (hb hby d2_6) (fun _ _ => ⟨rfl, e0, (by decide : 0 + 1 ≤ _), (by decide : 0 + 2 ≤ _)⟩)
  dsimp only [Pt.U, Pt.locs, Pt.cells, Pt.slots] at X1 l1 y1 z1 st1 hQ1
  subst l1 y1 z1
  obtain ⟨b1_0, rfl, N1q, Kq1, hz_b1_0, f1_0, f1_1, f1_2, f1_3, f1_4, f1_5⟩ := hQ1
  have g_b1_0 : n0 ≤ b1_0 := Nat.le_trans Z0 hz_b1_0
  have sz_b1_0 : h0.size ≤ b1_0 := Nat.le_trans ((Keep.refl h0 [o0])).1 hz_b1_0
  have ne_o0_b1_0 : o0 ≠ b1_0 := Nat.ne_of_lt (Nat.lt_of_lt_of_le ha0.lt hz_b1_0)
  have ne_o1_b1_0 : o1 ≠ b1_0 := Nat.ne_of_lt (Nat.lt_of_lt_of_le ha4.lt hz_b1_0)
  have K1 : Keep h0 T1.heap [o0] := (Keep.refl h0 [o0]).trans Kq1 (allS (Or.inl (by simp)) all0)
  have Z1 : n0 ≤ T1.heap.size := Nat.le_trans Z0 Kq1.1
  have N1 := Fr.app N0 N1q
  refine Go.via (fun t k => st1.trans k) ?_
  refine Go.retV X1 hx Bd.notSynchronized Bd.returns (hb hby d2_9) (by decide) (by decide) ?_
  exact ⟨b1_0, rfl, N1, K1, sz_b1_0, f1_0, f1_1, f1_2, f1_3, f1_4, f1_5⟩
def Q23n3 (Z : State) (o0 : Addr) (o2 : Addr) (cF : Nat → Int32) (bF : Nat → Int32) (h0 : Heap) (n0 : Nat) (v : Option Value) (h : Heap) (L : List Loc) : Prop := v = some (.int 3) ∧ Fr n0 L ∧ Keep h0 h [o2] ∧ AV Z h o0 .char 3 (fun k => .int (cF k)) ∧ AV Z h o2 .byte 3 (fun k => .int ((up (up (up bF (0 : Int32).toNatClampNeg (nar .byte ((cF (0 : Int32).toNatClampNeg).toInt8.toInt32))) (1 : Int32).toNatClampNeg (nar .byte ((cF (1 : Int32).toNatClampNeg).toInt8.toInt32))) (2 : Int32).toNatClampNeg (nar .byte ((cF (2 : Int32).toNatClampNeg).toInt8.toInt32))) k))
theorem rm23n3 (l : Launch) (Z : State) (a0 : Array Value) (hw : ∀ d ∈ tables_1, d.before a0 Z = true) (ws : List Jvm.Cond) (o0 : Addr) (o2 : Addr) (cF : Nat → Int32) (bF : Nat → Int32) (h0 : Heap) (n0 : Nat) (Z0 : n0 ≤ h0.size) (ha0 : AV Z h0 o0 .char 3 (fun k => .int (cF k))) (ha1 : AV Z h0 o2 .byte 3 (fun k => .int (bF k))) (ha2 : n0 ≤ o2) (hne_o0_o2 : o0 ≠ o2) (hch0 : ¬ (255 : Int32) < (cF (0 : Int32).toNatClampNeg)) (hch1 : ¬ (255 : Int32) < (cF (1 : Int32).toNatClampNeg)) (hch2 : ¬ (255 : Int32) < (cF (2 : Int32).toNatClampNeg)) :
    MetFree l y23 (head1 (Jvm.Cond.code y23 jdk_52_method_21_code 7 (some .int) :: ws) RM_0_0_0_0) (fun a U => a = #[(.ref o0), (.int 0), (.ref o2), (.int 0), (.int 3)] ∧ Z.Warmed39 U.vm ∧ U.heap = h0) (fun _ _ _ _ _ => True) (fun _ U o U' => ∃ v L, o = .returned v ∧ Q23n3 Z o0 o2 cF bF h0 n0 v U'.heap L ∧ FrameEnd U o U' L RM_0_0_0_0.cells RM_0_0_0_0.slots) := by
  refine MetFree.of_bodySF (plainFor_of_name pn_7) hisR ?_
  intro p e s m args below meth c s₁ Bd hml0 hP hK
  obtain ⟨rfl, hZ, hh⟩ := hP
  have hx := Bd.exec
  have hby := Bd.bytes
  have hml : c.maxLocals = 7 := hml0
  have hown : s.vm.findClass "java/lang/StringUTF16" = some m.cls := findClass_of_methodNamed Bd.named
  have X0 : Stand p l e RM_0_0_0_0 s m _ below meth c s₁ [] 0 0 := Stand.of_body Bd
  have e0 : s₁.heap = h0 := by rw [← hh, Bd.state]; rfl
  have N0 := Fr.nil n0
  refine Go.into (P := fun oo uu => ∃ v L, oo = .returned v ∧ Q23n3 Z o0 o2 cF bF h0 n0 v uu.heap L ∧ FrameEnd s oo uu L RM_0_0_0_0.cells RM_0_0_0_0.slots) (ef_23_aaaaa m o0 (0 : Int32) o2 (0 : Int32) (3 : Int32)) ?_
  show Go p e below _ (s₁.setTop (mkF m 0 #[sR o0, sI 0, sR o2, sI 0, sI 3, .unset, .unset] []))
  refine Vi (s₁.setTop (mkF m 31 #[sR o0, sI 0, sR o2, sI 0, sI 3, sI 0, sI (cF (0 : Int32).toNatClampNeg)] [(.int ((cF (0 : Int32).toNatClampNeg).toInt8.toInt32)), (.int 0), (.ref o2)])) (fun tZ kZ => ?_) ?_
  · refine XS.iconst X0.here hx rfl (hb hby d23_0) ?_
    refine XS.istore X0.here hx rfl (hb hby d23_1) rfl (l' := #[sR o0, sI 0, sR o2, sI 0, sI 3, sI 0, .unset]) rfl ?_
    refine XS.iload X0.here hx rfl (hb hby d23_3) rfl ?_
    refine XS.iload X0.here hx rfl (hb hby d23_5) rfl ?_
    refine XS.icmpNo X0.here hx rfl (hb hby d23_7) rfl (tlt (by decide)).2.1 ?_
    refine XS.aloadN X0.here hx rfl (hb hby d23_10) rfl rfl ?_
    refine XS.iloadN X0.here hx rfl (hb hby d23_11) rfl ?_
    refine AV.caload ha0 X0 hx hZ e0 (j := (0 : Int32)) (by decide) (hb hby d23_12) ?_
    refine XS.istore X0.here hx rfl (hb hby d23_13) rfl (l' := #[sR o0, sI 0, sR o2, sI 0, sI 3, sI 0, sI (cF (0 : Int32).toNatClampNeg)]) rfl ?_
    refine XS.iload X0.here hx rfl (hb hby d23_15) rfl ?_
    refine XS.sipush X0.here hx rfl (hb hby d23_17) ?_
    refine XS.icmpYes X0.here hx rfl (pc0 := 20) (pc' := 26) rfl (hb hby d23_20) rfl (flt hch0).2.2.2 (by decide) (by decide) ?_
    refine XS.aloadN X0.here hx rfl (hb hby d23_26) rfl rfl ?_
    refine XS.iloadN X0.here hx rfl (hb hby d23_27) rfl ?_
    refine XS.iload X0.here hx rfl (hb hby d23_28) rfl ?_
    refine XS.i2b X0.here hx rfl (hb hby d23_30) rfl ?_
    exact kZ
  obtain ⟨T1, h1, X1, e1, W1, V1, st1⟩ := AV.bastoreB ha1 X0 hx hZ e0 (j := (0 : Int32)) (by decide) (Ls := #[sR o0, sI 0, sR o2, sI 0, sI 3, sI 0, sI (cF (0 : Int32).toNatClampNeg)]) (rest := []) (hb hby d23_31) (x := ((cF (0 : Int32).toNatClampNeg).toInt8.toInt32))
  have N1 := Fr.snoc X1 N0 ha2
  have c2_0 := ha0.other W1 hne_o0_o2
  have K1 : Keep h0 h1 [o2] := (Keep.refl h0 [o2]).wr W1 (Or.inl (by simp))
  have Z1 : n0 ≤ h1.size := Nat.le_trans Z0 (Keep.of_wr W1).1
  refine Go.via st1 ?_
  refine Vi (T1.setTop (mkF m 31 #[sR o0, sI 1, sR o2, sI 1, sI 3, sI 1, sI (cF (1 : Int32).toNatClampNeg)] [(.int ((cF (1 : Int32).toNatClampNeg).toInt8.toInt32)), (.int 1), (.ref o2)])) (fun tZ kZ => ?_) ?_
  · refine XS.iinc X1.here hx rfl (hb hby d23_32) rfl (l' := #[sR o0, sI 1, sR o2, sI 0, sI 3, sI 0, sI (cF (0 : Int32).toNatClampNeg)]) rfl ?_
    refine XS.iinc X1.here hx rfl (hb hby d23_35) rfl (l' := #[sR o0, sI 1, sR o2, sI 1, sI 3, sI 0, sI (cF (0 : Int32).toNatClampNeg)]) rfl ?_
    refine XS.iinc X1.here hx rfl (hb hby d23_38) rfl (l' := #[sR o0, sI 1, sR o2, sI 1, sI 3, sI 1, sI (cF (0 : Int32).toNatClampNeg)]) rfl ?_
    refine XS.goto X1.here hx rfl (pc0 := 41) (pc' := 3) rfl (hb hby d23_41) (by decide) (by decide) ?_
    refine XS.iload X1.here hx rfl (hb hby d23_3) rfl ?_
    refine XS.iload X1.here hx rfl (hb hby d23_5) rfl ?_
    refine XS.icmpNo X1.here hx rfl (hb hby d23_7) rfl (tlt (by decide)).2.1 ?_
    refine XS.aloadN X1.here hx rfl (hb hby d23_10) rfl rfl ?_
    refine XS.iloadN X1.here hx rfl (hb hby d23_11) rfl ?_
    refine AV.caload c2_0 X1 hx hZ e1 (j := (1 : Int32)) (by decide) (hb hby d23_12) ?_
    refine XS.istore X1.here hx rfl (hb hby d23_13) rfl (l' := #[sR o0, sI 1, sR o2, sI 1, sI 3, sI 1, sI (cF (1 : Int32).toNatClampNeg)]) rfl ?_
    refine XS.iload X1.here hx rfl (hb hby d23_15) rfl ?_
    refine XS.sipush X1.here hx rfl (hb hby d23_17) ?_
    refine XS.icmpYes X1.here hx rfl (pc0 := 20) (pc' := 26) rfl (hb hby d23_20) rfl (flt hch1).2.2.2 (by decide) (by decide) ?_
    refine XS.aloadN X1.here hx rfl (hb hby d23_26) rfl rfl ?_
    refine XS.iloadN X1.here hx rfl (hb hby d23_27) rfl ?_
    refine XS.iload X1.here hx rfl (hb hby d23_28) rfl ?_
    refine XS.i2b X1.here hx rfl (hb hby d23_30) rfl ?_
    exact kZ
  obtain ⟨T3, h3, X3, e3, W3, V3, st3⟩ := AV.bastoreB V1 X1 hx hZ e1 (j := (1 : Int32)) (by decide) (Ls := #[sR o0, sI 1, sR o2, sI 1, sI 3, sI 1, sI (cF (1 : Int32).toNatClampNeg)]) (rest := []) (hb hby d23_31) (x := ((cF (1 : Int32).toNatClampNeg).toInt8.toInt32))
  have N3 := Fr.snoc X3 N1 ha2
  have c4_0 := c2_0.other W3 hne_o0_o2
  have K3 : Keep h0 h3 [o2] := K1.wr W3 (Or.inl (by simp))
  have Z3 : n0 ≤ h3.size := Nat.le_trans Z1 (Keep.of_wr W3).1
  refine Go.via st3 ?_
  refine Vi (T3.setTop (mkF m 31 #[sR o0, sI 2, sR o2, sI 2, sI 3, sI 2, sI (cF (2 : Int32).toNatClampNeg)] [(.int ((cF (2 : Int32).toNatClampNeg).toInt8.toInt32)), (.int 2), (.ref o2)])) (fun tZ kZ => ?_) ?_
  · refine XS.iinc X3.here hx rfl (hb hby d23_32) rfl (l' := #[sR o0, sI 2, sR o2, sI 1, sI 3, sI 1, sI (cF (1 : Int32).toNatClampNeg)]) rfl ?_
    refine XS.iinc X3.here hx rfl (hb hby d23_35) rfl (l' := #[sR o0, sI 2, sR o2, sI 2, sI 3, sI 1, sI (cF (1 : Int32).toNatClampNeg)]) rfl ?_
    refine XS.iinc X3.here hx rfl (hb hby d23_38) rfl (l' := #[sR o0, sI 2, sR o2, sI 2, sI 3, sI 2, sI (cF (1 : Int32).toNatClampNeg)]) rfl ?_
    refine XS.goto X3.here hx rfl (pc0 := 41) (pc' := 3) rfl (hb hby d23_41) (by decide) (by decide) ?_
    refine XS.iload X3.here hx rfl (hb hby d23_3) rfl ?_
    refine XS.iload X3.here hx rfl (hb hby d23_5) rfl ?_
    refine XS.icmpNo X3.here hx rfl (hb hby d23_7) rfl (tlt (by decide)).2.1 ?_
    refine XS.aloadN X3.here hx rfl (hb hby d23_10) rfl rfl ?_
    refine XS.iloadN X3.here hx rfl (hb hby d23_11) rfl ?_
    refine AV.caload c4_0 X3 hx hZ e3 (j := (2 : Int32)) (by decide) (hb hby d23_12) ?_
    refine XS.istore X3.here hx rfl (hb hby d23_13) rfl (l' := #[sR o0, sI 2, sR o2, sI 2, sI 3, sI 2, sI (cF (2 : Int32).toNatClampNeg)]) rfl ?_
    refine XS.iload X3.here hx rfl (hb hby d23_15) rfl ?_
    refine XS.sipush X3.here hx rfl (hb hby d23_17) ?_
    refine XS.icmpYes X3.here hx rfl (pc0 := 20) (pc' := 26) rfl (hb hby d23_20) rfl (flt hch2).2.2.2 (by decide) (by decide) ?_
    refine XS.aloadN X3.here hx rfl (hb hby d23_26) rfl rfl ?_
    refine XS.iloadN X3.here hx rfl (hb hby d23_27) rfl ?_
    refine XS.iload X3.here hx rfl (hb hby d23_28) rfl ?_
    refine XS.i2b X3.here hx rfl (hb hby d23_30) rfl ?_
    exact kZ
  obtain ⟨T5, h5, X5, e5, W5, V5, st5⟩ := AV.bastoreB V3 X3 hx hZ e3 (j := (2 : Int32)) (by decide) (Ls := #[sR o0, sI 2, sR o2, sI 2, sI 3, sI 2, sI (cF (2 : Int32).toNatClampNeg)]) (rest := []) (hb hby d23_31) (x := ((cF (2 : Int32).toNatClampNeg).toInt8.toInt32))
  have N5 := Fr.snoc X5 N3 ha2
  have c6_0 := c4_0.other W5 hne_o0_o2
  have K5 : Keep h0 h5 [o2] := K3.wr W5 (Or.inl (by simp))
  have Z5 : n0 ≤ h5.size := Nat.le_trans Z3 (Keep.of_wr W5).1
  refine Go.via st5 ?_
  refine Vi (T5.setTop (mkF m 46 #[sR o0, sI 3, sR o2, sI 3, sI 3, sI 3, sI (cF (2 : Int32).toNatClampNeg)] [(.int 3)])) (fun tZ kZ => ?_) ?_
  · refine XS.iinc X5.here hx rfl (hb hby d23_32) rfl (l' := #[sR o0, sI 3, sR o2, sI 2, sI 3, sI 2, sI (cF (2 : Int32).toNatClampNeg)]) rfl ?_
    refine XS.iinc X5.here hx rfl (hb hby d23_35) rfl (l' := #[sR o0, sI 3, sR o2, sI 3, sI 3, sI 2, sI (cF (2 : Int32).toNatClampNeg)]) rfl ?_
    refine XS.iinc X5.here hx rfl (hb hby d23_38) rfl (l' := #[sR o0, sI 3, sR o2, sI 3, sI 3, sI 3, sI (cF (2 : Int32).toNatClampNeg)]) rfl ?_
    refine XS.goto X5.here hx rfl (pc0 := 41) (pc' := 3) rfl (hb hby d23_41) (by decide) (by decide) ?_
    refine XS.iload X5.here hx rfl (hb hby d23_3) rfl ?_
    refine XS.iload X5.here hx rfl (hb hby d23_5) rfl ?_
    refine XS.icmpYes X5.here hx rfl (pc0 := 7) (pc' := 44) rfl (hb hby d23_7) rfl (flt (by decide)).2.1 (by decide) (by decide) ?_
    refine XS.iload X5.here hx rfl (hb hby d23_44) rfl ?_
    exact kZ
  refine Go.retI X5 hx Bd.notSynchronized Bd.returns (hb hby d23_46) (by decide) (by decide) ?_
  rw [e5]
  exact ⟨rfl, N5, K5, c6_0, V5⟩
def Q22n3 (Z : State) (o0 : Addr) (cF : Nat → Int32) (h0 : Heap) (n0 : Nat) (v : Option Value) (h : Heap) (L : List Loc) : Prop := ∃ b1 : Addr, v = some (.ref b1) ∧ Fr n0 L ∧ Keep h0 h [] ∧ h0.size ≤ b1 ∧ AV Z h o0 .char 3 (fun k => .int (cF k)) ∧ AV Z h b1 .byte 3 (fun k => .int ((up (up (up (fun _ => (0 : Int32)) (0 : Int32).toNatClampNeg (nar .byte ((cF (0 : Int32).toNatClampNeg).toInt8.toInt32))) (1 : Int32).toNatClampNeg (nar .byte ((cF (1 : Int32).toNatClampNeg).toInt8.toInt32))) (2 : Int32).toNatClampNeg (nar .byte ((cF (2 : Int32).toNatClampNeg).toInt8.toInt32))) k))
abbrev RM_1_1_3_18 : Room := { frames := 1, cells := 1, slots := 3, locals := 18 }
theorem rm22n3 (l : Launch) (Z : State) (a0 : Array Value) (hw : ∀ d ∈ tables_1, d.before a0 Z = true) (ws : List Jvm.Cond) (o0 : Addr) (cF : Nat → Int32) (h0 : Heap) (n0 : Nat) (Z0 : n0 ≤ h0.size) (ha0 : AV Z h0 o0 .char 3 (fun k => .int (cF k))) (hch0 : ¬ (255 : Int32) < (cF (0 : Int32).toNatClampNeg)) (hch1 : ¬ (255 : Int32) < (cF (1 : Int32).toNatClampNeg)) (hch2 : ¬ (255 : Int32) < (cF (2 : Int32).toNatClampNeg)) :
    MetFree l y22 (head1 (Jvm.Cond.code y22 jdk_52_method_16_code 6 (some (.array .byte)) :: ws) RM_1_1_3_18) (fun a U => a = #[(.ref o0), (.int 0), (.int 3)] ∧ Z.Warmed39 U.vm ∧ U.heap = h0) (fun _ _ _ _ _ => True) (fun _ U o U' => ∃ v L, o = .returned v ∧ Q22n3 Z o0 cF h0 n0 v U'.heap L ∧ FrameEnd U o U' L RM_1_1_3_18.cells RM_1_1_3_18.slots) := by
  refine MetFree.of_bodySF (plainFor_of_name pn_7) hisR ?_
  intro p e s m args below meth c s₁ Bd hml0 hP hK
  obtain ⟨rfl, hZ, hh⟩ := hP
  have hx := Bd.exec
  have hby := Bd.bytes
  have hml : c.maxLocals = 6 := hml0
  have hown : s.vm.findClass "java/lang/StringUTF16" = some m.cls := findClass_of_methodNamed Bd.named
  have X0 : Stand p l e RM_1_1_3_18 s m _ below meth c s₁ [] 0 0 := Stand.of_body Bd
  have e0 : s₁.heap = h0 := by rw [← hh, Bd.state]; rfl
  have N0 := Fr.nil n0
  refine Go.into (P := fun oo uu => ∃ v L, oo = .returned v ∧ Q22n3 Z o0 cF h0 n0 v uu.heap L ∧ FrameEnd s oo uu L RM_1_1_3_18.cells RM_1_1_3_18.slots) (ef_22_aaa m o0 (0 : Int32) (3 : Int32)) ?_
  show Go p e below _ (s₁.setTop (mkF m 0 #[sR o0, sI 0, sI 3, .unset, .unset, .unset] []))
  refine Vi (s₁.setTop (mkF m 1 #[sR o0, sI 0, sI 3, .unset, .unset, .unset] [(.int 3)])) (fun tZ kZ => ?_) ?_
  · refine XS.iloadN X0.here hx rfl (hb hby d22_0) rfl ?_
    exact kZ
  obtain ⟨T1, h1, k1, X1, e1, E1, A1, B1, st1⟩ := newPE X0 hx hZ (wq hw 9 rfl) e0 (g := (mkF m 1 #[sR o0, sI 0, sI 3, .unset, .unset, .unset] [(.int 3)])) rfl (hb hby d22_1) rfl (by decide) (cap := 3) (by decide) (by decide) (by decide) (by decide) (ad := "[B") rfl
  obtain ⟨b1, g1⟩ : ∃ z, z = h0.size := ⟨_, rfl⟩
  rw [← g1] at A1 B1 st1
  have g_b1 : n0 ≤ b1 := Nat.le_trans Z0 (Nat.le_of_eq g1.symm)
  have sz_b1 : h0.size ≤ b1 := Nat.le_trans ((Keep.refl h0 [])).1 (Nat.le_of_eq g1.symm)
  have ne_o0_b1 : o0 ≠ b1 := Nat.ne_of_lt (Nat.lt_of_lt_of_le ha0.lt (Nat.le_of_eq g1.symm))
  have c2_0 := ha0.ext E1
  have K1 : Keep h0 h1 [] := (Keep.refl h0 []).ext E1
  have Z1 : n0 ≤ h1.size := Nat.le_trans Z0 E1.1
  have V1 : AV Z h1 b1 .byte 3 (fun k => .int ((fun _ => (0 : Int32)) k)) := by have q := AV.new A1; exact q
  refine Go.via st1 ?_
  refine Vi (T1.setTop (mkF m 9 #[sR o0, sI 0, sI 3, sR b1, .unset, .unset] [(.int 3), (.int 0), (.ref b1), (.int 0), (.ref o0)])) (fun tZ kZ => ?_) ?_
  · refine XS.astoreN X1.here hx rfl (hb hby d22_3) rfl rfl (l' := #[sR o0, sI 0, sI 3, sR b1, .unset, .unset]) rfl ?_
    refine XS.aloadN X1.here hx rfl (hb hby d22_4) rfl rfl ?_
    refine XS.iloadN X1.here hx rfl (hb hby d22_5) rfl ?_
    refine XS.aloadN X1.here hx rfl (hb hby d22_6) rfl rfl ?_
    refine XS.iconst X1.here hx rfl (hb hby d22_7) ?_
    refine XS.iloadN X1.here hx rfl (hb hby d22_8) rfl ?_
    exact kZ
  obtain ⟨_, _, ⟨T3, L3, k3, n3⟩, -, X3, ⟨Lc3, hQ3, l3, y3, z3⟩, st3⟩ := Jvm.LawKit.callS X1 hx (y := y23) hown (mvT hZ (wq hw 119 rfl)) (mvT hZ (wq hw 120 rfl)) (mvT hZ (wq hw 117 rfl)) (mvT hZ (wq hw 121 rfl)) (by decide) (backOf (W := 0) (rm23n3 l Z a0 hw [] o0 b1 cF (fun _ => (0 : Int32)) h1 n0 Z1 c2_0 V1 g_b1 ne_o0_b1 hch0 hch1 hch2) hZ (wq hw 121 rfl) (wq hw 117 rfl) (by decide) (by decide)) (g := (mkF m 9 #[sR o0, sI 0, sI 3, sR b1, .unset, .unset] [(.int 3), (.int 0), (.ref b1), (.int 0), (.ref o0)])) rfl (by rw [hml]; rfl) (argsL := [(.ref o0), (.int 0), (.ref b1), (.int 0), (.int 3)]) (rest := []) (lenOf pd_20 rfl) rfl (leW rfl) (hb hby d22_9) (fun _ _ => ⟨rfl, e1, (by decide : 0 + 1 + 0 ≤ _), (by decide : 0 + 3 + 0 ≤ _)⟩)
  dsimp only [Pt.U, Pt.locs, Pt.cells, Pt.slots] at X3 l3 y3 z3 st3 hQ3
  subst l3 y3 z3
  obtain ⟨rfl, N3q, Kq3, f3_0, f3_1⟩ := hQ3
  have K3 : Keep h0 T3.heap [] := K1.trans Kq3 (allS (Or.inr sz_b1) all0)
  have Z3 : n0 ≤ T3.heap.size := Nat.le_trans Z1 Kq3.1
  have N3 := Fr.app N0 N3q
  refine Go.via st3 ?_
  refine Vi (T3.setTop (mkF m 58 #[sR o0, sI 0, sI 3, sR b1, sI 3, .unset] [(.ref b1)])) (fun tZ kZ => ?_) ?_
  · refine XS.istore X3.here hx rfl (hb hby d22_12) rfl (l' := #[sR o0, sI 0, sI 3, sR b1, sI 3, .unset]) rfl ?_
    refine XS.iload X3.here hx rfl (hb hby d22_14) rfl ?_
    refine XS.iloadN X3.here hx rfl (hb hby d22_16) rfl ?_
    refine XS.icmpYes X3.here hx rfl (pc0 := 17) (pc' := 57) rfl (hb hby d22_17) rfl (teq (by decide)).1 (by decide) (by decide) ?_
    refine XS.aloadN X3.here hx rfl (hb hby d22_57) rfl rfl ?_
    exact kZ
  refine Go.retR X3 hx Bd.notSynchronized Bd.returns rfl rfl (hb hby d22_58) (by decide) (by decide) ?_
  exact ⟨b1, rfl, N3, K3, sz_b1, f3_0, f3_1⟩
def f24n3 (o0 : Addr) (bF : Nat → Int32) : Int32 := (nar .byte ((((0 : Int32).toUInt32 >>> ((31 : Int32) &&& 31).toUInt32).toInt32).toInt8.toInt32))
def Q24n3 (o0 : Addr) (bF : Nat → Int32) (h0 : Heap) (n0 : Nat) (v : Option Value) (h : Heap) (L : List Loc) : Prop := v = some (.int (f24n3 o0 bF)) ∧ Fr n0 L ∧ h = h0
theorem rm24n3 (l : Launch) (Z : State) (a0 : Array Value) (hw : ∀ d ∈ tables_1, d.before a0 Z = true) (ws : List Jvm.Cond) (o0 : Addr) (bF : Nat → Int32) (h0 : Heap) (n0 : Nat) (Z0 : n0 ≤ h0.size) (ha0 : AV Z h0 o0 .byte 3 (fun k => .int (bF k))) :
    MetFree l y24 (head1 (Jvm.Cond.code y24 jdk_52_method_15_code 2 (some .byte) :: ws) RM_0_0_0_0) (fun a U => a = #[(.ref o0), (.int 3)] ∧ Z.Warmed39 U.vm ∧ U.heap = h0) (fun _ _ _ _ _ => True) (fun _ U o U' => ∃ v L, o = .returned v ∧ Q24n3 o0 bF h0 n0 v U'.heap L ∧ FrameEnd U o U' L RM_0_0_0_0.cells RM_0_0_0_0.slots) := by
  refine MetFree.of_bodySF (plainFor_of_name pn_7) hisR ?_
  intro p e s m args below meth c s₁ Bd hml0 hP hK
  obtain ⟨rfl, hZ, hh⟩ := hP
  have hx := Bd.exec
  have hby := Bd.bytes
  have hml : c.maxLocals = 2 := hml0
  have hown : s.vm.findClass "java/lang/StringUTF16" = some m.cls := findClass_of_methodNamed Bd.named
  have X0 : Stand p l e RM_0_0_0_0 s m _ below meth c s₁ [] 0 0 := Stand.of_body Bd
  have e0 : s₁.heap = h0 := by rw [← hh, Bd.state]; rfl
  have N0 := Fr.nil n0
  refine Go.into (P := fun oo uu => ∃ v L, oo = .returned v ∧ Q24n3 o0 bF h0 n0 v uu.heap L ∧ FrameEnd s oo uu L RM_0_0_0_0.cells RM_0_0_0_0.slots) (ef_24_aa m o0 (3 : Int32)) ?_
  show Go p e below _ (s₁.setTop (mkF m 0 #[sR o0, sI 3] []))
  refine Vi (s₁.setTop (mkF m 8 #[sR o0, sI 3] [(.int ((((0 : Int32).toUInt32 >>> ((31 : Int32) &&& 31).toUInt32).toInt32).toInt8.toInt32))])) (fun tZ kZ => ?_) ?_
  · refine XS.iloadN X0.here hx rfl (hb hby d24_0) rfl ?_
    refine XS.aloadN X0.here hx rfl (hb hby d24_1) rfl rfl ?_
    refine AV.len ha0 X0 hx hZ e0 (hb hby d24_2) ?_
    refine XS.isub X0.here hx rfl (hb hby d24_3) rfl ?_
    refine XS.bipush X0.here hx rfl (hb hby d24_4) ?_
    refine XS.iushr X0.here hx rfl (hb hby d24_6) rfl ?_
    refine XS.i2b X0.here hx rfl (hb hby d24_7) rfl ?_
    exact kZ
  refine Go.retN X0 hx Bd.notSynchronized (t := .byte) Bd.returns (by simp) (hb hby d24_8) (by decide) (by decide) ?_
  refine ⟨?_, N0, e0⟩
  show some ((Value.int (nar .byte ((((0 : Int32).toUInt32 >>> ((31 : Int32) &&& 31).toUInt32).toInt32).toInt8.toInt32))) : Value) = some (.int (f24n3 o0 bF))
  rfl
def Q3n3 (Z : State) (o0 : Addr) (o1 : Addr) (cF : Nat → Int32) (cs : Int32) (h0 : Heap) (n0 : Nat) (v : Option Value) (h : Heap) (L : List Loc) : Prop := ∃ b3_0 : Addr, v = none ∧ Fr n0 L ∧ Keep h0 h [o0] ∧ h0.size ≤ b3_0 ∧ Exa Z h o0 "java/lang/String" ∧ Fld Z h o0 "java/lang/String" "value" "[B" (.ref b3_0) ∧ Fld Z h o0 "java/lang/String" "coder" "B" (.int 0) ∧ AV Z h o1 .char 3 (fun k => .int (cF k)) ∧ Sta Z h "java/lang/String" "COMPACT_STRINGS" "Z" (.int cs) ∧ AV Z h b3_0 .byte 3 (fun k => .int ((up (up (up (fun _ => (0 : Int32)) (0 : Int32).toNatClampNeg (nar .byte ((cF (0 : Int32).toNatClampNeg).toInt8.toInt32))) (1 : Int32).toNatClampNeg (nar .byte ((cF (1 : Int32).toNatClampNeg).toInt8.toInt32))) (2 : Int32).toNatClampNeg (nar .byte ((cF (2 : Int32).toNatClampNeg).toInt8.toInt32))) k))
abbrev RM_2_1_3_35 : Room := { frames := 2, cells := 1, slots := 3, locals := 35 }
theorem rm3n3 (l : Launch) (Z : State) (a0 : Array Value) (hw : ∀ d ∈ tables_1, d.before a0 Z = true) (ws : List Jvm.Cond) (o0 : Addr) (o1 : Addr) (cF : Nat → Int32) (cs : Int32) (h0 : Heap) (n0 : Nat) (Z0 : n0 ≤ h0.size) (ha0 : Exa Z h0 o0 "java/lang/String") (ha1 : Fld Z h0 o0 "java/lang/String" "value" "[B" .null) (ha2 : Fld Z h0 o0 "java/lang/String" "coder" "B" (.int 0)) (ha3 : n0 ≤ o0) (ha4 : AV Z h0 o1 .char 3 (fun k => .int (cF k))) (ha5 : Sta Z h0 "java/lang/String" "COMPACT_STRINGS" "Z" (.int cs)) (hne_o1_o0 : o1 ≠ o0) (hch0 : ¬ (255 : Int32) < (cF (0 : Int32).toNatClampNeg)) (hch1 : ¬ (255 : Int32) < (cF (1 : Int32).toNatClampNeg)) (hch2 : ¬ (255 : Int32) < (cF (2 : Int32).toNatClampNeg)) (hcs : ¬ cs = 0) :
    MetFree l y3 (head1 (Jvm.Cond.code y3 jdk_42_method_149_code 6 none :: ws) RM_2_1_3_35) (fun a U => a = #[(.ref o0), (.ref o1), (.int 0), (.int 3), .null] ∧ Z.Warmed39 U.vm ∧ U.heap = h0) (fun _ _ _ _ _ => True) (fun _ U o U' => ∃ v L, o = .returned v ∧ Q3n3 Z o0 o1 cF cs h0 n0 v U'.heap L ∧ FrameEnd U o U' L RM_2_1_3_35.cells RM_2_1_3_35.slots) := by
  refine MetFree.of_bodySF (plainFor_of_name pn_0) hisR ?_
  intro p e s m args below meth c s₁ Bd hml0 hP hK
  obtain ⟨rfl, hZ, hh⟩ := hP
  have hx := Bd.exec
  have hby := Bd.bytes
  have hml : c.maxLocals = 6 := hml0
  have hown : s.vm.findClass "java/lang/String" = some m.cls := findClass_of_methodNamed Bd.named
  have hnm := (name_of_methodNamed Bd.named Bd.method).1
  have X0 : Stand p l e RM_2_1_3_35 s m _ below meth c s₁ [] 0 0 := Stand.of_body Bd
  have e0 : s₁.heap = h0 := by rw [← hh, Bd.state]; rfl
  have N0 := Fr.nil n0
  refine Go.into (P := fun oo uu => ∃ v L, oo = .returned v ∧ Q3n3 Z o0 o1 cF cs h0 n0 v uu.heap L ∧ FrameEnd s oo uu L RM_2_1_3_35.cells RM_2_1_3_35.slots) (ef_3_aaaan m o0 o1 (0 : Int32) (3 : Int32)) ?_
  show Go p e below _ (s₁.setTop (mkF m 0 #[sR o0, sR o1, sI 0, sI 3, .val .null, .unset] []))
  refine Vi (s₁.setTop (mkF m 1 #[sR o0, sR o1, sI 0, sI 3, .val .null, .unset] [(.ref o0)])) (fun tZ kZ => ?_) ?_
  · refine XS.aloadN X0.here hx rfl (hb hby d3_0) rfl rfl ?_
    exact kZ
  obtain ⟨T1, X1, e1, st1⟩ := initO X0 hx hZ hown (wq hw 25 rfl) (wq hw 26 rfl) (wq hw 27 rfl) e0 (g := (mkF m 1 #[sR o0, sR o1, sI 0, sI 3, .val .null, .unset] [(.ref o0)])) rfl (by rw [hml]; rfl) rfl (hb hby d3_1) (by decide) (W := 0) (by show 2 * 0 + _ ≤ _; exact Nat.le_of_eq rfl) (by decide)
  refine Go.via st1 ?_
  refine Vi (T1.setTop (mkF m 27 #[sR o0, sR o1, sI 0, sI 3, .val .null, .unset] [])) (fun tZ kZ => ?_) ?_
  · refine XS.iloadN X1.here hx rfl (hb hby d3_4) rfl ?_
    refine XS.ifYes X1.here hx rfl (pc0 := 5) (pc' := 27) rfl (hb hby d3_5) rfl ((if0 _ _).trans (feq (by decide)).2) (by decide) (by decide) ?_
    exact kZ
  obtain ⟨T2, X2, e2, st2⟩ := getS2 X1 hx hZ hown (host := "") (Or.inl (wq hw 74 rfl)) Via.refl e1 ha5 (g := (mkF m 27 #[sR o0, sR o1, sI 0, sI 3, .val .null, .unset] [])) rfl (hb hby d3_27)
  refine Go.via st2 ?_
  refine Vi (T2.setTop (mkF m 36 #[sR o0, sR o1, sI 0, sI 3, .val .null, .unset] [(.int 3), (.int 0), (.ref o1)])) (fun tZ kZ => ?_) ?_
  · refine XS.ifNo X2.here hx rfl (hb hby d3_30) rfl ((if0 _ _).trans (feq hcs).1) ?_
    refine XS.aloadN X2.here hx rfl (hb hby d3_33) rfl rfl ?_
    refine XS.iloadN X2.here hx rfl (hb hby d3_34) rfl ?_
    refine XS.iloadN X2.here hx rfl (hb hby d3_35) rfl ?_
    exact kZ
  obtain ⟨_, _, ⟨T3, L3, k3, n3⟩, -, X3, ⟨Lc3, hQ3, l3, y3, z3⟩, st3⟩ := Jvm.LawKit.callS X2 hx (y := y22) hown (mvT hZ (wq hw 115 rfl)) (mvT hZ (wq hw 116 rfl)) (mvT hZ (wq hw 117 rfl)) (mvT hZ (wq hw 118 rfl)) (by decide) (backOf (W := 0) (rm22n3 l Z a0 hw [] o1 cF h0 n0 Z0 ha4 hch0 hch1 hch2) hZ (wq hw 118 rfl) (wq hw 117 rfl) (by decide) (by decide)) (g := (mkF m 36 #[sR o0, sR o1, sI 0, sI 3, .val .null, .unset] [(.int 3), (.int 0), (.ref o1)])) rfl (by rw [hml]; rfl) (argsL := [(.ref o1), (.int 0), (.int 3)]) (rest := []) (lenOf pd_19 rfl) rfl (leW rfl) (hb hby d3_36) (fun _ _ => ⟨rfl, e2, (by decide : 0 + 1 ≤ _), (by decide : 0 + 3 ≤ _)⟩)
  dsimp only [Pt.U, Pt.locs, Pt.cells, Pt.slots] at X3 l3 y3 z3 st3 hQ3
  subst l3 y3 z3
  obtain ⟨b3_0, rfl, N3q, Kq3, hz_b3_0, f3_0, f3_1⟩ := hQ3
  have g_b3_0 : n0 ≤ b3_0 := Nat.le_trans Z0 hz_b3_0
  have sz_b3_0 : h0.size ≤ b3_0 := Nat.le_trans ((Keep.refl h0 [o0])).1 hz_b3_0
  have ne_o0_b3_0 : o0 ≠ b3_0 := Nat.ne_of_lt (Nat.lt_of_lt_of_le ha0.lt hz_b3_0)
  have ne_o1_b3_0 : o1 ≠ b3_0 := Nat.ne_of_lt (Nat.lt_of_lt_of_le ha4.lt hz_b3_0)
  have c4_0 := ha0.keep Kq3
  have c4_1 := ha1.keep Kq3 nin0
  have c4_2 := ha2.keep Kq3 nin0
  have c4_5 := own_sk ha5 Kq3 (fun _ _ _ _ => nin0)
  have K3 : Keep h0 T3.heap [o0] := (Keep.refl h0 [o0]).trans Kq3 all0
  have Z3 : n0 ≤ T3.heap.size := Nat.le_trans Z0 Kq3.1
  have N3 := Fr.app N0 N3q
  refine Go.via st3 ?_
  refine Vi (T3.setTop (mkF m 45 #[sR o0, sR o1, sI 0, sI 3, .val .null, sR b3_0] [(.int 3), (.ref b3_0), (.ref o0)])) (fun tZ kZ => ?_) ?_
  · refine XS.astore X3.here hx rfl (hb hby d3_39) rfl rfl (l' := #[sR o0, sR o1, sI 0, sI 3, .val .null, sR b3_0]) rfl ?_
    refine XS.aloadN X3.here hx rfl (hb hby d3_41) rfl rfl ?_
    refine XS.aload X3.here hx rfl (hb hby d3_42) rfl rfl ?_
    refine XS.iloadN X3.here hx rfl (hb hby d3_44) rfl ?_
    exact kZ
  obtain ⟨_, _, ⟨T5, L5, k5, n5⟩, -, X5, ⟨Lc5, hQ5, l5, y5, z5⟩, st5⟩ := Jvm.LawKit.callS X3 hx (y := y24) hown (mvT hZ (wq hw 122 rfl)) (mvT hZ (wq hw 123 rfl)) (mvT hZ (wq hw 117 rfl)) (mvT hZ (wq hw 124 rfl)) (by decide) (backOf (W := 1) (rm24n3 l Z a0 hw [] b3_0 (up (up (up (fun _ => (0 : Int32)) (0 : Int32).toNatClampNeg (nar .byte ((cF (0 : Int32).toNatClampNeg).toInt8.toInt32))) (1 : Int32).toNatClampNeg (nar .byte ((cF (1 : Int32).toNatClampNeg).toInt8.toInt32))) (2 : Int32).toNatClampNeg (nar .byte ((cF (2 : Int32).toNatClampNeg).toInt8.toInt32))) T3.heap n0 Z3 f3_1) hZ (wq hw 124 rfl) (wq hw 117 rfl) (by decide) (by decide)) (g := (mkF m 45 #[sR o0, sR o1, sI 0, sI 3, .val .null, sR b3_0] [(.int 3), (.ref b3_0), (.ref o0)])) rfl (by rw [hml]; rfl) (argsL := [(.ref b3_0), (.int 3)]) (rest := [(.ref o0)]) (lenOf pd_21 rfl) rfl (leW rfl) (hb hby d3_45) (fun _ _ => ⟨rfl, rfl, (by decide : 0 + 1 + 0 ≤ _), (by decide : 0 + 3 + 0 ≤ _)⟩)
  dsimp only [Pt.U, Pt.locs, Pt.cells, Pt.slots] at X5 l5 y5 z5 st5 hQ5
  subst l5 y5 z5
  obtain ⟨rfl, N5q, e5⟩ := hQ5
  have hv5 : (f24n3 b3_0 (up (up (up (fun _ => (0 : Int32)) (0 : Int32).toNatClampNeg (nar .byte ((cF (0 : Int32).toNatClampNeg).toInt8.toInt32))) (1 : Int32).toNatClampNeg (nar .byte ((cF (1 : Int32).toNatClampNeg).toInt8.toInt32))) (2 : Int32).toNatClampNeg (nar .byte ((cF (2 : Int32).toNatClampNeg).toInt8.toInt32)))) = (0 : Int32) := by unfold f24n3; decide
  rw [hv5] at st5
  have N5 := Fr.app N3 N5q
  refine Go.via st5 ?_
  obtain ⟨T6, h6, X6, e6, W6, st6⟩ := putFN X5 hx hZ hown (wq hw 30 rfl) Via.refl e5 c4_2 c4_0 (Or.inr ⟨(wq hw 11 rfl), rfl, hnm⟩) (wq hw 8 rfl) (ty := .byte) (v' := (.int (nar .byte (0 : Int32)))) (by decide) rfl (fits_nar_byte _) (g := (mkF m 48 #[sR o0, sR o1, sI 0, sI 3, .val .null, sR b3_0] [(.int 0), (.ref o0)])) rfl rfl (hb hby d3_48)
  have N6 := Fr.snoc X6 N5 ha3
  have c7_0 := c4_0.wr W6
  have c7_1 := c4_1.other W6 (Or.inr (slot_ne (Or.inr (wq hw 10 rfl)) (Or.inr (wq hw 11 rfl)) (by decide) (t := (.array .byte)) (t' := .byte) (by decide) (by decide)))
  have c7_4 := f3_0.other W6 hne_o1_o0
  have c7_5 := c4_5.wr W6
  have c7_6 := f3_1.other W6 (Ne.symm ne_o0_b3_0)
  have K6 : Keep h0 h6 [o0] := K3.wr W6 (Or.inl (by simp))
  have Z6 : n0 ≤ h6.size := Nat.le_trans Z3 (Keep.of_wr W6).1
  have Fw6 : Fld Z h6 o0 "java/lang/String" "coder" "B" (.int 0) := c4_2.same W6
  refine Go.via st6 ?_
  refine Vi (T6.setTop (mkF m 54 #[sR o0, sR o1, sI 0, sI 3, .val .null, sR b3_0] [(.ref b3_0), (.ref o0)])) (fun tZ kZ => ?_) ?_
  · refine XS.aloadN X6.here hx rfl (hb hby d3_51) rfl rfl ?_
    refine XS.aload X6.here hx rfl (hb hby d3_52) rfl rfl ?_
    exact kZ
  obtain ⟨T8, h8, X8, e8, W8, st8⟩ := putF X6 hx hZ hown (host := "") (Or.inl (wq hw 29 rfl)) Via.refl e6 c7_1 c7_0 (Or.inr ⟨(wq hw 10 rfl), rfl, hnm⟩) (wq hw 8 rfl) (ty := (.array .byte)) (by decide) rfl rfl (g := (mkF m 54 #[sR o0, sR o1, sI 0, sI 3, .val .null, sR b3_0] [(.ref b3_0), (.ref o0)])) rfl rfl (hb hby d3_54)
  have N8 := Fr.snoc X8 N6 ha3
  have c9_0 := c7_0.wr W8
  have c9_2 := Fw6.other W8 (Or.inr (slot_ne (Or.inr (wq hw 11 rfl)) (Or.inr (wq hw 10 rfl)) (by decide) (t := .byte) (t' := (.array .byte)) (by decide) (by decide)))
  have c9_4 := c7_4.other W8 hne_o1_o0
  have c9_5 := c7_5.wr W8
  have c9_6 := c7_6.other W8 (Ne.symm ne_o0_b3_0)
  have K8 : Keep h0 h8 [o0] := K6.wr W8 (Or.inl (by simp))
  have Z8 : n0 ≤ h8.size := Nat.le_trans Z6 (Keep.of_wr W8).1
  have Fw8 := c7_1.same W8
  refine Go.via st8 ?_
  refine Go.retV X8 hx Bd.notSynchronized Bd.returns (hb hby d3_57) (by decide) (by decide) ?_
  rw [e8]
  exact ⟨b3_0, rfl, N8, K8, sz_b3_0, c9_0, Fw8, c9_2, c9_4, c9_5, c9_6⟩
def Q2n3 (Z : State) (o0 : Addr) (o1 : Addr) (cF : Nat → Int32) (cs : Int32) (h0 : Heap) (n0 : Nat) (v : Option Value) (h : Heap) (L : List Loc) : Prop := ∃ b1_0 : Addr, v = none ∧ Fr n0 L ∧ Keep h0 h [o0] ∧ h0.size ≤ b1_0 ∧ Exa Z h o0 "java/lang/String" ∧ Fld Z h o0 "java/lang/String" "value" "[B" (.ref b1_0) ∧ Fld Z h o0 "java/lang/String" "coder" "B" (.int 0) ∧ AV Z h o1 .char 3 (fun k => .int (cF k)) ∧ Sta Z h "java/lang/String" "COMPACT_STRINGS" "Z" (.int cs) ∧ AV Z h b1_0 .byte 3 (fun k => .int ((up (up (up (fun _ => (0 : Int32)) (0 : Int32).toNatClampNeg (nar .byte ((cF (0 : Int32).toNatClampNeg).toInt8.toInt32))) (1 : Int32).toNatClampNeg (nar .byte ((cF (1 : Int32).toNatClampNeg).toInt8.toInt32))) (2 : Int32).toNatClampNeg (nar .byte ((cF (2 : Int32).toNatClampNeg).toInt8.toInt32))) k))
abbrev RM_3_1_3_52 : Room := { frames := 3, cells := 1, slots := 3, locals := 52 }
theorem rm2n3 (l : Launch) (Z : State) (a0 : Array Value) (hw : ∀ d ∈ tables_1, d.before a0 Z = true) (ws : List Jvm.Cond) (o0 : Addr) (o1 : Addr) (cF : Nat → Int32) (cs : Int32) (h0 : Heap) (n0 : Nat) (Z0 : n0 ≤ h0.size) (ha0 : Exa Z h0 o0 "java/lang/String") (ha1 : Fld Z h0 o0 "java/lang/String" "value" "[B" .null) (ha2 : Fld Z h0 o0 "java/lang/String" "coder" "B" (.int 0)) (ha3 : n0 ≤ o0) (ha4 : AV Z h0 o1 .char 3 (fun k => .int (cF k))) (ha5 : Sta Z h0 "java/lang/String" "COMPACT_STRINGS" "Z" (.int cs)) (hne_o1_o0 : o1 ≠ o0) (hch0 : ¬ (255 : Int32) < (cF (0 : Int32).toNatClampNeg)) (hch1 : ¬ (255 : Int32) < (cF (1 : Int32).toNatClampNeg)) (hch2 : ¬ (255 : Int32) < (cF (2 : Int32).toNatClampNeg)) (hcs : ¬ cs = 0) :
    MetFree l y2 (head1 (Jvm.Cond.code y2 jdk_42_method_3_code 2 none :: ws) RM_3_1_3_52) (fun a U => a = #[(.ref o0), (.ref o1)] ∧ Z.Warmed39 U.vm ∧ U.heap = h0) (fun _ _ _ _ _ => True) (fun _ U o U' => ∃ v L, o = .returned v ∧ Q2n3 Z o0 o1 cF cs h0 n0 v U'.heap L ∧ FrameEnd U o U' L RM_3_1_3_52.cells RM_3_1_3_52.slots) := by
  refine MetFree.of_bodySF (plainFor_of_name pn_0) hisR ?_
  intro p e s m args below meth c s₁ Bd hml0 hP hK
  obtain ⟨rfl, hZ, hh⟩ := hP
  have hx := Bd.exec
  have hby := Bd.bytes
  have hml : c.maxLocals = 2 := hml0
  have hown : s.vm.findClass "java/lang/String" = some m.cls := findClass_of_methodNamed Bd.named
  have X0 : Stand p l e RM_3_1_3_52 s m _ below meth c s₁ [] 0 0 := Stand.of_body Bd
  have e0 : s₁.heap = h0 := by rw [← hh, Bd.state]; rfl
  have N0 := Fr.nil n0
  refine Go.into (P := fun oo uu => ∃ v L, oo = .returned v ∧ Q2n3 Z o0 o1 cF cs h0 n0 v uu.heap L ∧ FrameEnd s oo uu L RM_3_1_3_52.cells RM_3_1_3_52.slots) (ef_2_aa m o0 o1) ?_
  show Go p e below _ (s₁.setTop (mkF m 0 #[sR o0, sR o1] []))
  refine Vi (s₁.setTop (mkF m 6 #[sR o0, sR o1] [.null, (.int 3), (.int 0), (.ref o1), (.ref o0)])) (fun tZ kZ => ?_) ?_
  · refine XS.aloadN X0.here hx rfl (hb hby d2_0) rfl rfl ?_
    refine XS.aloadN X0.here hx rfl (hb hby d2_1) rfl rfl ?_
    refine XS.iconst X0.here hx rfl (hb hby d2_2) ?_
    refine XS.aloadN X0.here hx rfl (hb hby d2_3) rfl rfl ?_
    refine AV.len ha4 X0 hx hZ e0 (hb hby d2_4) ?_
    refine XS.aconstNull X0.here hx rfl (hb hby d2_5) ?_
    exact kZ
  obtain ⟨_, _, ⟨T1, L1, k1, n1⟩, -, X1, ⟨Lc1, hQ1, l1, y1, z1⟩, st1⟩ := X0.specialBack hx (y := y3) rfl hown (mvT hZ (wq hw 21 rfl)) (mvT hZ (wq hw 22 rfl)) (mvT hZ (wq hw 24 rfl)) (by decide) (backOf (W := 0) (rm3n3 l Z a0 hw [] o0 o1 cF cs h0 n0 Z0 ha0 ha1 ha2 ha3 ha4 ha5 hne_o1_o0 hch0 hch1 hch2 hcs) hZ (wq hw 24 rfl) (wq hw 7 rfl) (by decide) (by decide)) (g := (mkF m 6 #[sR o0, sR o1] [.null, (.int 3), (.int 0), (.ref o1), (.ref o0)])) rfl (by rw [hml]; rfl) (Steps.refl _) (a := o0) (argsL := [(.ref o1), (.int 0), (.int 3), .null]) (rest := []) (lenOf pd_2 rfl) rfl (leW rfl) (hb hby d2_6) (fun _ _ => ⟨rfl, e0, (by decide : 0 + 1 ≤ _), (by decide : 0 + 3 ≤ _)⟩)
  dsimp only [Pt.U, Pt.locs, Pt.cells, Pt.slots] at X1 l1 y1 z1 st1 hQ1
  subst l1 y1 z1
  obtain ⟨b1_0, rfl, N1q, Kq1, hz_b1_0, f1_0, f1_1, f1_2, f1_3, f1_4, f1_5⟩ := hQ1
  have g_b1_0 : n0 ≤ b1_0 := Nat.le_trans Z0 hz_b1_0
  have sz_b1_0 : h0.size ≤ b1_0 := Nat.le_trans ((Keep.refl h0 [o0])).1 hz_b1_0
  have ne_o0_b1_0 : o0 ≠ b1_0 := Nat.ne_of_lt (Nat.lt_of_lt_of_le ha0.lt hz_b1_0)
  have ne_o1_b1_0 : o1 ≠ b1_0 := Nat.ne_of_lt (Nat.lt_of_lt_of_le ha4.lt hz_b1_0)
  have K1 : Keep h0 T1.heap [o0] := (Keep.refl h0 [o0]).trans Kq1 (allS (Or.inl (by simp)) all0)
  have Z1 : n0 ≤ T1.heap.size := Nat.le_trans Z0 Kq1.1
  have N1 := Fr.app N0 N1q
  refine Go.via (fun t k => st1.trans k) ?_
  refine Go.retV X1 hx Bd.notSynchronized Bd.returns (hb hby d2_9) (by decide) (by decide) ?_
  exact ⟨b1_0, rfl, N1, K1, sz_b1_0, f1_0, f1_1, f1_2, f1_3, f1_4, f1_5⟩
def Q23n4 (Z : State) (o0 : Addr) (o2 : Addr) (cF : Nat → Int32) (bF : Nat → Int32) (h0 : Heap) (n0 : Nat) (v : Option Value) (h : Heap) (L : List Loc) : Prop := v = some (.int 4) ∧ Fr n0 L ∧ Keep h0 h [o2] ∧ AV Z h o0 .char 4 (fun k => .int (cF k)) ∧ AV Z h o2 .byte 4 (fun k => .int ((up (up (up (up bF (0 : Int32).toNatClampNeg (nar .byte ((cF (0 : Int32).toNatClampNeg).toInt8.toInt32))) (1 : Int32).toNatClampNeg (nar .byte ((cF (1 : Int32).toNatClampNeg).toInt8.toInt32))) (2 : Int32).toNatClampNeg (nar .byte ((cF (2 : Int32).toNatClampNeg).toInt8.toInt32))) (3 : Int32).toNatClampNeg (nar .byte ((cF (3 : Int32).toNatClampNeg).toInt8.toInt32))) k))
theorem rm23n4 (l : Launch) (Z : State) (a0 : Array Value) (hw : ∀ d ∈ tables_1, d.before a0 Z = true) (ws : List Jvm.Cond) (o0 : Addr) (o2 : Addr) (cF : Nat → Int32) (bF : Nat → Int32) (h0 : Heap) (n0 : Nat) (Z0 : n0 ≤ h0.size) (ha0 : AV Z h0 o0 .char 4 (fun k => .int (cF k))) (ha1 : AV Z h0 o2 .byte 4 (fun k => .int (bF k))) (ha2 : n0 ≤ o2) (hne_o0_o2 : o0 ≠ o2) (hch0 : ¬ (255 : Int32) < (cF (0 : Int32).toNatClampNeg)) (hch1 : ¬ (255 : Int32) < (cF (1 : Int32).toNatClampNeg)) (hch2 : ¬ (255 : Int32) < (cF (2 : Int32).toNatClampNeg)) (hch3 : ¬ (255 : Int32) < (cF (3 : Int32).toNatClampNeg)) :
    MetFree l y23 (head1 (Jvm.Cond.code y23 jdk_52_method_21_code 7 (some .int) :: ws) RM_0_0_0_0) (fun a U => a = #[(.ref o0), (.int 0), (.ref o2), (.int 0), (.int 4)] ∧ Z.Warmed39 U.vm ∧ U.heap = h0) (fun _ _ _ _ _ => True) (fun _ U o U' => ∃ v L, o = .returned v ∧ Q23n4 Z o0 o2 cF bF h0 n0 v U'.heap L ∧ FrameEnd U o U' L RM_0_0_0_0.cells RM_0_0_0_0.slots) := by
  refine MetFree.of_bodySF (plainFor_of_name pn_7) hisR ?_
  intro p e s m args below meth c s₁ Bd hml0 hP hK
  obtain ⟨rfl, hZ, hh⟩ := hP
  have hx := Bd.exec
  have hby := Bd.bytes
  have hml : c.maxLocals = 7 := hml0
  have hown : s.vm.findClass "java/lang/StringUTF16" = some m.cls := findClass_of_methodNamed Bd.named
  have X0 : Stand p l e RM_0_0_0_0 s m _ below meth c s₁ [] 0 0 := Stand.of_body Bd
  have e0 : s₁.heap = h0 := by rw [← hh, Bd.state]; rfl
  have N0 := Fr.nil n0
  refine Go.into (P := fun oo uu => ∃ v L, oo = .returned v ∧ Q23n4 Z o0 o2 cF bF h0 n0 v uu.heap L ∧ FrameEnd s oo uu L RM_0_0_0_0.cells RM_0_0_0_0.slots) (ef_23_aaaaa m o0 (0 : Int32) o2 (0 : Int32) (4 : Int32)) ?_
  show Go p e below _ (s₁.setTop (mkF m 0 #[sR o0, sI 0, sR o2, sI 0, sI 4, .unset, .unset] []))
  refine Vi (s₁.setTop (mkF m 31 #[sR o0, sI 0, sR o2, sI 0, sI 4, sI 0, sI (cF (0 : Int32).toNatClampNeg)] [(.int ((cF (0 : Int32).toNatClampNeg).toInt8.toInt32)), (.int 0), (.ref o2)])) (fun tZ kZ => ?_) ?_
  · refine XS.iconst X0.here hx rfl (hb hby d23_0) ?_
    refine XS.istore X0.here hx rfl (hb hby d23_1) rfl (l' := #[sR o0, sI 0, sR o2, sI 0, sI 4, sI 0, .unset]) rfl ?_
    refine XS.iload X0.here hx rfl (hb hby d23_3) rfl ?_
    refine XS.iload X0.here hx rfl (hb hby d23_5) rfl ?_
    refine XS.icmpNo X0.here hx rfl (hb hby d23_7) rfl (tlt (by decide)).2.1 ?_
    refine XS.aloadN X0.here hx rfl (hb hby d23_10) rfl rfl ?_
    refine XS.iloadN X0.here hx rfl (hb hby d23_11) rfl ?_
    refine AV.caload ha0 X0 hx hZ e0 (j := (0 : Int32)) (by decide) (hb hby d23_12) ?_
    refine XS.istore X0.here hx rfl (hb hby d23_13) rfl (l' := #[sR o0, sI 0, sR o2, sI 0, sI 4, sI 0, sI (cF (0 : Int32).toNatClampNeg)]) rfl ?_
    refine XS.iload X0.here hx rfl (hb hby d23_15) rfl ?_
    refine XS.sipush X0.here hx rfl (hb hby d23_17) ?_
    refine XS.icmpYes X0.here hx rfl (pc0 := 20) (pc' := 26) rfl (hb hby d23_20) rfl (flt hch0).2.2.2 (by decide) (by decide) ?_
    refine XS.aloadN X0.here hx rfl (hb hby d23_26) rfl rfl ?_
    refine XS.iloadN X0.here hx rfl (hb hby d23_27) rfl ?_
    refine XS.iload X0.here hx rfl (hb hby d23_28) rfl ?_
    refine XS.i2b X0.here hx rfl (hb hby d23_30) rfl ?_
    exact kZ
  obtain ⟨T1, h1, X1, e1, W1, V1, st1⟩ := AV.bastoreB ha1 X0 hx hZ e0 (j := (0 : Int32)) (by decide) (Ls := #[sR o0, sI 0, sR o2, sI 0, sI 4, sI 0, sI (cF (0 : Int32).toNatClampNeg)]) (rest := []) (hb hby d23_31) (x := ((cF (0 : Int32).toNatClampNeg).toInt8.toInt32))
  have N1 := Fr.snoc X1 N0 ha2
  have c2_0 := ha0.other W1 hne_o0_o2
  have K1 : Keep h0 h1 [o2] := (Keep.refl h0 [o2]).wr W1 (Or.inl (by simp))
  have Z1 : n0 ≤ h1.size := Nat.le_trans Z0 (Keep.of_wr W1).1
  refine Go.via st1 ?_
  refine Vi (T1.setTop (mkF m 31 #[sR o0, sI 1, sR o2, sI 1, sI 4, sI 1, sI (cF (1 : Int32).toNatClampNeg)] [(.int ((cF (1 : Int32).toNatClampNeg).toInt8.toInt32)), (.int 1), (.ref o2)])) (fun tZ kZ => ?_) ?_
  · refine XS.iinc X1.here hx rfl (hb hby d23_32) rfl (l' := #[sR o0, sI 1, sR o2, sI 0, sI 4, sI 0, sI (cF (0 : Int32).toNatClampNeg)]) rfl ?_
    refine XS.iinc X1.here hx rfl (hb hby d23_35) rfl (l' := #[sR o0, sI 1, sR o2, sI 1, sI 4, sI 0, sI (cF (0 : Int32).toNatClampNeg)]) rfl ?_
    refine XS.iinc X1.here hx rfl (hb hby d23_38) rfl (l' := #[sR o0, sI 1, sR o2, sI 1, sI 4, sI 1, sI (cF (0 : Int32).toNatClampNeg)]) rfl ?_
    refine XS.goto X1.here hx rfl (pc0 := 41) (pc' := 3) rfl (hb hby d23_41) (by decide) (by decide) ?_
    refine XS.iload X1.here hx rfl (hb hby d23_3) rfl ?_
    refine XS.iload X1.here hx rfl (hb hby d23_5) rfl ?_
    refine XS.icmpNo X1.here hx rfl (hb hby d23_7) rfl (tlt (by decide)).2.1 ?_
    refine XS.aloadN X1.here hx rfl (hb hby d23_10) rfl rfl ?_
    refine XS.iloadN X1.here hx rfl (hb hby d23_11) rfl ?_
    refine AV.caload c2_0 X1 hx hZ e1 (j := (1 : Int32)) (by decide) (hb hby d23_12) ?_
    refine XS.istore X1.here hx rfl (hb hby d23_13) rfl (l' := #[sR o0, sI 1, sR o2, sI 1, sI 4, sI 1, sI (cF (1 : Int32).toNatClampNeg)]) rfl ?_
    refine XS.iload X1.here hx rfl (hb hby d23_15) rfl ?_
    refine XS.sipush X1.here hx rfl (hb hby d23_17) ?_
    refine XS.icmpYes X1.here hx rfl (pc0 := 20) (pc' := 26) rfl (hb hby d23_20) rfl (flt hch1).2.2.2 (by decide) (by decide) ?_
    refine XS.aloadN X1.here hx rfl (hb hby d23_26) rfl rfl ?_
    refine XS.iloadN X1.here hx rfl (hb hby d23_27) rfl ?_
    refine XS.iload X1.here hx rfl (hb hby d23_28) rfl ?_
    refine XS.i2b X1.here hx rfl (hb hby d23_30) rfl ?_
    exact kZ
  obtain ⟨T3, h3, X3, e3, W3, V3, st3⟩ := AV.bastoreB V1 X1 hx hZ e1 (j := (1 : Int32)) (by decide) (Ls := #[sR o0, sI 1, sR o2, sI 1, sI 4, sI 1, sI (cF (1 : Int32).toNatClampNeg)]) (rest := []) (hb hby d23_31) (x := ((cF (1 : Int32).toNatClampNeg).toInt8.toInt32))
  have N3 := Fr.snoc X3 N1 ha2
  have c4_0 := c2_0.other W3 hne_o0_o2
  have K3 : Keep h0 h3 [o2] := K1.wr W3 (Or.inl (by simp))
  have Z3 : n0 ≤ h3.size := Nat.le_trans Z1 (Keep.of_wr W3).1
  refine Go.via st3 ?_
  refine Vi (T3.setTop (mkF m 31 #[sR o0, sI 2, sR o2, sI 2, sI 4, sI 2, sI (cF (2 : Int32).toNatClampNeg)] [(.int ((cF (2 : Int32).toNatClampNeg).toInt8.toInt32)), (.int 2), (.ref o2)])) (fun tZ kZ => ?_) ?_
  · refine XS.iinc X3.here hx rfl (hb hby d23_32) rfl (l' := #[sR o0, sI 2, sR o2, sI 1, sI 4, sI 1, sI (cF (1 : Int32).toNatClampNeg)]) rfl ?_
    refine XS.iinc X3.here hx rfl (hb hby d23_35) rfl (l' := #[sR o0, sI 2, sR o2, sI 2, sI 4, sI 1, sI (cF (1 : Int32).toNatClampNeg)]) rfl ?_
    refine XS.iinc X3.here hx rfl (hb hby d23_38) rfl (l' := #[sR o0, sI 2, sR o2, sI 2, sI 4, sI 2, sI (cF (1 : Int32).toNatClampNeg)]) rfl ?_
    refine XS.goto X3.here hx rfl (pc0 := 41) (pc' := 3) rfl (hb hby d23_41) (by decide) (by decide) ?_
    refine XS.iload X3.here hx rfl (hb hby d23_3) rfl ?_
    refine XS.iload X3.here hx rfl (hb hby d23_5) rfl ?_
    refine XS.icmpNo X3.here hx rfl (hb hby d23_7) rfl (tlt (by decide)).2.1 ?_
    refine XS.aloadN X3.here hx rfl (hb hby d23_10) rfl rfl ?_
    refine XS.iloadN X3.here hx rfl (hb hby d23_11) rfl ?_
    refine AV.caload c4_0 X3 hx hZ e3 (j := (2 : Int32)) (by decide) (hb hby d23_12) ?_
    refine XS.istore X3.here hx rfl (hb hby d23_13) rfl (l' := #[sR o0, sI 2, sR o2, sI 2, sI 4, sI 2, sI (cF (2 : Int32).toNatClampNeg)]) rfl ?_
    refine XS.iload X3.here hx rfl (hb hby d23_15) rfl ?_
    refine XS.sipush X3.here hx rfl (hb hby d23_17) ?_
    refine XS.icmpYes X3.here hx rfl (pc0 := 20) (pc' := 26) rfl (hb hby d23_20) rfl (flt hch2).2.2.2 (by decide) (by decide) ?_
    refine XS.aloadN X3.here hx rfl (hb hby d23_26) rfl rfl ?_
    refine XS.iloadN X3.here hx rfl (hb hby d23_27) rfl ?_
    refine XS.iload X3.here hx rfl (hb hby d23_28) rfl ?_
    refine XS.i2b X3.here hx rfl (hb hby d23_30) rfl ?_
    exact kZ
  obtain ⟨T5, h5, X5, e5, W5, V5, st5⟩ := AV.bastoreB V3 X3 hx hZ e3 (j := (2 : Int32)) (by decide) (Ls := #[sR o0, sI 2, sR o2, sI 2, sI 4, sI 2, sI (cF (2 : Int32).toNatClampNeg)]) (rest := []) (hb hby d23_31) (x := ((cF (2 : Int32).toNatClampNeg).toInt8.toInt32))
  have N5 := Fr.snoc X5 N3 ha2
  have c6_0 := c4_0.other W5 hne_o0_o2
  have K5 : Keep h0 h5 [o2] := K3.wr W5 (Or.inl (by simp))
  have Z5 : n0 ≤ h5.size := Nat.le_trans Z3 (Keep.of_wr W5).1
  refine Go.via st5 ?_
  refine Vi (T5.setTop (mkF m 31 #[sR o0, sI 3, sR o2, sI 3, sI 4, sI 3, sI (cF (3 : Int32).toNatClampNeg)] [(.int ((cF (3 : Int32).toNatClampNeg).toInt8.toInt32)), (.int 3), (.ref o2)])) (fun tZ kZ => ?_) ?_
  · refine XS.iinc X5.here hx rfl (hb hby d23_32) rfl (l' := #[sR o0, sI 3, sR o2, sI 2, sI 4, sI 2, sI (cF (2 : Int32).toNatClampNeg)]) rfl ?_
    refine XS.iinc X5.here hx rfl (hb hby d23_35) rfl (l' := #[sR o0, sI 3, sR o2, sI 3, sI 4, sI 2, sI (cF (2 : Int32).toNatClampNeg)]) rfl ?_
    refine XS.iinc X5.here hx rfl (hb hby d23_38) rfl (l' := #[sR o0, sI 3, sR o2, sI 3, sI 4, sI 3, sI (cF (2 : Int32).toNatClampNeg)]) rfl ?_
    refine XS.goto X5.here hx rfl (pc0 := 41) (pc' := 3) rfl (hb hby d23_41) (by decide) (by decide) ?_
    refine XS.iload X5.here hx rfl (hb hby d23_3) rfl ?_
    refine XS.iload X5.here hx rfl (hb hby d23_5) rfl ?_
    refine XS.icmpNo X5.here hx rfl (hb hby d23_7) rfl (tlt (by decide)).2.1 ?_
    refine XS.aloadN X5.here hx rfl (hb hby d23_10) rfl rfl ?_
    refine XS.iloadN X5.here hx rfl (hb hby d23_11) rfl ?_
    refine AV.caload c6_0 X5 hx hZ e5 (j := (3 : Int32)) (by decide) (hb hby d23_12) ?_
    refine XS.istore X5.here hx rfl (hb hby d23_13) rfl (l' := #[sR o0, sI 3, sR o2, sI 3, sI 4, sI 3, sI (cF (3 : Int32).toNatClampNeg)]) rfl ?_
    refine XS.iload X5.here hx rfl (hb hby d23_15) rfl ?_
    refine XS.sipush X5.here hx rfl (hb hby d23_17) ?_
    refine XS.icmpYes X5.here hx rfl (pc0 := 20) (pc' := 26) rfl (hb hby d23_20) rfl (flt hch3).2.2.2 (by decide) (by decide) ?_
    refine XS.aloadN X5.here hx rfl (hb hby d23_26) rfl rfl ?_
    refine XS.iloadN X5.here hx rfl (hb hby d23_27) rfl ?_
    refine XS.iload X5.here hx rfl (hb hby d23_28) rfl ?_
    refine XS.i2b X5.here hx rfl (hb hby d23_30) rfl ?_
    exact kZ
  obtain ⟨T7, h7, X7, e7, W7, V7, st7⟩ := AV.bastoreB V5 X5 hx hZ e5 (j := (3 : Int32)) (by decide) (Ls := #[sR o0, sI 3, sR o2, sI 3, sI 4, sI 3, sI (cF (3 : Int32).toNatClampNeg)]) (rest := []) (hb hby d23_31) (x := ((cF (3 : Int32).toNatClampNeg).toInt8.toInt32))
  have N7 := Fr.snoc X7 N5 ha2
  have c8_0 := c6_0.other W7 hne_o0_o2
  have K7 : Keep h0 h7 [o2] := K5.wr W7 (Or.inl (by simp))
  have Z7 : n0 ≤ h7.size := Nat.le_trans Z5 (Keep.of_wr W7).1
  refine Go.via st7 ?_
  refine Vi (T7.setTop (mkF m 46 #[sR o0, sI 4, sR o2, sI 4, sI 4, sI 4, sI (cF (3 : Int32).toNatClampNeg)] [(.int 4)])) (fun tZ kZ => ?_) ?_
  · refine XS.iinc X7.here hx rfl (hb hby d23_32) rfl (l' := #[sR o0, sI 4, sR o2, sI 3, sI 4, sI 3, sI (cF (3 : Int32).toNatClampNeg)]) rfl ?_
    refine XS.iinc X7.here hx rfl (hb hby d23_35) rfl (l' := #[sR o0, sI 4, sR o2, sI 4, sI 4, sI 3, sI (cF (3 : Int32).toNatClampNeg)]) rfl ?_
    refine XS.iinc X7.here hx rfl (hb hby d23_38) rfl (l' := #[sR o0, sI 4, sR o2, sI 4, sI 4, sI 4, sI (cF (3 : Int32).toNatClampNeg)]) rfl ?_
    refine XS.goto X7.here hx rfl (pc0 := 41) (pc' := 3) rfl (hb hby d23_41) (by decide) (by decide) ?_
    refine XS.iload X7.here hx rfl (hb hby d23_3) rfl ?_
    refine XS.iload X7.here hx rfl (hb hby d23_5) rfl ?_
    refine XS.icmpYes X7.here hx rfl (pc0 := 7) (pc' := 44) rfl (hb hby d23_7) rfl (flt (by decide)).2.1 (by decide) (by decide) ?_
    refine XS.iload X7.here hx rfl (hb hby d23_44) rfl ?_
    exact kZ
  refine Go.retI X7 hx Bd.notSynchronized Bd.returns (hb hby d23_46) (by decide) (by decide) ?_
  rw [e7]
  exact ⟨rfl, N7, K7, c8_0, V7⟩
def Q22n4 (Z : State) (o0 : Addr) (cF : Nat → Int32) (h0 : Heap) (n0 : Nat) (v : Option Value) (h : Heap) (L : List Loc) : Prop := ∃ b1 : Addr, v = some (.ref b1) ∧ Fr n0 L ∧ Keep h0 h [] ∧ h0.size ≤ b1 ∧ AV Z h o0 .char 4 (fun k => .int (cF k)) ∧ AV Z h b1 .byte 4 (fun k => .int ((up (up (up (up (fun _ => (0 : Int32)) (0 : Int32).toNatClampNeg (nar .byte ((cF (0 : Int32).toNatClampNeg).toInt8.toInt32))) (1 : Int32).toNatClampNeg (nar .byte ((cF (1 : Int32).toNatClampNeg).toInt8.toInt32))) (2 : Int32).toNatClampNeg (nar .byte ((cF (2 : Int32).toNatClampNeg).toInt8.toInt32))) (3 : Int32).toNatClampNeg (nar .byte ((cF (3 : Int32).toNatClampNeg).toInt8.toInt32))) k))
abbrev RM_1_1_4_18 : Room := { frames := 1, cells := 1, slots := 4, locals := 18 }
theorem rm22n4 (l : Launch) (Z : State) (a0 : Array Value) (hw : ∀ d ∈ tables_1, d.before a0 Z = true) (ws : List Jvm.Cond) (o0 : Addr) (cF : Nat → Int32) (h0 : Heap) (n0 : Nat) (Z0 : n0 ≤ h0.size) (ha0 : AV Z h0 o0 .char 4 (fun k => .int (cF k))) (hch0 : ¬ (255 : Int32) < (cF (0 : Int32).toNatClampNeg)) (hch1 : ¬ (255 : Int32) < (cF (1 : Int32).toNatClampNeg)) (hch2 : ¬ (255 : Int32) < (cF (2 : Int32).toNatClampNeg)) (hch3 : ¬ (255 : Int32) < (cF (3 : Int32).toNatClampNeg)) :
    MetFree l y22 (head1 (Jvm.Cond.code y22 jdk_52_method_16_code 6 (some (.array .byte)) :: ws) RM_1_1_4_18) (fun a U => a = #[(.ref o0), (.int 0), (.int 4)] ∧ Z.Warmed39 U.vm ∧ U.heap = h0) (fun _ _ _ _ _ => True) (fun _ U o U' => ∃ v L, o = .returned v ∧ Q22n4 Z o0 cF h0 n0 v U'.heap L ∧ FrameEnd U o U' L RM_1_1_4_18.cells RM_1_1_4_18.slots) := by
  refine MetFree.of_bodySF (plainFor_of_name pn_7) hisR ?_
  intro p e s m args below meth c s₁ Bd hml0 hP hK
  obtain ⟨rfl, hZ, hh⟩ := hP
  have hx := Bd.exec
  have hby := Bd.bytes
  have hml : c.maxLocals = 6 := hml0
  have hown : s.vm.findClass "java/lang/StringUTF16" = some m.cls := findClass_of_methodNamed Bd.named
  have X0 : Stand p l e RM_1_1_4_18 s m _ below meth c s₁ [] 0 0 := Stand.of_body Bd
  have e0 : s₁.heap = h0 := by rw [← hh, Bd.state]; rfl
  have N0 := Fr.nil n0
  refine Go.into (P := fun oo uu => ∃ v L, oo = .returned v ∧ Q22n4 Z o0 cF h0 n0 v uu.heap L ∧ FrameEnd s oo uu L RM_1_1_4_18.cells RM_1_1_4_18.slots) (ef_22_aaa m o0 (0 : Int32) (4 : Int32)) ?_
  show Go p e below _ (s₁.setTop (mkF m 0 #[sR o0, sI 0, sI 4, .unset, .unset, .unset] []))
  refine Vi (s₁.setTop (mkF m 1 #[sR o0, sI 0, sI 4, .unset, .unset, .unset] [(.int 4)])) (fun tZ kZ => ?_) ?_
  · refine XS.iloadN X0.here hx rfl (hb hby d22_0) rfl ?_
    exact kZ
  obtain ⟨T1, h1, k1, X1, e1, E1, A1, B1, st1⟩ := newPE X0 hx hZ (wq hw 9 rfl) e0 (g := (mkF m 1 #[sR o0, sI 0, sI 4, .unset, .unset, .unset] [(.int 4)])) rfl (hb hby d22_1) rfl (by decide) (cap := 4) (by decide) (by decide) (by decide) (by decide) (ad := "[B") rfl
  obtain ⟨b1, g1⟩ : ∃ z, z = h0.size := ⟨_, rfl⟩
  rw [← g1] at A1 B1 st1
  have g_b1 : n0 ≤ b1 := Nat.le_trans Z0 (Nat.le_of_eq g1.symm)
  have sz_b1 : h0.size ≤ b1 := Nat.le_trans ((Keep.refl h0 [])).1 (Nat.le_of_eq g1.symm)
  have ne_o0_b1 : o0 ≠ b1 := Nat.ne_of_lt (Nat.lt_of_lt_of_le ha0.lt (Nat.le_of_eq g1.symm))
  have c2_0 := ha0.ext E1
  have K1 : Keep h0 h1 [] := (Keep.refl h0 []).ext E1
  have Z1 : n0 ≤ h1.size := Nat.le_trans Z0 E1.1
  have V1 : AV Z h1 b1 .byte 4 (fun k => .int ((fun _ => (0 : Int32)) k)) := by have q := AV.new A1; exact q
  refine Go.via st1 ?_
  refine Vi (T1.setTop (mkF m 9 #[sR o0, sI 0, sI 4, sR b1, .unset, .unset] [(.int 4), (.int 0), (.ref b1), (.int 0), (.ref o0)])) (fun tZ kZ => ?_) ?_
  · refine XS.astoreN X1.here hx rfl (hb hby d22_3) rfl rfl (l' := #[sR o0, sI 0, sI 4, sR b1, .unset, .unset]) rfl ?_
    refine XS.aloadN X1.here hx rfl (hb hby d22_4) rfl rfl ?_
    refine XS.iloadN X1.here hx rfl (hb hby d22_5) rfl ?_
    refine XS.aloadN X1.here hx rfl (hb hby d22_6) rfl rfl ?_
    refine XS.iconst X1.here hx rfl (hb hby d22_7) ?_
    refine XS.iloadN X1.here hx rfl (hb hby d22_8) rfl ?_
    exact kZ
  obtain ⟨_, _, ⟨T3, L3, k3, n3⟩, -, X3, ⟨Lc3, hQ3, l3, y3, z3⟩, st3⟩ := Jvm.LawKit.callS X1 hx (y := y23) hown (mvT hZ (wq hw 119 rfl)) (mvT hZ (wq hw 120 rfl)) (mvT hZ (wq hw 117 rfl)) (mvT hZ (wq hw 121 rfl)) (by decide) (backOf (W := 0) (rm23n4 l Z a0 hw [] o0 b1 cF (fun _ => (0 : Int32)) h1 n0 Z1 c2_0 V1 g_b1 ne_o0_b1 hch0 hch1 hch2 hch3) hZ (wq hw 121 rfl) (wq hw 117 rfl) (by decide) (by decide)) (g := (mkF m 9 #[sR o0, sI 0, sI 4, sR b1, .unset, .unset] [(.int 4), (.int 0), (.ref b1), (.int 0), (.ref o0)])) rfl (by rw [hml]; rfl) (argsL := [(.ref o0), (.int 0), (.ref b1), (.int 0), (.int 4)]) (rest := []) (lenOf pd_20 rfl) rfl (leW rfl) (hb hby d22_9) (fun _ _ => ⟨rfl, e1, (by decide : 0 + 1 + 0 ≤ _), (by decide : 0 + 4 + 0 ≤ _)⟩)
  dsimp only [Pt.U, Pt.locs, Pt.cells, Pt.slots] at X3 l3 y3 z3 st3 hQ3
  subst l3 y3 z3
  obtain ⟨rfl, N3q, Kq3, f3_0, f3_1⟩ := hQ3
  have K3 : Keep h0 T3.heap [] := K1.trans Kq3 (allS (Or.inr sz_b1) all0)
  have Z3 : n0 ≤ T3.heap.size := Nat.le_trans Z1 Kq3.1
  have N3 := Fr.app N0 N3q
  refine Go.via st3 ?_
  refine Vi (T3.setTop (mkF m 58 #[sR o0, sI 0, sI 4, sR b1, sI 4, .unset] [(.ref b1)])) (fun tZ kZ => ?_) ?_
  · refine XS.istore X3.here hx rfl (hb hby d22_12) rfl (l' := #[sR o0, sI 0, sI 4, sR b1, sI 4, .unset]) rfl ?_
    refine XS.iload X3.here hx rfl (hb hby d22_14) rfl ?_
    refine XS.iloadN X3.here hx rfl (hb hby d22_16) rfl ?_
    refine XS.icmpYes X3.here hx rfl (pc0 := 17) (pc' := 57) rfl (hb hby d22_17) rfl (teq (by decide)).1 (by decide) (by decide) ?_
    refine XS.aloadN X3.here hx rfl (hb hby d22_57) rfl rfl ?_
    exact kZ
  refine Go.retR X3 hx Bd.notSynchronized Bd.returns rfl rfl (hb hby d22_58) (by decide) (by decide) ?_
  exact ⟨b1, rfl, N3, K3, sz_b1, f3_0, f3_1⟩
def f24n4 (o0 : Addr) (bF : Nat → Int32) : Int32 := (nar .byte ((((0 : Int32).toUInt32 >>> ((31 : Int32) &&& 31).toUInt32).toInt32).toInt8.toInt32))
def Q24n4 (o0 : Addr) (bF : Nat → Int32) (h0 : Heap) (n0 : Nat) (v : Option Value) (h : Heap) (L : List Loc) : Prop := v = some (.int (f24n4 o0 bF)) ∧ Fr n0 L ∧ h = h0
theorem rm24n4 (l : Launch) (Z : State) (a0 : Array Value) (hw : ∀ d ∈ tables_1, d.before a0 Z = true) (ws : List Jvm.Cond) (o0 : Addr) (bF : Nat → Int32) (h0 : Heap) (n0 : Nat) (Z0 : n0 ≤ h0.size) (ha0 : AV Z h0 o0 .byte 4 (fun k => .int (bF k))) :
    MetFree l y24 (head1 (Jvm.Cond.code y24 jdk_52_method_15_code 2 (some .byte) :: ws) RM_0_0_0_0) (fun a U => a = #[(.ref o0), (.int 4)] ∧ Z.Warmed39 U.vm ∧ U.heap = h0) (fun _ _ _ _ _ => True) (fun _ U o U' => ∃ v L, o = .returned v ∧ Q24n4 o0 bF h0 n0 v U'.heap L ∧ FrameEnd U o U' L RM_0_0_0_0.cells RM_0_0_0_0.slots) := by
  refine MetFree.of_bodySF (plainFor_of_name pn_7) hisR ?_
  intro p e s m args below meth c s₁ Bd hml0 hP hK
  obtain ⟨rfl, hZ, hh⟩ := hP
  have hx := Bd.exec
  have hby := Bd.bytes
  have hml : c.maxLocals = 2 := hml0
  have hown : s.vm.findClass "java/lang/StringUTF16" = some m.cls := findClass_of_methodNamed Bd.named
  have X0 : Stand p l e RM_0_0_0_0 s m _ below meth c s₁ [] 0 0 := Stand.of_body Bd
  have e0 : s₁.heap = h0 := by rw [← hh, Bd.state]; rfl
  have N0 := Fr.nil n0
  refine Go.into (P := fun oo uu => ∃ v L, oo = .returned v ∧ Q24n4 o0 bF h0 n0 v uu.heap L ∧ FrameEnd s oo uu L RM_0_0_0_0.cells RM_0_0_0_0.slots) (ef_24_aa m o0 (4 : Int32)) ?_
  show Go p e below _ (s₁.setTop (mkF m 0 #[sR o0, sI 4] []))
  refine Vi (s₁.setTop (mkF m 8 #[sR o0, sI 4] [(.int ((((0 : Int32).toUInt32 >>> ((31 : Int32) &&& 31).toUInt32).toInt32).toInt8.toInt32))])) (fun tZ kZ => ?_) ?_
  · refine XS.iloadN X0.here hx rfl (hb hby d24_0) rfl ?_
    refine XS.aloadN X0.here hx rfl (hb hby d24_1) rfl rfl ?_
    refine AV.len ha0 X0 hx hZ e0 (hb hby d24_2) ?_
    refine XS.isub X0.here hx rfl (hb hby d24_3) rfl ?_
    refine XS.bipush X0.here hx rfl (hb hby d24_4) ?_
    refine XS.iushr X0.here hx rfl (hb hby d24_6) rfl ?_
    refine XS.i2b X0.here hx rfl (hb hby d24_7) rfl ?_
    exact kZ
  refine Go.retN X0 hx Bd.notSynchronized (t := .byte) Bd.returns (by simp) (hb hby d24_8) (by decide) (by decide) ?_
  refine ⟨?_, N0, e0⟩
  show some ((Value.int (nar .byte ((((0 : Int32).toUInt32 >>> ((31 : Int32) &&& 31).toUInt32).toInt32).toInt8.toInt32))) : Value) = some (.int (f24n4 o0 bF))
  rfl
def Q3n4 (Z : State) (o0 : Addr) (o1 : Addr) (cF : Nat → Int32) (cs : Int32) (h0 : Heap) (n0 : Nat) (v : Option Value) (h : Heap) (L : List Loc) : Prop := ∃ b3_0 : Addr, v = none ∧ Fr n0 L ∧ Keep h0 h [o0] ∧ h0.size ≤ b3_0 ∧ Exa Z h o0 "java/lang/String" ∧ Fld Z h o0 "java/lang/String" "value" "[B" (.ref b3_0) ∧ Fld Z h o0 "java/lang/String" "coder" "B" (.int 0) ∧ AV Z h o1 .char 4 (fun k => .int (cF k)) ∧ Sta Z h "java/lang/String" "COMPACT_STRINGS" "Z" (.int cs) ∧ AV Z h b3_0 .byte 4 (fun k => .int ((up (up (up (up (fun _ => (0 : Int32)) (0 : Int32).toNatClampNeg (nar .byte ((cF (0 : Int32).toNatClampNeg).toInt8.toInt32))) (1 : Int32).toNatClampNeg (nar .byte ((cF (1 : Int32).toNatClampNeg).toInt8.toInt32))) (2 : Int32).toNatClampNeg (nar .byte ((cF (2 : Int32).toNatClampNeg).toInt8.toInt32))) (3 : Int32).toNatClampNeg (nar .byte ((cF (3 : Int32).toNatClampNeg).toInt8.toInt32))) k))
abbrev RM_2_1_4_35 : Room := { frames := 2, cells := 1, slots := 4, locals := 35 }
theorem rm3n4 (l : Launch) (Z : State) (a0 : Array Value) (hw : ∀ d ∈ tables_1, d.before a0 Z = true) (ws : List Jvm.Cond) (o0 : Addr) (o1 : Addr) (cF : Nat → Int32) (cs : Int32) (h0 : Heap) (n0 : Nat) (Z0 : n0 ≤ h0.size) (ha0 : Exa Z h0 o0 "java/lang/String") (ha1 : Fld Z h0 o0 "java/lang/String" "value" "[B" .null) (ha2 : Fld Z h0 o0 "java/lang/String" "coder" "B" (.int 0)) (ha3 : n0 ≤ o0) (ha4 : AV Z h0 o1 .char 4 (fun k => .int (cF k))) (ha5 : Sta Z h0 "java/lang/String" "COMPACT_STRINGS" "Z" (.int cs)) (hne_o1_o0 : o1 ≠ o0) (hch0 : ¬ (255 : Int32) < (cF (0 : Int32).toNatClampNeg)) (hch1 : ¬ (255 : Int32) < (cF (1 : Int32).toNatClampNeg)) (hch2 : ¬ (255 : Int32) < (cF (2 : Int32).toNatClampNeg)) (hch3 : ¬ (255 : Int32) < (cF (3 : Int32).toNatClampNeg)) (hcs : ¬ cs = 0) :
    MetFree l y3 (head1 (Jvm.Cond.code y3 jdk_42_method_149_code 6 none :: ws) RM_2_1_4_35) (fun a U => a = #[(.ref o0), (.ref o1), (.int 0), (.int 4), .null] ∧ Z.Warmed39 U.vm ∧ U.heap = h0) (fun _ _ _ _ _ => True) (fun _ U o U' => ∃ v L, o = .returned v ∧ Q3n4 Z o0 o1 cF cs h0 n0 v U'.heap L ∧ FrameEnd U o U' L RM_2_1_4_35.cells RM_2_1_4_35.slots) := by
  refine MetFree.of_bodySF (plainFor_of_name pn_0) hisR ?_
  intro p e s m args below meth c s₁ Bd hml0 hP hK
  obtain ⟨rfl, hZ, hh⟩ := hP
  have hx := Bd.exec
  have hby := Bd.bytes
  have hml : c.maxLocals = 6 := hml0
  have hown : s.vm.findClass "java/lang/String" = some m.cls := findClass_of_methodNamed Bd.named
  have hnm := (name_of_methodNamed Bd.named Bd.method).1
  have X0 : Stand p l e RM_2_1_4_35 s m _ below meth c s₁ [] 0 0 := Stand.of_body Bd
  have e0 : s₁.heap = h0 := by rw [← hh, Bd.state]; rfl
  have N0 := Fr.nil n0
  refine Go.into (P := fun oo uu => ∃ v L, oo = .returned v ∧ Q3n4 Z o0 o1 cF cs h0 n0 v uu.heap L ∧ FrameEnd s oo uu L RM_2_1_4_35.cells RM_2_1_4_35.slots) (ef_3_aaaan m o0 o1 (0 : Int32) (4 : Int32)) ?_
  show Go p e below _ (s₁.setTop (mkF m 0 #[sR o0, sR o1, sI 0, sI 4, .val .null, .unset] []))
  refine Vi (s₁.setTop (mkF m 1 #[sR o0, sR o1, sI 0, sI 4, .val .null, .unset] [(.ref o0)])) (fun tZ kZ => ?_) ?_
  · refine XS.aloadN X0.here hx rfl (hb hby d3_0) rfl rfl ?_
    exact kZ
  obtain ⟨T1, X1, e1, st1⟩ := initO X0 hx hZ hown (wq hw 25 rfl) (wq hw 26 rfl) (wq hw 27 rfl) e0 (g := (mkF m 1 #[sR o0, sR o1, sI 0, sI 4, .val .null, .unset] [(.ref o0)])) rfl (by rw [hml]; rfl) rfl (hb hby d3_1) (by decide) (W := 0) (by show 2 * 0 + _ ≤ _; exact Nat.le_of_eq rfl) (by decide)
  refine Go.via st1 ?_
  refine Vi (T1.setTop (mkF m 27 #[sR o0, sR o1, sI 0, sI 4, .val .null, .unset] [])) (fun tZ kZ => ?_) ?_
  · refine XS.iloadN X1.here hx rfl (hb hby d3_4) rfl ?_
    refine XS.ifYes X1.here hx rfl (pc0 := 5) (pc' := 27) rfl (hb hby d3_5) rfl ((if0 _ _).trans (feq (by decide)).2) (by decide) (by decide) ?_
    exact kZ
  obtain ⟨T2, X2, e2, st2⟩ := getS2 X1 hx hZ hown (host := "") (Or.inl (wq hw 74 rfl)) Via.refl e1 ha5 (g := (mkF m 27 #[sR o0, sR o1, sI 0, sI 4, .val .null, .unset] [])) rfl (hb hby d3_27)
  refine Go.via st2 ?_
  refine Vi (T2.setTop (mkF m 36 #[sR o0, sR o1, sI 0, sI 4, .val .null, .unset] [(.int 4), (.int 0), (.ref o1)])) (fun tZ kZ => ?_) ?_
  · refine XS.ifNo X2.here hx rfl (hb hby d3_30) rfl ((if0 _ _).trans (feq hcs).1) ?_
    refine XS.aloadN X2.here hx rfl (hb hby d3_33) rfl rfl ?_
    refine XS.iloadN X2.here hx rfl (hb hby d3_34) rfl ?_
    refine XS.iloadN X2.here hx rfl (hb hby d3_35) rfl ?_
    exact kZ
  obtain ⟨_, _, ⟨T3, L3, k3, n3⟩, -, X3, ⟨Lc3, hQ3, l3, y3, z3⟩, st3⟩ := Jvm.LawKit.callS X2 hx (y := y22) hown (mvT hZ (wq hw 115 rfl)) (mvT hZ (wq hw 116 rfl)) (mvT hZ (wq hw 117 rfl)) (mvT hZ (wq hw 118 rfl)) (by decide) (backOf (W := 0) (rm22n4 l Z a0 hw [] o1 cF h0 n0 Z0 ha4 hch0 hch1 hch2 hch3) hZ (wq hw 118 rfl) (wq hw 117 rfl) (by decide) (by decide)) (g := (mkF m 36 #[sR o0, sR o1, sI 0, sI 4, .val .null, .unset] [(.int 4), (.int 0), (.ref o1)])) rfl (by rw [hml]; rfl) (argsL := [(.ref o1), (.int 0), (.int 4)]) (rest := []) (lenOf pd_19 rfl) rfl (leW rfl) (hb hby d3_36) (fun _ _ => ⟨rfl, e2, (by decide : 0 + 1 ≤ _), (by decide : 0 + 4 ≤ _)⟩)
  dsimp only [Pt.U, Pt.locs, Pt.cells, Pt.slots] at X3 l3 y3 z3 st3 hQ3
  subst l3 y3 z3
  obtain ⟨b3_0, rfl, N3q, Kq3, hz_b3_0, f3_0, f3_1⟩ := hQ3
  have g_b3_0 : n0 ≤ b3_0 := Nat.le_trans Z0 hz_b3_0
  have sz_b3_0 : h0.size ≤ b3_0 := Nat.le_trans ((Keep.refl h0 [o0])).1 hz_b3_0
  have ne_o0_b3_0 : o0 ≠ b3_0 := Nat.ne_of_lt (Nat.lt_of_lt_of_le ha0.lt hz_b3_0)
  have ne_o1_b3_0 : o1 ≠ b3_0 := Nat.ne_of_lt (Nat.lt_of_lt_of_le ha4.lt hz_b3_0)
  have c4_0 := ha0.keep Kq3
  have c4_1 := ha1.keep Kq3 nin0
  have c4_2 := ha2.keep Kq3 nin0
  have c4_5 := own_sk ha5 Kq3 (fun _ _ _ _ => nin0)
  have K3 : Keep h0 T3.heap [o0] := (Keep.refl h0 [o0]).trans Kq3 all0
  have Z3 : n0 ≤ T3.heap.size := Nat.le_trans Z0 Kq3.1
  have N3 := Fr.app N0 N3q
  refine Go.via st3 ?_
  refine Vi (T3.setTop (mkF m 45 #[sR o0, sR o1, sI 0, sI 4, .val .null, sR b3_0] [(.int 4), (.ref b3_0), (.ref o0)])) (fun tZ kZ => ?_) ?_
  · refine XS.astore X3.here hx rfl (hb hby d3_39) rfl rfl (l' := #[sR o0, sR o1, sI 0, sI 4, .val .null, sR b3_0]) rfl ?_
    refine XS.aloadN X3.here hx rfl (hb hby d3_41) rfl rfl ?_
    refine XS.aload X3.here hx rfl (hb hby d3_42) rfl rfl ?_
    refine XS.iloadN X3.here hx rfl (hb hby d3_44) rfl ?_
    exact kZ
  obtain ⟨_, _, ⟨T5, L5, k5, n5⟩, -, X5, ⟨Lc5, hQ5, l5, y5, z5⟩, st5⟩ := Jvm.LawKit.callS X3 hx (y := y24) hown (mvT hZ (wq hw 122 rfl)) (mvT hZ (wq hw 123 rfl)) (mvT hZ (wq hw 117 rfl)) (mvT hZ (wq hw 124 rfl)) (by decide) (backOf (W := 1) (rm24n4 l Z a0 hw [] b3_0 (up (up (up (up (fun _ => (0 : Int32)) (0 : Int32).toNatClampNeg (nar .byte ((cF (0 : Int32).toNatClampNeg).toInt8.toInt32))) (1 : Int32).toNatClampNeg (nar .byte ((cF (1 : Int32).toNatClampNeg).toInt8.toInt32))) (2 : Int32).toNatClampNeg (nar .byte ((cF (2 : Int32).toNatClampNeg).toInt8.toInt32))) (3 : Int32).toNatClampNeg (nar .byte ((cF (3 : Int32).toNatClampNeg).toInt8.toInt32))) T3.heap n0 Z3 f3_1) hZ (wq hw 124 rfl) (wq hw 117 rfl) (by decide) (by decide)) (g := (mkF m 45 #[sR o0, sR o1, sI 0, sI 4, .val .null, sR b3_0] [(.int 4), (.ref b3_0), (.ref o0)])) rfl (by rw [hml]; rfl) (argsL := [(.ref b3_0), (.int 4)]) (rest := [(.ref o0)]) (lenOf pd_21 rfl) rfl (leW rfl) (hb hby d3_45) (fun _ _ => ⟨rfl, rfl, (by decide : 0 + 1 + 0 ≤ _), (by decide : 0 + 4 + 0 ≤ _)⟩)
  dsimp only [Pt.U, Pt.locs, Pt.cells, Pt.slots] at X5 l5 y5 z5 st5 hQ5
  subst l5 y5 z5
  obtain ⟨rfl, N5q, e5⟩ := hQ5
  have hv5 : (f24n4 b3_0 (up (up (up (up (fun _ => (0 : Int32)) (0 : Int32).toNatClampNeg (nar .byte ((cF (0 : Int32).toNatClampNeg).toInt8.toInt32))) (1 : Int32).toNatClampNeg (nar .byte ((cF (1 : Int32).toNatClampNeg).toInt8.toInt32))) (2 : Int32).toNatClampNeg (nar .byte ((cF (2 : Int32).toNatClampNeg).toInt8.toInt32))) (3 : Int32).toNatClampNeg (nar .byte ((cF (3 : Int32).toNatClampNeg).toInt8.toInt32)))) = (0 : Int32) := by unfold f24n4; decide
  rw [hv5] at st5
  have N5 := Fr.app N3 N5q
  refine Go.via st5 ?_
  obtain ⟨T6, h6, X6, e6, W6, st6⟩ := putFN X5 hx hZ hown (wq hw 30 rfl) Via.refl e5 c4_2 c4_0 (Or.inr ⟨(wq hw 11 rfl), rfl, hnm⟩) (wq hw 8 rfl) (ty := .byte) (v' := (.int (nar .byte (0 : Int32)))) (by decide) rfl (fits_nar_byte _) (g := (mkF m 48 #[sR o0, sR o1, sI 0, sI 4, .val .null, sR b3_0] [(.int 0), (.ref o0)])) rfl rfl (hb hby d3_48)
  have N6 := Fr.snoc X6 N5 ha3
  have c7_0 := c4_0.wr W6
  have c7_1 := c4_1.other W6 (Or.inr (slot_ne (Or.inr (wq hw 10 rfl)) (Or.inr (wq hw 11 rfl)) (by decide) (t := (.array .byte)) (t' := .byte) (by decide) (by decide)))
  have c7_4 := f3_0.other W6 hne_o1_o0
  have c7_5 := c4_5.wr W6
  have c7_6 := f3_1.other W6 (Ne.symm ne_o0_b3_0)
  have K6 : Keep h0 h6 [o0] := K3.wr W6 (Or.inl (by simp))
  have Z6 : n0 ≤ h6.size := Nat.le_trans Z3 (Keep.of_wr W6).1
  have Fw6 : Fld Z h6 o0 "java/lang/String" "coder" "B" (.int 0) := c4_2.same W6
  refine Go.via st6 ?_
  refine Vi (T6.setTop (mkF m 54 #[sR o0, sR o1, sI 0, sI 4, .val .null, sR b3_0] [(.ref b3_0), (.ref o0)])) (fun tZ kZ => ?_) ?_
  · refine XS.aloadN X6.here hx rfl (hb hby d3_51) rfl rfl ?_
    refine XS.aload X6.here hx rfl (hb hby d3_52) rfl rfl ?_
    exact kZ
  obtain ⟨T8, h8, X8, e8, W8, st8⟩ := putF X6 hx hZ hown (host := "") (Or.inl (wq hw 29 rfl)) Via.refl e6 c7_1 c7_0 (Or.inr ⟨(wq hw 10 rfl), rfl, hnm⟩) (wq hw 8 rfl) (ty := (.array .byte)) (by decide) rfl rfl (g := (mkF m 54 #[sR o0, sR o1, sI 0, sI 4, .val .null, sR b3_0] [(.ref b3_0), (.ref o0)])) rfl rfl (hb hby d3_54)
  have N8 := Fr.snoc X8 N6 ha3
  have c9_0 := c7_0.wr W8
  have c9_2 := Fw6.other W8 (Or.inr (slot_ne (Or.inr (wq hw 11 rfl)) (Or.inr (wq hw 10 rfl)) (by decide) (t := .byte) (t' := (.array .byte)) (by decide) (by decide)))
  have c9_4 := c7_4.other W8 hne_o1_o0
  have c9_5 := c7_5.wr W8
  have c9_6 := c7_6.other W8 (Ne.symm ne_o0_b3_0)
  have K8 : Keep h0 h8 [o0] := K6.wr W8 (Or.inl (by simp))
  have Z8 : n0 ≤ h8.size := Nat.le_trans Z6 (Keep.of_wr W8).1
  have Fw8 := c7_1.same W8
  refine Go.via st8 ?_
  refine Go.retV X8 hx Bd.notSynchronized Bd.returns (hb hby d3_57) (by decide) (by decide) ?_
  rw [e8]
  exact ⟨b3_0, rfl, N8, K8, sz_b3_0, c9_0, Fw8, c9_2, c9_4, c9_5, c9_6⟩
def Q2n4 (Z : State) (o0 : Addr) (o1 : Addr) (cF : Nat → Int32) (cs : Int32) (h0 : Heap) (n0 : Nat) (v : Option Value) (h : Heap) (L : List Loc) : Prop := ∃ b1_0 : Addr, v = none ∧ Fr n0 L ∧ Keep h0 h [o0] ∧ h0.size ≤ b1_0 ∧ Exa Z h o0 "java/lang/String" ∧ Fld Z h o0 "java/lang/String" "value" "[B" (.ref b1_0) ∧ Fld Z h o0 "java/lang/String" "coder" "B" (.int 0) ∧ AV Z h o1 .char 4 (fun k => .int (cF k)) ∧ Sta Z h "java/lang/String" "COMPACT_STRINGS" "Z" (.int cs) ∧ AV Z h b1_0 .byte 4 (fun k => .int ((up (up (up (up (fun _ => (0 : Int32)) (0 : Int32).toNatClampNeg (nar .byte ((cF (0 : Int32).toNatClampNeg).toInt8.toInt32))) (1 : Int32).toNatClampNeg (nar .byte ((cF (1 : Int32).toNatClampNeg).toInt8.toInt32))) (2 : Int32).toNatClampNeg (nar .byte ((cF (2 : Int32).toNatClampNeg).toInt8.toInt32))) (3 : Int32).toNatClampNeg (nar .byte ((cF (3 : Int32).toNatClampNeg).toInt8.toInt32))) k))
abbrev RM_3_1_4_52 : Room := { frames := 3, cells := 1, slots := 4, locals := 52 }
theorem rm2n4 (l : Launch) (Z : State) (a0 : Array Value) (hw : ∀ d ∈ tables_1, d.before a0 Z = true) (ws : List Jvm.Cond) (o0 : Addr) (o1 : Addr) (cF : Nat → Int32) (cs : Int32) (h0 : Heap) (n0 : Nat) (Z0 : n0 ≤ h0.size) (ha0 : Exa Z h0 o0 "java/lang/String") (ha1 : Fld Z h0 o0 "java/lang/String" "value" "[B" .null) (ha2 : Fld Z h0 o0 "java/lang/String" "coder" "B" (.int 0)) (ha3 : n0 ≤ o0) (ha4 : AV Z h0 o1 .char 4 (fun k => .int (cF k))) (ha5 : Sta Z h0 "java/lang/String" "COMPACT_STRINGS" "Z" (.int cs)) (hne_o1_o0 : o1 ≠ o0) (hch0 : ¬ (255 : Int32) < (cF (0 : Int32).toNatClampNeg)) (hch1 : ¬ (255 : Int32) < (cF (1 : Int32).toNatClampNeg)) (hch2 : ¬ (255 : Int32) < (cF (2 : Int32).toNatClampNeg)) (hch3 : ¬ (255 : Int32) < (cF (3 : Int32).toNatClampNeg)) (hcs : ¬ cs = 0) :
    MetFree l y2 (head1 (Jvm.Cond.code y2 jdk_42_method_3_code 2 none :: ws) RM_3_1_4_52) (fun a U => a = #[(.ref o0), (.ref o1)] ∧ Z.Warmed39 U.vm ∧ U.heap = h0) (fun _ _ _ _ _ => True) (fun _ U o U' => ∃ v L, o = .returned v ∧ Q2n4 Z o0 o1 cF cs h0 n0 v U'.heap L ∧ FrameEnd U o U' L RM_3_1_4_52.cells RM_3_1_4_52.slots) := by
  refine MetFree.of_bodySF (plainFor_of_name pn_0) hisR ?_
  intro p e s m args below meth c s₁ Bd hml0 hP hK
  obtain ⟨rfl, hZ, hh⟩ := hP
  have hx := Bd.exec
  have hby := Bd.bytes
  have hml : c.maxLocals = 2 := hml0
  have hown : s.vm.findClass "java/lang/String" = some m.cls := findClass_of_methodNamed Bd.named
  have X0 : Stand p l e RM_3_1_4_52 s m _ below meth c s₁ [] 0 0 := Stand.of_body Bd
  have e0 : s₁.heap = h0 := by rw [← hh, Bd.state]; rfl
  have N0 := Fr.nil n0
  refine Go.into (P := fun oo uu => ∃ v L, oo = .returned v ∧ Q2n4 Z o0 o1 cF cs h0 n0 v uu.heap L ∧ FrameEnd s oo uu L RM_3_1_4_52.cells RM_3_1_4_52.slots) (ef_2_aa m o0 o1) ?_
  show Go p e below _ (s₁.setTop (mkF m 0 #[sR o0, sR o1] []))
  refine Vi (s₁.setTop (mkF m 6 #[sR o0, sR o1] [.null, (.int 4), (.int 0), (.ref o1), (.ref o0)])) (fun tZ kZ => ?_) ?_
  · refine XS.aloadN X0.here hx rfl (hb hby d2_0) rfl rfl ?_
    refine XS.aloadN X0.here hx rfl (hb hby d2_1) rfl rfl ?_
    refine XS.iconst X0.here hx rfl (hb hby d2_2) ?_
    refine XS.aloadN X0.here hx rfl (hb hby d2_3) rfl rfl ?_
    refine AV.len ha4 X0 hx hZ e0 (hb hby d2_4) ?_
    refine XS.aconstNull X0.here hx rfl (hb hby d2_5) ?_
    exact kZ
  obtain ⟨_, _, ⟨T1, L1, k1, n1⟩, -, X1, ⟨Lc1, hQ1, l1, y1, z1⟩, st1⟩ := X0.specialBack hx (y := y3) rfl hown (mvT hZ (wq hw 21 rfl)) (mvT hZ (wq hw 22 rfl)) (mvT hZ (wq hw 24 rfl)) (by decide) (backOf (W := 0) (rm3n4 l Z a0 hw [] o0 o1 cF cs h0 n0 Z0 ha0 ha1 ha2 ha3 ha4 ha5 hne_o1_o0 hch0 hch1 hch2 hch3 hcs) hZ (wq hw 24 rfl) (wq hw 7 rfl) (by decide) (by decide)) (g := (mkF m 6 #[sR o0, sR o1] [.null, (.int 4), (.int 0), (.ref o1), (.ref o0)])) rfl (by rw [hml]; rfl) (Steps.refl _) (a := o0) (argsL := [(.ref o1), (.int 0), (.int 4), .null]) (rest := []) (lenOf pd_2 rfl) rfl (leW rfl) (hb hby d2_6) (fun _ _ => ⟨rfl, e0, (by decide : 0 + 1 ≤ _), (by decide : 0 + 4 ≤ _)⟩)
  dsimp only [Pt.U, Pt.locs, Pt.cells, Pt.slots] at X1 l1 y1 z1 st1 hQ1
  subst l1 y1 z1
  obtain ⟨b1_0, rfl, N1q, Kq1, hz_b1_0, f1_0, f1_1, f1_2, f1_3, f1_4, f1_5⟩ := hQ1
  have g_b1_0 : n0 ≤ b1_0 := Nat.le_trans Z0 hz_b1_0
  have sz_b1_0 : h0.size ≤ b1_0 := Nat.le_trans ((Keep.refl h0 [o0])).1 hz_b1_0
  have ne_o0_b1_0 : o0 ≠ b1_0 := Nat.ne_of_lt (Nat.lt_of_lt_of_le ha0.lt hz_b1_0)
  have ne_o1_b1_0 : o1 ≠ b1_0 := Nat.ne_of_lt (Nat.lt_of_lt_of_le ha4.lt hz_b1_0)
  have K1 : Keep h0 T1.heap [o0] := (Keep.refl h0 [o0]).trans Kq1 (allS (Or.inl (by simp)) all0)
  have Z1 : n0 ≤ T1.heap.size := Nat.le_trans Z0 Kq1.1
  have N1 := Fr.app N0 N1q
  refine Go.via (fun t k => st1.trans k) ?_
  refine Go.retV X1 hx Bd.notSynchronized Bd.returns (hb hby d2_9) (by decide) (by decide) ?_
  exact ⟨b1_0, rfl, N1, K1, sz_b1_0, f1_0, f1_1, f1_2, f1_3, f1_4, f1_5⟩
theorem d15_0 : decode B15 0 = .ok (.iload_n 1, 1) := by decide +kernel
theorem pd_14 : parseMethodDescriptor "(I)Z" = some ⟨[.int], some .boolean⟩ := by decide +kernel
theorem d15_1 : decode B15 1 = .ok (.invokestatic 88, 3) := by decide +kernel
theorem d15_4 : decode B15 4 = .ok (.ifCond .ne 5, 3) := by decide +kernel
theorem d15_9 : decode B15 9 = .ok (.iload_n 2, 1) := by decide +kernel
theorem d15_10 : decode B15 10 = .ok (.aload_n 0, 1) := by decide +kernel
theorem d15_11 : decode B15 11 = .ok (.arraylength, 1) := by decide +kernel
theorem d15_12 : decode B15 12 = .ok (.iconst 1, 1) := by decide +kernel
theorem d15_13 : decode B15 13 = .ok (.isub, 1) := by decide +kernel
theorem pd_11 : parseMethodDescriptor "(II)I" = some ⟨[.int, .int], some .int⟩ := by decide +kernel
theorem d15_14 : decode B15 14 = .ok (.invokestatic 38, 3) := by decide +kernel
theorem d15_17 : decode B15 17 = .ok (.istore_n 3, 1) := by decide +kernel
theorem d15_18 : decode B15 18 = .ok (.iload_n 3, 1) := by decide +kernel
theorem d15_19 : decode B15 19 = .ok (.ifCond .lt 19, 3) := by decide +kernel
theorem d15_38 : decode B15 38 = .ok (.iconst (-1), 1) := by decide +kernel
theorem d15_39 : decode B15 39 = .ok (.ireturn, 1) := by decide +kernel
def f15n0 (o0 : Addr) (fF : Nat → Int32) : Int32 := (-1 : Int32)
def Q15n0 (o0 : Addr) (fF : Nat → Int32) (h0 : Heap) (n0 : Nat) (v : Option Value) (h : Heap) (L : List Loc) : Prop := v = some (.int (f15n0 o0 fF)) ∧ Fr n0 L ∧ h = h0
theorem ef_15_aaa (m : MethodId) (x0 : Addr) (x1 : Int32) (x2 : Int32) : entryFrame m #[(.ref x0), (.int x1), (.int x2)] 4 = mkF m 0 #[.val (.ref x0), .val (.int x1), .val (.int x2), .unset] [] := by first | (simp [entryFrame, mkF, argsToLocals, Value.category]; done) | rfl
theorem rm15n0 (l : Launch) (Z : State) (a0 : Array Value) (hw : ∀ d ∈ tables_1, d.before a0 Z = true) (ws : List Jvm.Cond) (o0 : Addr) (fF : Nat → Int32) (h0 : Heap) (n0 : Nat) (Z0 : n0 ≤ h0.size) (ha0 : AV Z h0 o0 .byte 0 (fun k => .int (fF k))) :
    MetFree l y15 (head1 (Jvm.Cond.code y15 jdk_43_method_27_code 4 (some .int) :: ws) RM_1_0_0_13) (fun a U => a = #[(.ref o0), (.int 46), (.int (-1))] ∧ Z.Warmed39 U.vm ∧ U.heap = h0) (fun _ _ _ _ _ => True) (fun _ U o U' => ∃ v L, o = .returned v ∧ Q15n0 o0 fF h0 n0 v U'.heap L ∧ FrameEnd U o U' L RM_1_0_0_13.cells RM_1_0_0_13.slots) := by
  refine MetFree.of_bodySF (plainFor_of_name pn_1) hisR ?_
  intro p e s m args below meth c s₁ Bd hml0 hP hK
  obtain ⟨rfl, hZ, hh⟩ := hP
  have hx := Bd.exec
  have hby := Bd.bytes
  have hml : c.maxLocals = 4 := hml0
  have hown : s.vm.findClass "java/lang/StringLatin1" = some m.cls := findClass_of_methodNamed Bd.named
  have X0 : Stand p l e RM_1_0_0_13 s m _ below meth c s₁ [] 0 0 := Stand.of_body Bd
  have e0 : s₁.heap = h0 := by rw [← hh, Bd.state]; rfl
  have N0 := Fr.nil n0
  refine Go.into (P := fun oo uu => ∃ v L, oo = .returned v ∧ Q15n0 o0 fF h0 n0 v uu.heap L ∧ FrameEnd s oo uu L RM_1_0_0_13.cells RM_1_0_0_13.slots) (ef_15_aaa m o0 (46 : Int32) (-1 : Int32)) ?_
  show Go p e below _ (s₁.setTop (mkF m 0 #[sR o0, sI 46, sI (-1), .unset] []))
  refine Vi (s₁.setTop (mkF m 1 #[sR o0, sI 46, sI (-1), .unset] [(.int 46)])) (fun tZ kZ => ?_) ?_
  · refine XS.iloadN X0.here hx rfl (hb hby d15_0) rfl ?_
    exact kZ
  obtain ⟨_, _, ⟨T1, L1, k1, n1⟩, -, X1, ⟨Lc1, hQ1, l1, y1, z1⟩, st1⟩ := Jvm.LawKit.callS X0 hx (y := y16) hown (mvT hZ (wq hw 89 rfl)) (mvT hZ (wq hw 90 rfl)) (mvT hZ (wq hw 87 rfl)) (mvT hZ (wq hw 91 rfl)) (by decide) (backOf (W := 0) (rm16 l Z a0 hw [] (46 : Int32) h0 n0 Z0 ) hZ (wq hw 91 rfl) (wq hw 87 rfl) (by decide) (by decide)) (g := (mkF m 1 #[sR o0, sI 46, sI (-1), .unset] [(.int 46)])) rfl (by rw [hml]; rfl) (argsL := [(.int 46)]) (rest := []) (lenOf pd_14 rfl) rfl (leW rfl) (hb hby d15_1) (fun _ _ => ⟨rfl, e0, (by decide : 0 + 0 ≤ _), (by decide : 0 + 0 ≤ _)⟩)
  dsimp only [Pt.U, Pt.locs, Pt.cells, Pt.slots] at X1 l1 y1 z1 st1 hQ1
  subst l1 y1 z1
  obtain ⟨rfl, N1q, e1⟩ := hQ1
  have hv1 : (f16 (46 : Int32)) = (1 : Int32) := by unfold f16; decide
  rw [hv1] at st1
  have N1 := Fr.app N0 N1q
  refine Go.via st1 ?_
  refine Vi (T1.setTop (mkF m 14 #[sR o0, sI 46, sI (-1), .unset] [(.int (-1)), (.int (-1))])) (fun tZ kZ => ?_) ?_
  · refine XS.ifYes X1.here hx rfl (pc0 := 4) (pc' := 9) rfl (hb hby d15_4) rfl ((if0 _ _).trans (feq (by decide)).2) (by decide) (by decide) ?_
    refine XS.iloadN X1.here hx rfl (hb hby d15_9) rfl ?_
    refine XS.aloadN X1.here hx rfl (hb hby d15_10) rfl rfl ?_
    refine AV.len ha0 X1 hx hZ e1 (hb hby d15_11) ?_
    refine XS.iconst X1.here hx rfl (hb hby d15_12) ?_
    refine XS.isub X1.here hx rfl (hb hby d15_13) rfl ?_
    exact kZ
  obtain ⟨_, _, ⟨T2, L2, k2, n2⟩, -, X2, ⟨Lc2, hQ2, l2, y2, z2⟩, st2⟩ := Jvm.LawKit.callS X1 hx (y := y17) hown (mvT hZ (wq hw 92 rfl)) (mvT hZ (wq hw 93 rfl)) (mvT hZ (wq hw 94 rfl)) (mvT hZ (wq hw 95 rfl)) (by decide) (backOf (W := 0) (rm17 l Z a0 hw [] (-1 : Int32) (-1 : Int32) h0 n0 Z0 ) hZ (wq hw 95 rfl) (wq hw 94 rfl) (by decide) (by decide)) (g := (mkF m 14 #[sR o0, sI 46, sI (-1), .unset] [(.int (-1)), (.int (-1))])) rfl (by rw [hml]; rfl) (argsL := [(.int (-1)), (.int (-1))]) (rest := []) (lenOf pd_11 rfl) rfl (leW rfl) (hb hby d15_14) (fun _ _ => ⟨rfl, e1, (by decide : 0 + 0 + 0 ≤ _), (by decide : 0 + 0 + 0 ≤ _)⟩)
  dsimp only [Pt.U, Pt.locs, Pt.cells, Pt.slots] at X2 l2 y2 z2 st2 hQ2
  subst l2 y2 z2
  obtain ⟨rfl, N2q, e2⟩ := hQ2
  have hv2 : (f17 (-1 : Int32) (-1 : Int32)) = (-1 : Int32) := by unfold f17; decide
  rw [hv2] at st2
  have N2 := Fr.app N1 N2q
  refine Go.via st2 ?_
  refine Vi (T2.setTop (mkF m 39 #[sR o0, sI 46, sI (-1), sI (-1)] [(.int (-1))])) (fun tZ kZ => ?_) ?_
  · refine XS.istoreN X2.here hx rfl (hb hby d15_17) rfl (l' := #[sR o0, sI 46, sI (-1), sI (-1)]) rfl ?_
    refine XS.iloadN X2.here hx rfl (hb hby d15_18) rfl ?_
    refine XS.ifYes X2.here hx rfl (pc0 := 19) (pc' := 38) rfl (hb hby d15_19) rfl ((if0 _ _).trans (tlt (by decide)).1) (by decide) (by decide) ?_
    refine XS.iconst X2.here hx rfl (hb hby d15_38) ?_
    exact kZ
  refine Go.retI X2 hx Bd.notSynchronized Bd.returns (hb hby d15_39) (by decide) (by decide) ?_
  refine ⟨?_, N2, e2⟩
  show some ((.int (-1)) : Value) = some (.int (f15n0 o0 fF))
  rfl
theorem d13_0 : decode B13 0 = .ok (.aload_n 0, 1) := by decide +kernel
theorem d13_1 : decode B13 1 = .ok (.invokevirtual 492, 3) := by decide +kernel
theorem d13_4 : decode B13 4 = .ok (.ifCond .eq 15, 3) := by decide +kernel
theorem d13_7 : decode B13 7 = .ok (.aload_n 0, 1) := by decide +kernel
theorem d13_8 : decode B13 8 = .ok (.getfield 9, 3) := by decide +kernel
theorem d13_11 : decode B13 11 = .ok (.iload_n 1, 1) := by decide +kernel
theorem d13_12 : decode B13 12 = .ok (.iload_n 2, 1) := by decide +kernel
theorem pd_13 : parseMethodDescriptor "([BII)I" = some ⟨[(.array .byte), .int, .int], some .int⟩ := by decide +kernel
theorem d13_13 : decode B13 13 = .ok (.invokestatic 644, 3) := by decide +kernel
theorem d13_16 : decode B13 16 = .ok (.goto 12, 3) := by decide +kernel
theorem d13_28 : decode B13 28 = .ok (.ireturn, 1) := by decide +kernel
def f13n0 (o0 : Addr) (b0 : Addr) (fF : Nat → Int32) (cs : Int32) : Int32 := (f15n0 b0 fF)
def Q13n0 (o0 : Addr) (b0 : Addr) (fF : Nat → Int32) (cs : Int32) (h0 : Heap) (n0 : Nat) (v : Option Value) (h : Heap) (L : List Loc) : Prop := v = some (.int (f13n0 o0 b0 fF cs)) ∧ Fr n0 L ∧ h = h0
abbrev RM_2_0_0_28 : Room := { frames := 2, cells := 0, slots := 0, locals := 28 }
theorem ef_13_aaa (m : MethodId) (x0 : Addr) (x1 : Int32) (x2 : Int32) : entryFrame m #[(.ref x0), (.int x1), (.int x2)] 3 = mkF m 0 #[.val (.ref x0), .val (.int x1), .val (.int x2)] [] := by first | (simp [entryFrame, mkF, argsToLocals, Value.category]; done) | rfl
theorem rm13n0 (l : Launch) (Z : State) (a0 : Array Value) (hw : ∀ d ∈ tables_1, d.before a0 Z = true) (ws : List Jvm.Cond) (o0 : Addr) (b0 : Addr) (fF : Nat → Int32) (cs : Int32) (h0 : Heap) (n0 : Nat) (Z0 : n0 ≤ h0.size) (ha0 : Exa Z h0 o0 "java/lang/String") (ha1 : Fld Z h0 o0 "java/lang/String" "coder" "B" (.int 0)) (ha2 : Fld Z h0 o0 "java/lang/String" "value" "[B" (.ref b0)) (ha3 : AV Z h0 b0 .byte 0 (fun k => .int (fF k))) (ha4 : Sta Z h0 "java/lang/String" "COMPACT_STRINGS" "Z" (.int cs)) (hcs : ¬ cs = 0) :
    MetFree l y13 (head1 (Jvm.Cond.code y13 jdk_42_method_83_code 3 (some .int) :: ws) RM_2_0_0_28) (fun a U => a = #[(.ref o0), (.int 46), (.int (-1))] ∧ Z.Warmed39 U.vm ∧ U.heap = h0) (fun _ _ _ _ _ => True) (fun _ U o U' => ∃ v L, o = .returned v ∧ Q13n0 o0 b0 fF cs h0 n0 v U'.heap L ∧ FrameEnd U o U' L RM_2_0_0_28.cells RM_2_0_0_28.slots) := by
  refine MetFree.of_bodySF (plainFor_of_name pn_0) hisR ?_
  intro p e s m args below meth c s₁ Bd hml0 hP hK
  obtain ⟨rfl, hZ, hh⟩ := hP
  have hx := Bd.exec
  have hby := Bd.bytes
  have hml : c.maxLocals = 3 := hml0
  have hown : s.vm.findClass "java/lang/String" = some m.cls := findClass_of_methodNamed Bd.named
  have X0 : Stand p l e RM_2_0_0_28 s m _ below meth c s₁ [] 0 0 := Stand.of_body Bd
  have e0 : s₁.heap = h0 := by rw [← hh, Bd.state]; rfl
  have N0 := Fr.nil n0
  refine Go.into (P := fun oo uu => ∃ v L, oo = .returned v ∧ Q13n0 o0 b0 fF cs h0 n0 v uu.heap L ∧ FrameEnd s oo uu L RM_2_0_0_28.cells RM_2_0_0_28.slots) (ef_13_aaa m o0 (46 : Int32) (-1 : Int32)) ?_
  show Go p e below _ (s₁.setTop (mkF m 0 #[sR o0, sI 46, sI (-1)] []))
  refine Vi (s₁.setTop (mkF m 1 #[sR o0, sI 46, sI (-1)] [(.ref o0)])) (fun tZ kZ => ?_) ?_
  · refine XS.aloadN X0.here hx rfl (hb hby d13_0) rfl rfl ?_
    exact kZ
  obtain ⟨cq1, kq1, q1a, q1b, q1c⟩ := isOf hZ e0 ha0
  obtain ⟨_, _, ⟨T1, L1, k1, n1⟩, -, X1, ⟨Lc1, hQ1, l1, y1, z1⟩, st1⟩ := X0.virtualBack hx (y := y14) (z := y14) hown (mvT hZ (wq hw 80 rfl)) (mvT hZ (wq hw 81 rfl)) (notFace_of_selects (args := #[]) (mvT hZ (wq hw 83 rfl))) (mvT hZ (wq hw 83 rfl)) (mvT hZ (wq hw 82 rfl)) (by decide) (backOf (W := 0) (rm14 l Z a0 hw [] o0 cs h0 n0 Z0 ha1 ha4 hcs) hZ (wq hw 84 rfl) (wq hw 7 rfl) (by decide) (by decide)) q1a q1c (g := (mkF m 1 #[sR o0, sI 46, sI (-1)] [(.ref o0)])) rfl (by rw [hml]; rfl) (Steps.refl _) (argsL := []) (rest := []) (lenOf pd_12 rfl) rfl (leW rfl) (hb hby d13_1) (fun _ _ => ⟨rfl, e0, (by decide : 0 + 0 ≤ _), (by decide : 0 + 0 ≤ _)⟩)
  dsimp only [Pt.U, Pt.locs, Pt.cells, Pt.slots] at X1 l1 y1 z1 st1 hQ1
  subst l1 y1 z1
  obtain ⟨rfl, N1q, e1⟩ := hQ1
  have hv1 : (f14 o0 cs) = (1 : Int32) := by unfold f14; decide
  rw [hv1] at st1
  have N1 := Fr.app N0 N1q
  refine Go.via (fun t k => st1.trans k) ?_
  refine Vi (T1.setTop (mkF m 8 #[sR o0, sI 46, sI (-1)] [(.ref o0)])) (fun tZ kZ => ?_) ?_
  · refine XS.ifNo X1.here hx rfl (hb hby d13_4) rfl ((if0 _ _).trans (feq (by decide)).1) ?_
    refine XS.aloadN X1.here hx rfl (hb hby d13_7) rfl rfl ?_
    exact kZ
  obtain ⟨T2, X2, e2, st2⟩ := getF X1 hx hZ hown (host := "") (Or.inl (wq hw 29 rfl)) Via.refl e1 ha2 (g := (mkF m 8 #[sR o0, sI 46, sI (-1)] [(.ref o0)])) rfl rfl (hb hby d13_8)
  refine Go.via st2 ?_
  refine Vi (T2.setTop (mkF m 13 #[sR o0, sI 46, sI (-1)] [(.int (-1)), (.int 46), (.ref b0)])) (fun tZ kZ => ?_) ?_
  · refine XS.iloadN X2.here hx rfl (hb hby d13_11) rfl ?_
    refine XS.iloadN X2.here hx rfl (hb hby d13_12) rfl ?_
    exact kZ
  obtain ⟨_, _, ⟨T3, L3, k3, n3⟩, -, X3, ⟨Lc3, hQ3, l3, y3, z3⟩, st3⟩ := Jvm.LawKit.callS X2 hx (y := y15) hown (mvT hZ (wq hw 85 rfl)) (mvT hZ (wq hw 86 rfl)) (mvT hZ (wq hw 87 rfl)) (mvT hZ (wq hw 88 rfl)) (by decide) (backOf (W := 0) (rm15n0 l Z a0 hw [] b0 fF h0 n0 Z0 ha3) hZ (wq hw 88 rfl) (wq hw 87 rfl) (by decide) (by decide)) (g := (mkF m 13 #[sR o0, sI 46, sI (-1)] [(.int (-1)), (.int 46), (.ref b0)])) rfl (by rw [hml]; rfl) (argsL := [(.ref b0), (.int 46), (.int (-1))]) (rest := []) (lenOf pd_13 rfl) rfl (leW rfl) (hb hby d13_13) (fun _ _ => ⟨rfl, e2, (by decide : 0 + 0 + 0 ≤ _), (by decide : 0 + 0 + 0 ≤ _)⟩)
  dsimp only [Pt.U, Pt.locs, Pt.cells, Pt.slots] at X3 l3 y3 z3 st3 hQ3
  subst l3 y3 z3
  obtain ⟨rfl, N3q, e3⟩ := hQ3
  have N3 := Fr.app N1 N3q
  refine Go.via st3 ?_
  refine Vi (T3.setTop (mkF m 28 #[sR o0, sI 46, sI (-1)] [(.int (f15n0 b0 fF))])) (fun tZ kZ => ?_) ?_
  · refine XS.goto X3.here hx rfl (pc0 := 16) (pc' := 28) rfl (hb hby d13_16) (by decide) (by decide) ?_
    exact kZ
  refine Go.retI X3 hx Bd.notSynchronized Bd.returns (hb hby d13_28) (by decide) (by decide) ?_
  refine ⟨?_, N3, e3⟩
  show some ((.int (f15n0 b0 fF)) : Value) = some (.int (f13n0 o0 b0 fF cs))
  rfl
theorem d10_0 : decode B10 0 = .ok (.aload_n 0, 1) := by decide +kernel
theorem d10_1 : decode B10 1 = .ok (.iload_n 1, 1) := by decide +kernel
theorem d10_2 : decode B10 2 = .ok (.aload_n 0, 1) := by decide +kernel
theorem pd_9 : parseMethodDescriptor "()I" = some ⟨[], some .int⟩ := by decide +kernel
theorem d10_3 : decode B10 3 = .ok (.invokevirtual 505, 3) := by decide +kernel
theorem d10_6 : decode B10 6 = .ok (.iconst 1, 1) := by decide +kernel
theorem d10_7 : decode B10 7 = .ok (.isub, 1) := by decide +kernel
theorem d10_8 : decode B10 8 = .ok (.invokevirtual 641, 3) := by decide +kernel
theorem d10_11 : decode B10 11 = .ok (.ireturn, 1) := by decide +kernel
def f10n0 (o0 : Addr) (b0 : Addr) (fF : Nat → Int32) (cs : Int32) : Int32 := (f13n0 o0 b0 fF cs)
def Q10n0 (o0 : Addr) (b0 : Addr) (fF : Nat → Int32) (cs : Int32) (h0 : Heap) (n0 : Nat) (v : Option Value) (h : Heap) (L : List Loc) : Prop := v = some (.int (f10n0 o0 b0 fF cs)) ∧ Fr n0 L ∧ h = h0
abbrev RM_3_0_0_42 : Room := { frames := 3, cells := 0, slots := 0, locals := 42 }
theorem ef_10_aa (m : MethodId) (x0 : Addr) (x1 : Int32) : entryFrame m #[(.ref x0), (.int x1)] 2 = mkF m 0 #[.val (.ref x0), .val (.int x1)] [] := by first | (simp [entryFrame, mkF, argsToLocals, Value.category]; done) | rfl
theorem rm10n0 (l : Launch) (Z : State) (a0 : Array Value) (hw : ∀ d ∈ tables_1, d.before a0 Z = true) (ws : List Jvm.Cond) (o0 : Addr) (b0 : Addr) (fF : Nat → Int32) (cs : Int32) (h0 : Heap) (n0 : Nat) (Z0 : n0 ≤ h0.size) (ha0 : Exa Z h0 o0 "java/lang/String") (ha1 : Fld Z h0 o0 "java/lang/String" "coder" "B" (.int 0)) (ha2 : Fld Z h0 o0 "java/lang/String" "value" "[B" (.ref b0)) (ha3 : AV Z h0 b0 .byte 0 (fun k => .int (fF k))) (ha4 : Sta Z h0 "java/lang/String" "COMPACT_STRINGS" "Z" (.int cs)) (hcs : ¬ cs = 0) :
    MetFree l y10 (head1 (Jvm.Cond.code y10 jdk_42_method_82_code 2 (some .int) :: ws) RM_3_0_0_42) (fun a U => a = #[(.ref o0), (.int 46)] ∧ Z.Warmed39 U.vm ∧ U.heap = h0) (fun _ _ _ _ _ => True) (fun _ U o U' => ∃ v L, o = .returned v ∧ Q10n0 o0 b0 fF cs h0 n0 v U'.heap L ∧ FrameEnd U o U' L RM_3_0_0_42.cells RM_3_0_0_42.slots) := by
  refine MetFree.of_bodySF (plainFor_of_name pn_0) hisR ?_
  intro p e s m args below meth c s₁ Bd hml0 hP hK
  obtain ⟨rfl, hZ, hh⟩ := hP
  have hx := Bd.exec
  have hby := Bd.bytes
  have hml : c.maxLocals = 2 := hml0
  have hown : s.vm.findClass "java/lang/String" = some m.cls := findClass_of_methodNamed Bd.named
  have X0 : Stand p l e RM_3_0_0_42 s m _ below meth c s₁ [] 0 0 := Stand.of_body Bd
  have e0 : s₁.heap = h0 := by rw [← hh, Bd.state]; rfl
  have N0 := Fr.nil n0
  refine Go.into (P := fun oo uu => ∃ v L, oo = .returned v ∧ Q10n0 o0 b0 fF cs h0 n0 v uu.heap L ∧ FrameEnd s oo uu L RM_3_0_0_42.cells RM_3_0_0_42.slots) (ef_10_aa m o0 (46 : Int32)) ?_
  show Go p e below _ (s₁.setTop (mkF m 0 #[sR o0, sI 46] []))
  refine Vi (s₁.setTop (mkF m 3 #[sR o0, sI 46] [(.ref o0), (.int 46), (.ref o0)])) (fun tZ kZ => ?_) ?_
  · refine XS.aloadN X0.here hx rfl (hb hby d10_0) rfl rfl ?_
    refine XS.iloadN X0.here hx rfl (hb hby d10_1) rfl ?_
    refine XS.aloadN X0.here hx rfl (hb hby d10_2) rfl rfl ?_
    exact kZ
  obtain ⟨cq1, kq1, q1a, q1b, q1c⟩ := isOf hZ e0 ha0
  obtain ⟨_, _, ⟨T1, L1, k1, n1⟩, -, X1, ⟨Lc1, hQ1, l1, y1, z1⟩, st1⟩ := X0.virtualBack hx (y := y11) (z := y11) hown (mvT hZ (wq hw 64 rfl)) (mvT hZ (wq hw 65 rfl)) (notFace_of_selects (args := #[]) (mvT hZ (wq hw 67 rfl))) (mvT hZ (wq hw 67 rfl)) (mvT hZ (wq hw 66 rfl)) (by decide) (backOf (W := 2) (rm11 l Z a0 hw [] o0 b0 0 fF cs h0 n0 Z0 ha0 ha1 ha2 ha3 ha4 hcs) hZ (wq hw 68 rfl) (wq hw 7 rfl) (by decide) (by decide)) q1a q1c (g := (mkF m 3 #[sR o0, sI 46] [(.ref o0), (.int 46), (.ref o0)])) rfl (by rw [hml]; rfl) (Steps.refl _) (argsL := []) (rest := [(.int 46), (.ref o0)]) (lenOf pd_9 rfl) rfl (leW rfl) (hb hby d10_3) (fun _ _ => ⟨rfl, e0, (by decide : 0 + 0 ≤ _), (by decide : 0 + 0 ≤ _)⟩)
  dsimp only [Pt.U, Pt.locs, Pt.cells, Pt.slots] at X1 l1 y1 z1 st1 hQ1
  subst l1 y1 z1
  obtain ⟨rfl, N1q, e1⟩ := hQ1
  have hv1 : (f11 o0 b0 0 fF cs) = (Int32.ofNat 0) := by unfold f11; exact own_sh0 _
  rw [hv1] at st1
  have N1 := Fr.app N0 N1q
  refine Go.via (fun t k => st1.trans k) ?_
  refine Vi (T1.setTop (mkF m 8 #[sR o0, sI 46] [(.int (-1)), (.int 46), (.ref o0)])) (fun tZ kZ => ?_) ?_
  · refine XS.iconst X1.here hx rfl (hb hby d10_6) ?_
    refine XS.isub X1.here hx rfl (hb hby d10_7) rfl ?_
    exact kZ
  obtain ⟨cq2, kq2, q2a, q2b, q2c⟩ := isOf hZ e1 ha0
  obtain ⟨_, _, ⟨T2, L2, k2, n2⟩, -, X2, ⟨Lc2, hQ2, l2, y2, z2⟩, st2⟩ := X1.virtualBack hx (y := y13) (z := y13) hown (mvT hZ (wq hw 75 rfl)) (mvT hZ (wq hw 76 rfl)) (notFace_of_selects (args := #[]) (mvT hZ (wq hw 78 rfl))) (mvT hZ (wq hw 78 rfl)) (mvT hZ (wq hw 77 rfl)) (by decide) (backOf (W := 0) (rm13n0 l Z a0 hw [] o0 b0 fF cs h0 n0 Z0 ha0 ha1 ha2 ha3 ha4 hcs) hZ (wq hw 79 rfl) (wq hw 7 rfl) (by decide) (by decide)) q2a q2c (g := (mkF m 8 #[sR o0, sI 46] [(.int (-1)), (.int 46), (.ref o0)])) rfl (by rw [hml]; rfl) (Steps.refl _) (argsL := [(.int 46), (.int (-1))]) (rest := []) (lenOf pd_11 rfl) rfl (leW rfl) (hb hby d10_8) (fun _ _ => ⟨rfl, e1, (by decide : 0 + 0 + 0 ≤ _), (by decide : 0 + 0 + 0 ≤ _)⟩)
  dsimp only [Pt.U, Pt.locs, Pt.cells, Pt.slots] at X2 l2 y2 z2 st2 hQ2
  subst l2 y2 z2
  obtain ⟨rfl, N2q, e2⟩ := hQ2
  have N2 := Fr.app N1 N2q
  refine Go.via (fun t k => st2.trans k) ?_
  refine Go.retI X2 hx Bd.notSynchronized Bd.returns (hb hby d10_11) (by decide) (by decide) ?_
  refine ⟨?_, N2, e2⟩
  show some ((.int (f13n0 o0 b0 fF cs)) : Value) = some (.int (f10n0 o0 b0 fF cs))
  rfl
theorem d15_22 : decode B15 22 = .ok (.aload_n 0, 1) := by decide +kernel
theorem d15_23 : decode B15 23 = .ok (.iload_n 3, 1) := by decide +kernel
theorem d15_24 : decode B15 24 = .ok (.baload, 1) := by decide +kernel
theorem d15_25 : decode B15 25 = .ok (.iload_n 1, 1) := by decide +kernel
theorem d15_26 : decode B15 26 = .ok (.i2b, 1) := by decide +kernel
theorem d15_27 : decode B15 27 = .ok (.if_icmp .ne 5, 3) := by decide +kernel
theorem d15_30 : decode B15 30 = .ok (.iload_n 3, 1) := by decide +kernel
theorem d15_31 : decode B15 31 = .ok (.ireturn, 1) := by decide +kernel
theorem d15_32 : decode B15 32 = .ok (.iinc 3 (-1), 3) := by decide +kernel
theorem d15_35 : decode B15 35 = .ok (.goto (-17), 3) := by decide +kernel
def f15n1 (o0 : Addr) (fF : Nat → Int32) : Int32 := (if (fF (0 : Int32).toNatClampNeg) = ((46 : Int32).toInt8.toInt32) then (0 : Int32) else (-1 : Int32))
def Q15n1 (o0 : Addr) (fF : Nat → Int32) (h0 : Heap) (n0 : Nat) (v : Option Value) (h : Heap) (L : List Loc) : Prop := v = some (.int (f15n1 o0 fF)) ∧ Fr n0 L ∧ h = h0
theorem rm15n1 (l : Launch) (Z : State) (a0 : Array Value) (hw : ∀ d ∈ tables_1, d.before a0 Z = true) (ws : List Jvm.Cond) (o0 : Addr) (fF : Nat → Int32) (h0 : Heap) (n0 : Nat) (Z0 : n0 ≤ h0.size) (ha0 : AV Z h0 o0 .byte 1 (fun k => .int (fF k))) :
    MetFree l y15 (head1 (Jvm.Cond.code y15 jdk_43_method_27_code 4 (some .int) :: ws) RM_1_0_0_13) (fun a U => a = #[(.ref o0), (.int 46), (.int 0)] ∧ Z.Warmed39 U.vm ∧ U.heap = h0) (fun _ _ _ _ _ => True) (fun _ U o U' => ∃ v L, o = .returned v ∧ Q15n1 o0 fF h0 n0 v U'.heap L ∧ FrameEnd U o U' L RM_1_0_0_13.cells RM_1_0_0_13.slots) := by
  refine MetFree.of_bodySF (plainFor_of_name pn_1) hisR ?_
  intro p e s m args below meth c s₁ Bd hml0 hP hK
  obtain ⟨rfl, hZ, hh⟩ := hP
  have hx := Bd.exec
  have hby := Bd.bytes
  have hml : c.maxLocals = 4 := hml0
  have hown : s.vm.findClass "java/lang/StringLatin1" = some m.cls := findClass_of_methodNamed Bd.named
  have X0 : Stand p l e RM_1_0_0_13 s m _ below meth c s₁ [] 0 0 := Stand.of_body Bd
  have e0 : s₁.heap = h0 := by rw [← hh, Bd.state]; rfl
  have N0 := Fr.nil n0
  refine Go.into (P := fun oo uu => ∃ v L, oo = .returned v ∧ Q15n1 o0 fF h0 n0 v uu.heap L ∧ FrameEnd s oo uu L RM_1_0_0_13.cells RM_1_0_0_13.slots) (ef_15_aaa m o0 (46 : Int32) (0 : Int32)) ?_
  show Go p e below _ (s₁.setTop (mkF m 0 #[sR o0, sI 46, sI 0, .unset] []))
  refine Vi (s₁.setTop (mkF m 1 #[sR o0, sI 46, sI 0, .unset] [(.int 46)])) (fun tZ kZ => ?_) ?_
  · refine XS.iloadN X0.here hx rfl (hb hby d15_0) rfl ?_
    exact kZ
  obtain ⟨_, _, ⟨T1, L1, k1, n1⟩, -, X1, ⟨Lc1, hQ1, l1, y1, z1⟩, st1⟩ := Jvm.LawKit.callS X0 hx (y := y16) hown (mvT hZ (wq hw 89 rfl)) (mvT hZ (wq hw 90 rfl)) (mvT hZ (wq hw 87 rfl)) (mvT hZ (wq hw 91 rfl)) (by decide) (backOf (W := 0) (rm16 l Z a0 hw [] (46 : Int32) h0 n0 Z0 ) hZ (wq hw 91 rfl) (wq hw 87 rfl) (by decide) (by decide)) (g := (mkF m 1 #[sR o0, sI 46, sI 0, .unset] [(.int 46)])) rfl (by rw [hml]; rfl) (argsL := [(.int 46)]) (rest := []) (lenOf pd_14 rfl) rfl (leW rfl) (hb hby d15_1) (fun _ _ => ⟨rfl, e0, (by decide : 0 + 0 ≤ _), (by decide : 0 + 0 ≤ _)⟩)
  dsimp only [Pt.U, Pt.locs, Pt.cells, Pt.slots] at X1 l1 y1 z1 st1 hQ1
  subst l1 y1 z1
  obtain ⟨rfl, N1q, e1⟩ := hQ1
  have hv1 : (f16 (46 : Int32)) = (1 : Int32) := by unfold f16; decide
  rw [hv1] at st1
  have N1 := Fr.app N0 N1q
  refine Go.via st1 ?_
  refine Vi (T1.setTop (mkF m 14 #[sR o0, sI 46, sI 0, .unset] [(.int 0), (.int 0)])) (fun tZ kZ => ?_) ?_
  · refine XS.ifYes X1.here hx rfl (pc0 := 4) (pc' := 9) rfl (hb hby d15_4) rfl ((if0 _ _).trans (feq (by decide)).2) (by decide) (by decide) ?_
    refine XS.iloadN X1.here hx rfl (hb hby d15_9) rfl ?_
    refine XS.aloadN X1.here hx rfl (hb hby d15_10) rfl rfl ?_
    refine AV.len ha0 X1 hx hZ e1 (hb hby d15_11) ?_
    refine XS.iconst X1.here hx rfl (hb hby d15_12) ?_
    refine XS.isub X1.here hx rfl (hb hby d15_13) rfl ?_
    exact kZ
  obtain ⟨_, _, ⟨T2, L2, k2, n2⟩, -, X2, ⟨Lc2, hQ2, l2, y2, z2⟩, st2⟩ := Jvm.LawKit.callS X1 hx (y := y17) hown (mvT hZ (wq hw 92 rfl)) (mvT hZ (wq hw 93 rfl)) (mvT hZ (wq hw 94 rfl)) (mvT hZ (wq hw 95 rfl)) (by decide) (backOf (W := 0) (rm17 l Z a0 hw [] (0 : Int32) (0 : Int32) h0 n0 Z0 ) hZ (wq hw 95 rfl) (wq hw 94 rfl) (by decide) (by decide)) (g := (mkF m 14 #[sR o0, sI 46, sI 0, .unset] [(.int 0), (.int 0)])) rfl (by rw [hml]; rfl) (argsL := [(.int 0), (.int 0)]) (rest := []) (lenOf pd_11 rfl) rfl (leW rfl) (hb hby d15_14) (fun _ _ => ⟨rfl, e1, (by decide : 0 + 0 + 0 ≤ _), (by decide : 0 + 0 + 0 ≤ _)⟩)
  dsimp only [Pt.U, Pt.locs, Pt.cells, Pt.slots] at X2 l2 y2 z2 st2 hQ2
  subst l2 y2 z2
  obtain ⟨rfl, N2q, e2⟩ := hQ2
  have hv2 : (f17 (0 : Int32) (0 : Int32)) = (0 : Int32) := by unfold f17; decide
  rw [hv2] at st2
  have N2 := Fr.app N1 N2q
  refine Go.via st2 ?_
  refine Vi (T2.setTop (mkF m 27 #[sR o0, sI 46, sI 0, sI 0] [(.int ((46 : Int32).toInt8.toInt32)), (.int (fF (0 : Int32).toNatClampNeg))])) (fun tZ kZ => ?_) ?_
  · refine XS.istoreN X2.here hx rfl (hb hby d15_17) rfl (l' := #[sR o0, sI 46, sI 0, sI 0]) rfl ?_
    refine XS.iloadN X2.here hx rfl (hb hby d15_18) rfl ?_
    refine XS.ifNo X2.here hx rfl (hb hby d15_19) rfl ((if0 _ _).trans (flt (by decide)).1) ?_
    refine XS.aloadN X2.here hx rfl (hb hby d15_22) rfl rfl ?_
    refine XS.iloadN X2.here hx rfl (hb hby d15_23) rfl ?_
    refine AV.baload ha0 X2 hx hZ e2 (j := (0 : Int32)) (by decide) (hb hby d15_24) ?_
    refine XS.iloadN X2.here hx rfl (hb hby d15_25) rfl ?_
    refine XS.i2b X2.here hx rfl (hb hby d15_26) rfl ?_
    exact kZ
  by_cases hc27 : (fF (0 : Int32).toNatClampNeg) = ((46 : Int32).toInt8.toInt32)
  · refine Vi (T2.setTop (mkF m 30 #[sR o0, sI 46, sI 0, sI 0] [])) (fun tZ kZ => ?_) ?_
    · show Steps p.tables e below (T2.setTop (mkF m 27 #[sR o0, sI 46, sI 0, sI 0] [(.int ((46 : Int32).toInt8.toInt32)), (.int (fF (0 : Int32).toNatClampNeg))])) _
      refine XS.icmpNo X2.here hx rfl (hb hby d15_27) rfl (teq hc27).2 ?_
      exact kZ
    refine Vi (T2.setTop (mkF m 31 #[sR o0, sI 46, sI 0, sI 0] [(.int 0)])) (fun tZ kZ => ?_) ?_
    · refine XS.iloadN X2.here hx rfl (hb hby d15_30) rfl ?_
      exact kZ
    refine Go.retI X2 hx Bd.notSynchronized Bd.returns (hb hby d15_31) (by decide) (by decide) ?_
    refine ⟨?_, N2, e2⟩
    show some ((.int 0) : Value) = some (.int (f15n1 o0 fF))
    unfold f15n1; rw [if_pos hc27] <;> rfl
  · refine Vi (T2.setTop (mkF m 32 #[sR o0, sI 46, sI 0, sI 0] [])) (fun tZ kZ => ?_) ?_
    · show Steps p.tables e below (T2.setTop (mkF m 27 #[sR o0, sI 46, sI 0, sI 0] [(.int ((46 : Int32).toInt8.toInt32)), (.int (fF (0 : Int32).toNatClampNeg))])) _
      refine XS.icmpYes X2.here hx rfl (pc0 := 27) (pc' := 32) rfl (hb hby d15_27) rfl (feq hc27).2 (by decide) (by decide) ?_
      exact kZ
    refine Vi (T2.setTop (mkF m 39 #[sR o0, sI 46, sI 0, sI (-1)] [(.int (-1))])) (fun tZ kZ => ?_) ?_
    · refine XS.iinc X2.here hx rfl (hb hby d15_32) rfl (l' := #[sR o0, sI 46, sI 0, sI (-1)]) rfl ?_
      refine XS.goto X2.here hx rfl (pc0 := 35) (pc' := 18) rfl (hb hby d15_35) (by decide) (by decide) ?_
      refine XS.iloadN X2.here hx rfl (hb hby d15_18) rfl ?_
      refine XS.ifYes X2.here hx rfl (pc0 := 19) (pc' := 38) rfl (hb hby d15_19) rfl ((if0 _ _).trans (tlt (by decide)).1) (by decide) (by decide) ?_
      refine XS.iconst X2.here hx rfl (hb hby d15_38) ?_
      exact kZ
    refine Go.retI X2 hx Bd.notSynchronized Bd.returns (hb hby d15_39) (by decide) (by decide) ?_
    refine ⟨?_, N2, e2⟩
    show some ((.int (-1)) : Value) = some (.int (f15n1 o0 fF))
    unfold f15n1; rw [if_neg hc27] <;> rfl
def f13n1 (o0 : Addr) (b0 : Addr) (fF : Nat → Int32) (cs : Int32) : Int32 := (f15n1 b0 fF)
def Q13n1 (o0 : Addr) (b0 : Addr) (fF : Nat → Int32) (cs : Int32) (h0 : Heap) (n0 : Nat) (v : Option Value) (h : Heap) (L : List Loc) : Prop := v = some (.int (f13n1 o0 b0 fF cs)) ∧ Fr n0 L ∧ h = h0
theorem rm13n1 (l : Launch) (Z : State) (a0 : Array Value) (hw : ∀ d ∈ tables_1, d.before a0 Z = true) (ws : List Jvm.Cond) (o0 : Addr) (b0 : Addr) (fF : Nat → Int32) (cs : Int32) (h0 : Heap) (n0 : Nat) (Z0 : n0 ≤ h0.size) (ha0 : Exa Z h0 o0 "java/lang/String") (ha1 : Fld Z h0 o0 "java/lang/String" "coder" "B" (.int 0)) (ha2 : Fld Z h0 o0 "java/lang/String" "value" "[B" (.ref b0)) (ha3 : AV Z h0 b0 .byte 1 (fun k => .int (fF k))) (ha4 : Sta Z h0 "java/lang/String" "COMPACT_STRINGS" "Z" (.int cs)) (hcs : ¬ cs = 0) :
    MetFree l y13 (head1 (Jvm.Cond.code y13 jdk_42_method_83_code 3 (some .int) :: ws) RM_2_0_0_28) (fun a U => a = #[(.ref o0), (.int 46), (.int 0)] ∧ Z.Warmed39 U.vm ∧ U.heap = h0) (fun _ _ _ _ _ => True) (fun _ U o U' => ∃ v L, o = .returned v ∧ Q13n1 o0 b0 fF cs h0 n0 v U'.heap L ∧ FrameEnd U o U' L RM_2_0_0_28.cells RM_2_0_0_28.slots) := by
  refine MetFree.of_bodySF (plainFor_of_name pn_0) hisR ?_
  intro p e s m args below meth c s₁ Bd hml0 hP hK
  obtain ⟨rfl, hZ, hh⟩ := hP
  have hx := Bd.exec
  have hby := Bd.bytes
  have hml : c.maxLocals = 3 := hml0
  have hown : s.vm.findClass "java/lang/String" = some m.cls := findClass_of_methodNamed Bd.named
  have X0 : Stand p l e RM_2_0_0_28 s m _ below meth c s₁ [] 0 0 := Stand.of_body Bd
  have e0 : s₁.heap = h0 := by rw [← hh, Bd.state]; rfl
  have N0 := Fr.nil n0
  refine Go.into (P := fun oo uu => ∃ v L, oo = .returned v ∧ Q13n1 o0 b0 fF cs h0 n0 v uu.heap L ∧ FrameEnd s oo uu L RM_2_0_0_28.cells RM_2_0_0_28.slots) (ef_13_aaa m o0 (46 : Int32) (0 : Int32)) ?_
  show Go p e below _ (s₁.setTop (mkF m 0 #[sR o0, sI 46, sI 0] []))
  refine Vi (s₁.setTop (mkF m 1 #[sR o0, sI 46, sI 0] [(.ref o0)])) (fun tZ kZ => ?_) ?_
  · refine XS.aloadN X0.here hx rfl (hb hby d13_0) rfl rfl ?_
    exact kZ
  obtain ⟨cq1, kq1, q1a, q1b, q1c⟩ := isOf hZ e0 ha0
  obtain ⟨_, _, ⟨T1, L1, k1, n1⟩, -, X1, ⟨Lc1, hQ1, l1, y1, z1⟩, st1⟩ := X0.virtualBack hx (y := y14) (z := y14) hown (mvT hZ (wq hw 80 rfl)) (mvT hZ (wq hw 81 rfl)) (notFace_of_selects (args := #[]) (mvT hZ (wq hw 83 rfl))) (mvT hZ (wq hw 83 rfl)) (mvT hZ (wq hw 82 rfl)) (by decide) (backOf (W := 0) (rm14 l Z a0 hw [] o0 cs h0 n0 Z0 ha1 ha4 hcs) hZ (wq hw 84 rfl) (wq hw 7 rfl) (by decide) (by decide)) q1a q1c (g := (mkF m 1 #[sR o0, sI 46, sI 0] [(.ref o0)])) rfl (by rw [hml]; rfl) (Steps.refl _) (argsL := []) (rest := []) (lenOf pd_12 rfl) rfl (leW rfl) (hb hby d13_1) (fun _ _ => ⟨rfl, e0, (by decide : 0 + 0 ≤ _), (by decide : 0 + 0 ≤ _)⟩)
  dsimp only [Pt.U, Pt.locs, Pt.cells, Pt.slots] at X1 l1 y1 z1 st1 hQ1
  subst l1 y1 z1
  obtain ⟨rfl, N1q, e1⟩ := hQ1
  have hv1 : (f14 o0 cs) = (1 : Int32) := by unfold f14; decide
  rw [hv1] at st1
  have N1 := Fr.app N0 N1q
  refine Go.via (fun t k => st1.trans k) ?_
  refine Vi (T1.setTop (mkF m 8 #[sR o0, sI 46, sI 0] [(.ref o0)])) (fun tZ kZ => ?_) ?_
  · refine XS.ifNo X1.here hx rfl (hb hby d13_4) rfl ((if0 _ _).trans (feq (by decide)).1) ?_
    refine XS.aloadN X1.here hx rfl (hb hby d13_7) rfl rfl ?_
    exact kZ
  obtain ⟨T2, X2, e2, st2⟩ := getF X1 hx hZ hown (host := "") (Or.inl (wq hw 29 rfl)) Via.refl e1 ha2 (g := (mkF m 8 #[sR o0, sI 46, sI 0] [(.ref o0)])) rfl rfl (hb hby d13_8)
  refine Go.via st2 ?_
  refine Vi (T2.setTop (mkF m 13 #[sR o0, sI 46, sI 0] [(.int 0), (.int 46), (.ref b0)])) (fun tZ kZ => ?_) ?_
  · refine XS.iloadN X2.here hx rfl (hb hby d13_11) rfl ?_
    refine XS.iloadN X2.here hx rfl (hb hby d13_12) rfl ?_
    exact kZ
  obtain ⟨_, _, ⟨T3, L3, k3, n3⟩, -, X3, ⟨Lc3, hQ3, l3, y3, z3⟩, st3⟩ := Jvm.LawKit.callS X2 hx (y := y15) hown (mvT hZ (wq hw 85 rfl)) (mvT hZ (wq hw 86 rfl)) (mvT hZ (wq hw 87 rfl)) (mvT hZ (wq hw 88 rfl)) (by decide) (backOf (W := 0) (rm15n1 l Z a0 hw [] b0 fF h0 n0 Z0 ha3) hZ (wq hw 88 rfl) (wq hw 87 rfl) (by decide) (by decide)) (g := (mkF m 13 #[sR o0, sI 46, sI 0] [(.int 0), (.int 46), (.ref b0)])) rfl (by rw [hml]; rfl) (argsL := [(.ref b0), (.int 46), (.int 0)]) (rest := []) (lenOf pd_13 rfl) rfl (leW rfl) (hb hby d13_13) (fun _ _ => ⟨rfl, e2, (by decide : 0 + 0 + 0 ≤ _), (by decide : 0 + 0 + 0 ≤ _)⟩)
  dsimp only [Pt.U, Pt.locs, Pt.cells, Pt.slots] at X3 l3 y3 z3 st3 hQ3
  subst l3 y3 z3
  obtain ⟨rfl, N3q, e3⟩ := hQ3
  have N3 := Fr.app N1 N3q
  refine Go.via st3 ?_
  refine Vi (T3.setTop (mkF m 28 #[sR o0, sI 46, sI 0] [(.int (f15n1 b0 fF))])) (fun tZ kZ => ?_) ?_
  · refine XS.goto X3.here hx rfl (pc0 := 16) (pc' := 28) rfl (hb hby d13_16) (by decide) (by decide) ?_
    exact kZ
  refine Go.retI X3 hx Bd.notSynchronized Bd.returns (hb hby d13_28) (by decide) (by decide) ?_
  refine ⟨?_, N3, e3⟩
  show some ((.int (f15n1 b0 fF)) : Value) = some (.int (f13n1 o0 b0 fF cs))
  rfl
def f10n1 (o0 : Addr) (b0 : Addr) (fF : Nat → Int32) (cs : Int32) : Int32 := (f13n1 o0 b0 fF cs)
def Q10n1 (o0 : Addr) (b0 : Addr) (fF : Nat → Int32) (cs : Int32) (h0 : Heap) (n0 : Nat) (v : Option Value) (h : Heap) (L : List Loc) : Prop := v = some (.int (f10n1 o0 b0 fF cs)) ∧ Fr n0 L ∧ h = h0
theorem rm10n1 (l : Launch) (Z : State) (a0 : Array Value) (hw : ∀ d ∈ tables_1, d.before a0 Z = true) (ws : List Jvm.Cond) (o0 : Addr) (b0 : Addr) (fF : Nat → Int32) (cs : Int32) (h0 : Heap) (n0 : Nat) (Z0 : n0 ≤ h0.size) (ha0 : Exa Z h0 o0 "java/lang/String") (ha1 : Fld Z h0 o0 "java/lang/String" "coder" "B" (.int 0)) (ha2 : Fld Z h0 o0 "java/lang/String" "value" "[B" (.ref b0)) (ha3 : AV Z h0 b0 .byte 1 (fun k => .int (fF k))) (ha4 : Sta Z h0 "java/lang/String" "COMPACT_STRINGS" "Z" (.int cs)) (hcs : ¬ cs = 0) :
    MetFree l y10 (head1 (Jvm.Cond.code y10 jdk_42_method_82_code 2 (some .int) :: ws) RM_3_0_0_42) (fun a U => a = #[(.ref o0), (.int 46)] ∧ Z.Warmed39 U.vm ∧ U.heap = h0) (fun _ _ _ _ _ => True) (fun _ U o U' => ∃ v L, o = .returned v ∧ Q10n1 o0 b0 fF cs h0 n0 v U'.heap L ∧ FrameEnd U o U' L RM_3_0_0_42.cells RM_3_0_0_42.slots) := by
  refine MetFree.of_bodySF (plainFor_of_name pn_0) hisR ?_
  intro p e s m args below meth c s₁ Bd hml0 hP hK
  obtain ⟨rfl, hZ, hh⟩ := hP
  have hx := Bd.exec
  have hby := Bd.bytes
  have hml : c.maxLocals = 2 := hml0
  have hown : s.vm.findClass "java/lang/String" = some m.cls := findClass_of_methodNamed Bd.named
  have X0 : Stand p l e RM_3_0_0_42 s m _ below meth c s₁ [] 0 0 := Stand.of_body Bd
  have e0 : s₁.heap = h0 := by rw [← hh, Bd.state]; rfl
  have N0 := Fr.nil n0
  refine Go.into (P := fun oo uu => ∃ v L, oo = .returned v ∧ Q10n1 o0 b0 fF cs h0 n0 v uu.heap L ∧ FrameEnd s oo uu L RM_3_0_0_42.cells RM_3_0_0_42.slots) (ef_10_aa m o0 (46 : Int32)) ?_
  show Go p e below _ (s₁.setTop (mkF m 0 #[sR o0, sI 46] []))
  refine Vi (s₁.setTop (mkF m 3 #[sR o0, sI 46] [(.ref o0), (.int 46), (.ref o0)])) (fun tZ kZ => ?_) ?_
  · refine XS.aloadN X0.here hx rfl (hb hby d10_0) rfl rfl ?_
    refine XS.iloadN X0.here hx rfl (hb hby d10_1) rfl ?_
    refine XS.aloadN X0.here hx rfl (hb hby d10_2) rfl rfl ?_
    exact kZ
  obtain ⟨cq1, kq1, q1a, q1b, q1c⟩ := isOf hZ e0 ha0
  obtain ⟨_, _, ⟨T1, L1, k1, n1⟩, -, X1, ⟨Lc1, hQ1, l1, y1, z1⟩, st1⟩ := X0.virtualBack hx (y := y11) (z := y11) hown (mvT hZ (wq hw 64 rfl)) (mvT hZ (wq hw 65 rfl)) (notFace_of_selects (args := #[]) (mvT hZ (wq hw 67 rfl))) (mvT hZ (wq hw 67 rfl)) (mvT hZ (wq hw 66 rfl)) (by decide) (backOf (W := 2) (rm11 l Z a0 hw [] o0 b0 1 fF cs h0 n0 Z0 ha0 ha1 ha2 ha3 ha4 hcs) hZ (wq hw 68 rfl) (wq hw 7 rfl) (by decide) (by decide)) q1a q1c (g := (mkF m 3 #[sR o0, sI 46] [(.ref o0), (.int 46), (.ref o0)])) rfl (by rw [hml]; rfl) (Steps.refl _) (argsL := []) (rest := [(.int 46), (.ref o0)]) (lenOf pd_9 rfl) rfl (leW rfl) (hb hby d10_3) (fun _ _ => ⟨rfl, e0, (by decide : 0 + 0 ≤ _), (by decide : 0 + 0 ≤ _)⟩)
  dsimp only [Pt.U, Pt.locs, Pt.cells, Pt.slots] at X1 l1 y1 z1 st1 hQ1
  subst l1 y1 z1
  obtain ⟨rfl, N1q, e1⟩ := hQ1
  have hv1 : (f11 o0 b0 1 fF cs) = (Int32.ofNat 1) := by unfold f11; exact own_sh0 _
  rw [hv1] at st1
  have N1 := Fr.app N0 N1q
  refine Go.via (fun t k => st1.trans k) ?_
  refine Vi (T1.setTop (mkF m 8 #[sR o0, sI 46] [(.int 0), (.int 46), (.ref o0)])) (fun tZ kZ => ?_) ?_
  · refine XS.iconst X1.here hx rfl (hb hby d10_6) ?_
    refine XS.isub X1.here hx rfl (hb hby d10_7) rfl ?_
    exact kZ
  obtain ⟨cq2, kq2, q2a, q2b, q2c⟩ := isOf hZ e1 ha0
  obtain ⟨_, _, ⟨T2, L2, k2, n2⟩, -, X2, ⟨Lc2, hQ2, l2, y2, z2⟩, st2⟩ := X1.virtualBack hx (y := y13) (z := y13) hown (mvT hZ (wq hw 75 rfl)) (mvT hZ (wq hw 76 rfl)) (notFace_of_selects (args := #[]) (mvT hZ (wq hw 78 rfl))) (mvT hZ (wq hw 78 rfl)) (mvT hZ (wq hw 77 rfl)) (by decide) (backOf (W := 0) (rm13n1 l Z a0 hw [] o0 b0 fF cs h0 n0 Z0 ha0 ha1 ha2 ha3 ha4 hcs) hZ (wq hw 79 rfl) (wq hw 7 rfl) (by decide) (by decide)) q2a q2c (g := (mkF m 8 #[sR o0, sI 46] [(.int 0), (.int 46), (.ref o0)])) rfl (by rw [hml]; rfl) (Steps.refl _) (argsL := [(.int 46), (.int 0)]) (rest := []) (lenOf pd_11 rfl) rfl (leW rfl) (hb hby d10_8) (fun _ _ => ⟨rfl, e1, (by decide : 0 + 0 + 0 ≤ _), (by decide : 0 + 0 + 0 ≤ _)⟩)
  dsimp only [Pt.U, Pt.locs, Pt.cells, Pt.slots] at X2 l2 y2 z2 st2 hQ2
  subst l2 y2 z2
  obtain ⟨rfl, N2q, e2⟩ := hQ2
  have N2 := Fr.app N1 N2q
  refine Go.via (fun t k => st2.trans k) ?_
  refine Go.retI X2 hx Bd.notSynchronized Bd.returns (hb hby d10_11) (by decide) (by decide) ?_
  refine ⟨?_, N2, e2⟩
  show some ((.int (f13n1 o0 b0 fF cs)) : Value) = some (.int (f10n1 o0 b0 fF cs))
  rfl
def f15n2 (o0 : Addr) (fF : Nat → Int32) : Int32 := (if (fF (1 : Int32).toNatClampNeg) = ((46 : Int32).toInt8.toInt32) then (1 : Int32) else (if (fF (0 : Int32).toNatClampNeg) = ((46 : Int32).toInt8.toInt32) then (0 : Int32) else (-1 : Int32)))
def Q15n2 (o0 : Addr) (fF : Nat → Int32) (h0 : Heap) (n0 : Nat) (v : Option Value) (h : Heap) (L : List Loc) : Prop := v = some (.int (f15n2 o0 fF)) ∧ Fr n0 L ∧ h = h0
theorem rm15n2 (l : Launch) (Z : State) (a0 : Array Value) (hw : ∀ d ∈ tables_1, d.before a0 Z = true) (ws : List Jvm.Cond) (o0 : Addr) (fF : Nat → Int32) (h0 : Heap) (n0 : Nat) (Z0 : n0 ≤ h0.size) (ha0 : AV Z h0 o0 .byte 2 (fun k => .int (fF k))) :
    MetFree l y15 (head1 (Jvm.Cond.code y15 jdk_43_method_27_code 4 (some .int) :: ws) RM_1_0_0_13) (fun a U => a = #[(.ref o0), (.int 46), (.int 1)] ∧ Z.Warmed39 U.vm ∧ U.heap = h0) (fun _ _ _ _ _ => True) (fun _ U o U' => ∃ v L, o = .returned v ∧ Q15n2 o0 fF h0 n0 v U'.heap L ∧ FrameEnd U o U' L RM_1_0_0_13.cells RM_1_0_0_13.slots) := by
  refine MetFree.of_bodySF (plainFor_of_name pn_1) hisR ?_
  intro p e s m args below meth c s₁ Bd hml0 hP hK
  obtain ⟨rfl, hZ, hh⟩ := hP
  have hx := Bd.exec
  have hby := Bd.bytes
  have hml : c.maxLocals = 4 := hml0
  have hown : s.vm.findClass "java/lang/StringLatin1" = some m.cls := findClass_of_methodNamed Bd.named
  have X0 : Stand p l e RM_1_0_0_13 s m _ below meth c s₁ [] 0 0 := Stand.of_body Bd
  have e0 : s₁.heap = h0 := by rw [← hh, Bd.state]; rfl
  have N0 := Fr.nil n0
  refine Go.into (P := fun oo uu => ∃ v L, oo = .returned v ∧ Q15n2 o0 fF h0 n0 v uu.heap L ∧ FrameEnd s oo uu L RM_1_0_0_13.cells RM_1_0_0_13.slots) (ef_15_aaa m o0 (46 : Int32) (1 : Int32)) ?_
  show Go p e below _ (s₁.setTop (mkF m 0 #[sR o0, sI 46, sI 1, .unset] []))
  refine Vi (s₁.setTop (mkF m 1 #[sR o0, sI 46, sI 1, .unset] [(.int 46)])) (fun tZ kZ => ?_) ?_
  · refine XS.iloadN X0.here hx rfl (hb hby d15_0) rfl ?_
    exact kZ
  obtain ⟨_, _, ⟨T1, L1, k1, n1⟩, -, X1, ⟨Lc1, hQ1, l1, y1, z1⟩, st1⟩ := Jvm.LawKit.callS X0 hx (y := y16) hown (mvT hZ (wq hw 89 rfl)) (mvT hZ (wq hw 90 rfl)) (mvT hZ (wq hw 87 rfl)) (mvT hZ (wq hw 91 rfl)) (by decide) (backOf (W := 0) (rm16 l Z a0 hw [] (46 : Int32) h0 n0 Z0 ) hZ (wq hw 91 rfl) (wq hw 87 rfl) (by decide) (by decide)) (g := (mkF m 1 #[sR o0, sI 46, sI 1, .unset] [(.int 46)])) rfl (by rw [hml]; rfl) (argsL := [(.int 46)]) (rest := []) (lenOf pd_14 rfl) rfl (leW rfl) (hb hby d15_1) (fun _ _ => ⟨rfl, e0, (by decide : 0 + 0 ≤ _), (by decide : 0 + 0 ≤ _)⟩)
  dsimp only [Pt.U, Pt.locs, Pt.cells, Pt.slots] at X1 l1 y1 z1 st1 hQ1
  subst l1 y1 z1
  obtain ⟨rfl, N1q, e1⟩ := hQ1
  have hv1 : (f16 (46 : Int32)) = (1 : Int32) := by unfold f16; decide
  rw [hv1] at st1
  have N1 := Fr.app N0 N1q
  refine Go.via st1 ?_
  refine Vi (T1.setTop (mkF m 14 #[sR o0, sI 46, sI 1, .unset] [(.int 1), (.int 1)])) (fun tZ kZ => ?_) ?_
  · refine XS.ifYes X1.here hx rfl (pc0 := 4) (pc' := 9) rfl (hb hby d15_4) rfl ((if0 _ _).trans (feq (by decide)).2) (by decide) (by decide) ?_
    refine XS.iloadN X1.here hx rfl (hb hby d15_9) rfl ?_
    refine XS.aloadN X1.here hx rfl (hb hby d15_10) rfl rfl ?_
    refine AV.len ha0 X1 hx hZ e1 (hb hby d15_11) ?_
    refine XS.iconst X1.here hx rfl (hb hby d15_12) ?_
    refine XS.isub X1.here hx rfl (hb hby d15_13) rfl ?_
    exact kZ
  obtain ⟨_, _, ⟨T2, L2, k2, n2⟩, -, X2, ⟨Lc2, hQ2, l2, y2, z2⟩, st2⟩ := Jvm.LawKit.callS X1 hx (y := y17) hown (mvT hZ (wq hw 92 rfl)) (mvT hZ (wq hw 93 rfl)) (mvT hZ (wq hw 94 rfl)) (mvT hZ (wq hw 95 rfl)) (by decide) (backOf (W := 0) (rm17 l Z a0 hw [] (1 : Int32) (1 : Int32) h0 n0 Z0 ) hZ (wq hw 95 rfl) (wq hw 94 rfl) (by decide) (by decide)) (g := (mkF m 14 #[sR o0, sI 46, sI 1, .unset] [(.int 1), (.int 1)])) rfl (by rw [hml]; rfl) (argsL := [(.int 1), (.int 1)]) (rest := []) (lenOf pd_11 rfl) rfl (leW rfl) (hb hby d15_14) (fun _ _ => ⟨rfl, e1, (by decide : 0 + 0 + 0 ≤ _), (by decide : 0 + 0 + 0 ≤ _)⟩)
  dsimp only [Pt.U, Pt.locs, Pt.cells, Pt.slots] at X2 l2 y2 z2 st2 hQ2
  subst l2 y2 z2
  obtain ⟨rfl, N2q, e2⟩ := hQ2
  have hv2 : (f17 (1 : Int32) (1 : Int32)) = (1 : Int32) := by unfold f17; decide
  rw [hv2] at st2
  have N2 := Fr.app N1 N2q
  refine Go.via st2 ?_
  refine Vi (T2.setTop (mkF m 27 #[sR o0, sI 46, sI 1, sI 1] [(.int ((46 : Int32).toInt8.toInt32)), (.int (fF (1 : Int32).toNatClampNeg))])) (fun tZ kZ => ?_) ?_
  · refine XS.istoreN X2.here hx rfl (hb hby d15_17) rfl (l' := #[sR o0, sI 46, sI 1, sI 1]) rfl ?_
    refine XS.iloadN X2.here hx rfl (hb hby d15_18) rfl ?_
    refine XS.ifNo X2.here hx rfl (hb hby d15_19) rfl ((if0 _ _).trans (flt (by decide)).1) ?_
    refine XS.aloadN X2.here hx rfl (hb hby d15_22) rfl rfl ?_
    refine XS.iloadN X2.here hx rfl (hb hby d15_23) rfl ?_
    refine AV.baload ha0 X2 hx hZ e2 (j := (1 : Int32)) (by decide) (hb hby d15_24) ?_
    refine XS.iloadN X2.here hx rfl (hb hby d15_25) rfl ?_
    refine XS.i2b X2.here hx rfl (hb hby d15_26) rfl ?_
    exact kZ
  by_cases hc27 : (fF (1 : Int32).toNatClampNeg) = ((46 : Int32).toInt8.toInt32)
  · refine Vi (T2.setTop (mkF m 30 #[sR o0, sI 46, sI 1, sI 1] [])) (fun tZ kZ => ?_) ?_
    · show Steps p.tables e below (T2.setTop (mkF m 27 #[sR o0, sI 46, sI 1, sI 1] [(.int ((46 : Int32).toInt8.toInt32)), (.int (fF (1 : Int32).toNatClampNeg))])) _
      refine XS.icmpNo X2.here hx rfl (hb hby d15_27) rfl (teq hc27).2 ?_
      exact kZ
    refine Vi (T2.setTop (mkF m 31 #[sR o0, sI 46, sI 1, sI 1] [(.int 1)])) (fun tZ kZ => ?_) ?_
    · refine XS.iloadN X2.here hx rfl (hb hby d15_30) rfl ?_
      exact kZ
    refine Go.retI X2 hx Bd.notSynchronized Bd.returns (hb hby d15_31) (by decide) (by decide) ?_
    refine ⟨?_, N2, e2⟩
    show some ((.int 1) : Value) = some (.int (f15n2 o0 fF))
    unfold f15n2; rw [if_pos hc27] <;> rfl
  · refine Vi (T2.setTop (mkF m 32 #[sR o0, sI 46, sI 1, sI 1] [])) (fun tZ kZ => ?_) ?_
    · show Steps p.tables e below (T2.setTop (mkF m 27 #[sR o0, sI 46, sI 1, sI 1] [(.int ((46 : Int32).toInt8.toInt32)), (.int (fF (1 : Int32).toNatClampNeg))])) _
      refine XS.icmpYes X2.here hx rfl (pc0 := 27) (pc' := 32) rfl (hb hby d15_27) rfl (feq hc27).2 (by decide) (by decide) ?_
      exact kZ
    refine Vi (T2.setTop (mkF m 27 #[sR o0, sI 46, sI 1, sI 0] [(.int ((46 : Int32).toInt8.toInt32)), (.int (fF (0 : Int32).toNatClampNeg))])) (fun tZ kZ => ?_) ?_
    · refine XS.iinc X2.here hx rfl (hb hby d15_32) rfl (l' := #[sR o0, sI 46, sI 1, sI 0]) rfl ?_
      refine XS.goto X2.here hx rfl (pc0 := 35) (pc' := 18) rfl (hb hby d15_35) (by decide) (by decide) ?_
      refine XS.iloadN X2.here hx rfl (hb hby d15_18) rfl ?_
      refine XS.ifNo X2.here hx rfl (hb hby d15_19) rfl ((if0 _ _).trans (flt (by decide)).1) ?_
      refine XS.aloadN X2.here hx rfl (hb hby d15_22) rfl rfl ?_
      refine XS.iloadN X2.here hx rfl (hb hby d15_23) rfl ?_
      refine AV.baload ha0 X2 hx hZ e2 (j := (0 : Int32)) (by decide) (hb hby d15_24) ?_
      refine XS.iloadN X2.here hx rfl (hb hby d15_25) rfl ?_
      refine XS.i2b X2.here hx rfl (hb hby d15_26) rfl ?_
      exact kZ
    by_cases hc27_1 : (fF (0 : Int32).toNatClampNeg) = ((46 : Int32).toInt8.toInt32)
    · refine Vi (T2.setTop (mkF m 30 #[sR o0, sI 46, sI 1, sI 0] [])) (fun tZ kZ => ?_) ?_
      · show Steps p.tables e below (T2.setTop (mkF m 27 #[sR o0, sI 46, sI 1, sI 0] [(.int ((46 : Int32).toInt8.toInt32)), (.int (fF (0 : Int32).toNatClampNeg))])) _
        refine XS.icmpNo X2.here hx rfl (hb hby d15_27) rfl (teq hc27_1).2 ?_
        exact kZ
      refine Vi (T2.setTop (mkF m 31 #[sR o0, sI 46, sI 1, sI 0] [(.int 0)])) (fun tZ kZ => ?_) ?_
      · refine XS.iloadN X2.here hx rfl (hb hby d15_30) rfl ?_
        exact kZ
      refine Go.retI X2 hx Bd.notSynchronized Bd.returns (hb hby d15_31) (by decide) (by decide) ?_
      refine ⟨?_, N2, e2⟩
      show some ((.int 0) : Value) = some (.int (f15n2 o0 fF))
      unfold f15n2; rw [if_neg hc27, if_pos hc27_1] <;> rfl
    · refine Vi (T2.setTop (mkF m 32 #[sR o0, sI 46, sI 1, sI 0] [])) (fun tZ kZ => ?_) ?_
      · show Steps p.tables e below (T2.setTop (mkF m 27 #[sR o0, sI 46, sI 1, sI 0] [(.int ((46 : Int32).toInt8.toInt32)), (.int (fF (0 : Int32).toNatClampNeg))])) _
        refine XS.icmpYes X2.here hx rfl (pc0 := 27) (pc' := 32) rfl (hb hby d15_27) rfl (feq hc27_1).2 (by decide) (by decide) ?_
        exact kZ
      refine Vi (T2.setTop (mkF m 39 #[sR o0, sI 46, sI 1, sI (-1)] [(.int (-1))])) (fun tZ kZ => ?_) ?_
      · refine XS.iinc X2.here hx rfl (hb hby d15_32) rfl (l' := #[sR o0, sI 46, sI 1, sI (-1)]) rfl ?_
        refine XS.goto X2.here hx rfl (pc0 := 35) (pc' := 18) rfl (hb hby d15_35) (by decide) (by decide) ?_
        refine XS.iloadN X2.here hx rfl (hb hby d15_18) rfl ?_
        refine XS.ifYes X2.here hx rfl (pc0 := 19) (pc' := 38) rfl (hb hby d15_19) rfl ((if0 _ _).trans (tlt (by decide)).1) (by decide) (by decide) ?_
        refine XS.iconst X2.here hx rfl (hb hby d15_38) ?_
        exact kZ
      refine Go.retI X2 hx Bd.notSynchronized Bd.returns (hb hby d15_39) (by decide) (by decide) ?_
      refine ⟨?_, N2, e2⟩
      show some ((.int (-1)) : Value) = some (.int (f15n2 o0 fF))
      unfold f15n2; rw [if_neg hc27, if_neg hc27_1] <;> rfl
def f13n2 (o0 : Addr) (b0 : Addr) (fF : Nat → Int32) (cs : Int32) : Int32 := (f15n2 b0 fF)
def Q13n2 (o0 : Addr) (b0 : Addr) (fF : Nat → Int32) (cs : Int32) (h0 : Heap) (n0 : Nat) (v : Option Value) (h : Heap) (L : List Loc) : Prop := v = some (.int (f13n2 o0 b0 fF cs)) ∧ Fr n0 L ∧ h = h0
theorem rm13n2 (l : Launch) (Z : State) (a0 : Array Value) (hw : ∀ d ∈ tables_1, d.before a0 Z = true) (ws : List Jvm.Cond) (o0 : Addr) (b0 : Addr) (fF : Nat → Int32) (cs : Int32) (h0 : Heap) (n0 : Nat) (Z0 : n0 ≤ h0.size) (ha0 : Exa Z h0 o0 "java/lang/String") (ha1 : Fld Z h0 o0 "java/lang/String" "coder" "B" (.int 0)) (ha2 : Fld Z h0 o0 "java/lang/String" "value" "[B" (.ref b0)) (ha3 : AV Z h0 b0 .byte 2 (fun k => .int (fF k))) (ha4 : Sta Z h0 "java/lang/String" "COMPACT_STRINGS" "Z" (.int cs)) (hcs : ¬ cs = 0) :
    MetFree l y13 (head1 (Jvm.Cond.code y13 jdk_42_method_83_code 3 (some .int) :: ws) RM_2_0_0_28) (fun a U => a = #[(.ref o0), (.int 46), (.int 1)] ∧ Z.Warmed39 U.vm ∧ U.heap = h0) (fun _ _ _ _ _ => True) (fun _ U o U' => ∃ v L, o = .returned v ∧ Q13n2 o0 b0 fF cs h0 n0 v U'.heap L ∧ FrameEnd U o U' L RM_2_0_0_28.cells RM_2_0_0_28.slots) := by
  refine MetFree.of_bodySF (plainFor_of_name pn_0) hisR ?_
  intro p e s m args below meth c s₁ Bd hml0 hP hK
  obtain ⟨rfl, hZ, hh⟩ := hP
  have hx := Bd.exec
  have hby := Bd.bytes
  have hml : c.maxLocals = 3 := hml0
  have hown : s.vm.findClass "java/lang/String" = some m.cls := findClass_of_methodNamed Bd.named
  have X0 : Stand p l e RM_2_0_0_28 s m _ below meth c s₁ [] 0 0 := Stand.of_body Bd
  have e0 : s₁.heap = h0 := by rw [← hh, Bd.state]; rfl
  have N0 := Fr.nil n0
  refine Go.into (P := fun oo uu => ∃ v L, oo = .returned v ∧ Q13n2 o0 b0 fF cs h0 n0 v uu.heap L ∧ FrameEnd s oo uu L RM_2_0_0_28.cells RM_2_0_0_28.slots) (ef_13_aaa m o0 (46 : Int32) (1 : Int32)) ?_
  show Go p e below _ (s₁.setTop (mkF m 0 #[sR o0, sI 46, sI 1] []))
  refine Vi (s₁.setTop (mkF m 1 #[sR o0, sI 46, sI 1] [(.ref o0)])) (fun tZ kZ => ?_) ?_
  · refine XS.aloadN X0.here hx rfl (hb hby d13_0) rfl rfl ?_
    exact kZ
  obtain ⟨cq1, kq1, q1a, q1b, q1c⟩ := isOf hZ e0 ha0
  obtain ⟨_, _, ⟨T1, L1, k1, n1⟩, -, X1, ⟨Lc1, hQ1, l1, y1, z1⟩, st1⟩ := X0.virtualBack hx (y := y14) (z := y14) hown (mvT hZ (wq hw 80 rfl)) (mvT hZ (wq hw 81 rfl)) (notFace_of_selects (args := #[]) (mvT hZ (wq hw 83 rfl))) (mvT hZ (wq hw 83 rfl)) (mvT hZ (wq hw 82 rfl)) (by decide) (backOf (W := 0) (rm14 l Z a0 hw [] o0 cs h0 n0 Z0 ha1 ha4 hcs) hZ (wq hw 84 rfl) (wq hw 7 rfl) (by decide) (by decide)) q1a q1c (g := (mkF m 1 #[sR o0, sI 46, sI 1] [(.ref o0)])) rfl (by rw [hml]; rfl) (Steps.refl _) (argsL := []) (rest := []) (lenOf pd_12 rfl) rfl (leW rfl) (hb hby d13_1) (fun _ _ => ⟨rfl, e0, (by decide : 0 + 0 ≤ _), (by decide : 0 + 0 ≤ _)⟩)
  dsimp only [Pt.U, Pt.locs, Pt.cells, Pt.slots] at X1 l1 y1 z1 st1 hQ1
  subst l1 y1 z1
  obtain ⟨rfl, N1q, e1⟩ := hQ1
  have hv1 : (f14 o0 cs) = (1 : Int32) := by unfold f14; decide
  rw [hv1] at st1
  have N1 := Fr.app N0 N1q
  refine Go.via (fun t k => st1.trans k) ?_
  refine Vi (T1.setTop (mkF m 8 #[sR o0, sI 46, sI 1] [(.ref o0)])) (fun tZ kZ => ?_) ?_
  · refine XS.ifNo X1.here hx rfl (hb hby d13_4) rfl ((if0 _ _).trans (feq (by decide)).1) ?_
    refine XS.aloadN X1.here hx rfl (hb hby d13_7) rfl rfl ?_
    exact kZ
  obtain ⟨T2, X2, e2, st2⟩ := getF X1 hx hZ hown (host := "") (Or.inl (wq hw 29 rfl)) Via.refl e1 ha2 (g := (mkF m 8 #[sR o0, sI 46, sI 1] [(.ref o0)])) rfl rfl (hb hby d13_8)
  refine Go.via st2 ?_
  refine Vi (T2.setTop (mkF m 13 #[sR o0, sI 46, sI 1] [(.int 1), (.int 46), (.ref b0)])) (fun tZ kZ => ?_) ?_
  · refine XS.iloadN X2.here hx rfl (hb hby d13_11) rfl ?_
    refine XS.iloadN X2.here hx rfl (hb hby d13_12) rfl ?_
    exact kZ
  obtain ⟨_, _, ⟨T3, L3, k3, n3⟩, -, X3, ⟨Lc3, hQ3, l3, y3, z3⟩, st3⟩ := Jvm.LawKit.callS X2 hx (y := y15) hown (mvT hZ (wq hw 85 rfl)) (mvT hZ (wq hw 86 rfl)) (mvT hZ (wq hw 87 rfl)) (mvT hZ (wq hw 88 rfl)) (by decide) (backOf (W := 0) (rm15n2 l Z a0 hw [] b0 fF h0 n0 Z0 ha3) hZ (wq hw 88 rfl) (wq hw 87 rfl) (by decide) (by decide)) (g := (mkF m 13 #[sR o0, sI 46, sI 1] [(.int 1), (.int 46), (.ref b0)])) rfl (by rw [hml]; rfl) (argsL := [(.ref b0), (.int 46), (.int 1)]) (rest := []) (lenOf pd_13 rfl) rfl (leW rfl) (hb hby d13_13) (fun _ _ => ⟨rfl, e2, (by decide : 0 + 0 + 0 ≤ _), (by decide : 0 + 0 + 0 ≤ _)⟩)
  dsimp only [Pt.U, Pt.locs, Pt.cells, Pt.slots] at X3 l3 y3 z3 st3 hQ3
  subst l3 y3 z3
  obtain ⟨rfl, N3q, e3⟩ := hQ3
  have N3 := Fr.app N1 N3q
  refine Go.via st3 ?_
  refine Vi (T3.setTop (mkF m 28 #[sR o0, sI 46, sI 1] [(.int (f15n2 b0 fF))])) (fun tZ kZ => ?_) ?_
  · refine XS.goto X3.here hx rfl (pc0 := 16) (pc' := 28) rfl (hb hby d13_16) (by decide) (by decide) ?_
    exact kZ
  refine Go.retI X3 hx Bd.notSynchronized Bd.returns (hb hby d13_28) (by decide) (by decide) ?_
  refine ⟨?_, N3, e3⟩
  show some ((.int (f15n2 b0 fF)) : Value) = some (.int (f13n2 o0 b0 fF cs))
  rfl
def f10n2 (o0 : Addr) (b0 : Addr) (fF : Nat → Int32) (cs : Int32) : Int32 := (f13n2 o0 b0 fF cs)
def Q10n2 (o0 : Addr) (b0 : Addr) (fF : Nat → Int32) (cs : Int32) (h0 : Heap) (n0 : Nat) (v : Option Value) (h : Heap) (L : List Loc) : Prop := v = some (.int (f10n2 o0 b0 fF cs)) ∧ Fr n0 L ∧ h = h0
theorem rm10n2 (l : Launch) (Z : State) (a0 : Array Value) (hw : ∀ d ∈ tables_1, d.before a0 Z = true) (ws : List Jvm.Cond) (o0 : Addr) (b0 : Addr) (fF : Nat → Int32) (cs : Int32) (h0 : Heap) (n0 : Nat) (Z0 : n0 ≤ h0.size) (ha0 : Exa Z h0 o0 "java/lang/String") (ha1 : Fld Z h0 o0 "java/lang/String" "coder" "B" (.int 0)) (ha2 : Fld Z h0 o0 "java/lang/String" "value" "[B" (.ref b0)) (ha3 : AV Z h0 b0 .byte 2 (fun k => .int (fF k))) (ha4 : Sta Z h0 "java/lang/String" "COMPACT_STRINGS" "Z" (.int cs)) (hcs : ¬ cs = 0) :
    MetFree l y10 (head1 (Jvm.Cond.code y10 jdk_42_method_82_code 2 (some .int) :: ws) RM_3_0_0_42) (fun a U => a = #[(.ref o0), (.int 46)] ∧ Z.Warmed39 U.vm ∧ U.heap = h0) (fun _ _ _ _ _ => True) (fun _ U o U' => ∃ v L, o = .returned v ∧ Q10n2 o0 b0 fF cs h0 n0 v U'.heap L ∧ FrameEnd U o U' L RM_3_0_0_42.cells RM_3_0_0_42.slots) := by
  refine MetFree.of_bodySF (plainFor_of_name pn_0) hisR ?_
  intro p e s m args below meth c s₁ Bd hml0 hP hK
  obtain ⟨rfl, hZ, hh⟩ := hP
  have hx := Bd.exec
  have hby := Bd.bytes
  have hml : c.maxLocals = 2 := hml0
  have hown : s.vm.findClass "java/lang/String" = some m.cls := findClass_of_methodNamed Bd.named
  have X0 : Stand p l e RM_3_0_0_42 s m _ below meth c s₁ [] 0 0 := Stand.of_body Bd
  have e0 : s₁.heap = h0 := by rw [← hh, Bd.state]; rfl
  have N0 := Fr.nil n0
  refine Go.into (P := fun oo uu => ∃ v L, oo = .returned v ∧ Q10n2 o0 b0 fF cs h0 n0 v uu.heap L ∧ FrameEnd s oo uu L RM_3_0_0_42.cells RM_3_0_0_42.slots) (ef_10_aa m o0 (46 : Int32)) ?_
  show Go p e below _ (s₁.setTop (mkF m 0 #[sR o0, sI 46] []))
  refine Vi (s₁.setTop (mkF m 3 #[sR o0, sI 46] [(.ref o0), (.int 46), (.ref o0)])) (fun tZ kZ => ?_) ?_
  · refine XS.aloadN X0.here hx rfl (hb hby d10_0) rfl rfl ?_
    refine XS.iloadN X0.here hx rfl (hb hby d10_1) rfl ?_
    refine XS.aloadN X0.here hx rfl (hb hby d10_2) rfl rfl ?_
    exact kZ
  obtain ⟨cq1, kq1, q1a, q1b, q1c⟩ := isOf hZ e0 ha0
  obtain ⟨_, _, ⟨T1, L1, k1, n1⟩, -, X1, ⟨Lc1, hQ1, l1, y1, z1⟩, st1⟩ := X0.virtualBack hx (y := y11) (z := y11) hown (mvT hZ (wq hw 64 rfl)) (mvT hZ (wq hw 65 rfl)) (notFace_of_selects (args := #[]) (mvT hZ (wq hw 67 rfl))) (mvT hZ (wq hw 67 rfl)) (mvT hZ (wq hw 66 rfl)) (by decide) (backOf (W := 2) (rm11 l Z a0 hw [] o0 b0 2 fF cs h0 n0 Z0 ha0 ha1 ha2 ha3 ha4 hcs) hZ (wq hw 68 rfl) (wq hw 7 rfl) (by decide) (by decide)) q1a q1c (g := (mkF m 3 #[sR o0, sI 46] [(.ref o0), (.int 46), (.ref o0)])) rfl (by rw [hml]; rfl) (Steps.refl _) (argsL := []) (rest := [(.int 46), (.ref o0)]) (lenOf pd_9 rfl) rfl (leW rfl) (hb hby d10_3) (fun _ _ => ⟨rfl, e0, (by decide : 0 + 0 ≤ _), (by decide : 0 + 0 ≤ _)⟩)
  dsimp only [Pt.U, Pt.locs, Pt.cells, Pt.slots] at X1 l1 y1 z1 st1 hQ1
  subst l1 y1 z1
  obtain ⟨rfl, N1q, e1⟩ := hQ1
  have hv1 : (f11 o0 b0 2 fF cs) = (Int32.ofNat 2) := by unfold f11; exact own_sh0 _
  rw [hv1] at st1
  have N1 := Fr.app N0 N1q
  refine Go.via (fun t k => st1.trans k) ?_
  refine Vi (T1.setTop (mkF m 8 #[sR o0, sI 46] [(.int 1), (.int 46), (.ref o0)])) (fun tZ kZ => ?_) ?_
  · refine XS.iconst X1.here hx rfl (hb hby d10_6) ?_
    refine XS.isub X1.here hx rfl (hb hby d10_7) rfl ?_
    exact kZ
  obtain ⟨cq2, kq2, q2a, q2b, q2c⟩ := isOf hZ e1 ha0
  obtain ⟨_, _, ⟨T2, L2, k2, n2⟩, -, X2, ⟨Lc2, hQ2, l2, y2, z2⟩, st2⟩ := X1.virtualBack hx (y := y13) (z := y13) hown (mvT hZ (wq hw 75 rfl)) (mvT hZ (wq hw 76 rfl)) (notFace_of_selects (args := #[]) (mvT hZ (wq hw 78 rfl))) (mvT hZ (wq hw 78 rfl)) (mvT hZ (wq hw 77 rfl)) (by decide) (backOf (W := 0) (rm13n2 l Z a0 hw [] o0 b0 fF cs h0 n0 Z0 ha0 ha1 ha2 ha3 ha4 hcs) hZ (wq hw 79 rfl) (wq hw 7 rfl) (by decide) (by decide)) q2a q2c (g := (mkF m 8 #[sR o0, sI 46] [(.int 1), (.int 46), (.ref o0)])) rfl (by rw [hml]; rfl) (Steps.refl _) (argsL := [(.int 46), (.int 1)]) (rest := []) (lenOf pd_11 rfl) rfl (leW rfl) (hb hby d10_8) (fun _ _ => ⟨rfl, e1, (by decide : 0 + 0 + 0 ≤ _), (by decide : 0 + 0 + 0 ≤ _)⟩)
  dsimp only [Pt.U, Pt.locs, Pt.cells, Pt.slots] at X2 l2 y2 z2 st2 hQ2
  subst l2 y2 z2
  obtain ⟨rfl, N2q, e2⟩ := hQ2
  have N2 := Fr.app N1 N2q
  refine Go.via (fun t k => st2.trans k) ?_
  refine Go.retI X2 hx Bd.notSynchronized Bd.returns (hb hby d10_11) (by decide) (by decide) ?_
  refine ⟨?_, N2, e2⟩
  show some ((.int (f13n2 o0 b0 fF cs)) : Value) = some (.int (f10n2 o0 b0 fF cs))
  rfl
def f15n3 (o0 : Addr) (fF : Nat → Int32) : Int32 := (if (fF (2 : Int32).toNatClampNeg) = ((46 : Int32).toInt8.toInt32) then (2 : Int32) else (if (fF (1 : Int32).toNatClampNeg) = ((46 : Int32).toInt8.toInt32) then (1 : Int32) else (if (fF (0 : Int32).toNatClampNeg) = ((46 : Int32).toInt8.toInt32) then (0 : Int32) else (-1 : Int32))))
def Q15n3 (o0 : Addr) (fF : Nat → Int32) (h0 : Heap) (n0 : Nat) (v : Option Value) (h : Heap) (L : List Loc) : Prop := v = some (.int (f15n3 o0 fF)) ∧ Fr n0 L ∧ h = h0
theorem rm15n3 (l : Launch) (Z : State) (a0 : Array Value) (hw : ∀ d ∈ tables_1, d.before a0 Z = true) (ws : List Jvm.Cond) (o0 : Addr) (fF : Nat → Int32) (h0 : Heap) (n0 : Nat) (Z0 : n0 ≤ h0.size) (ha0 : AV Z h0 o0 .byte 3 (fun k => .int (fF k))) :
    MetFree l y15 (head1 (Jvm.Cond.code y15 jdk_43_method_27_code 4 (some .int) :: ws) RM_1_0_0_13) (fun a U => a = #[(.ref o0), (.int 46), (.int 2)] ∧ Z.Warmed39 U.vm ∧ U.heap = h0) (fun _ _ _ _ _ => True) (fun _ U o U' => ∃ v L, o = .returned v ∧ Q15n3 o0 fF h0 n0 v U'.heap L ∧ FrameEnd U o U' L RM_1_0_0_13.cells RM_1_0_0_13.slots) := by
  refine MetFree.of_bodySF (plainFor_of_name pn_1) hisR ?_
  intro p e s m args below meth c s₁ Bd hml0 hP hK
  obtain ⟨rfl, hZ, hh⟩ := hP
  have hx := Bd.exec
  have hby := Bd.bytes
  have hml : c.maxLocals = 4 := hml0
  have hown : s.vm.findClass "java/lang/StringLatin1" = some m.cls := findClass_of_methodNamed Bd.named
  have X0 : Stand p l e RM_1_0_0_13 s m _ below meth c s₁ [] 0 0 := Stand.of_body Bd
  have e0 : s₁.heap = h0 := by rw [← hh, Bd.state]; rfl
  have N0 := Fr.nil n0
  refine Go.into (P := fun oo uu => ∃ v L, oo = .returned v ∧ Q15n3 o0 fF h0 n0 v uu.heap L ∧ FrameEnd s oo uu L RM_1_0_0_13.cells RM_1_0_0_13.slots) (ef_15_aaa m o0 (46 : Int32) (2 : Int32)) ?_
  show Go p e below _ (s₁.setTop (mkF m 0 #[sR o0, sI 46, sI 2, .unset] []))
  refine Vi (s₁.setTop (mkF m 1 #[sR o0, sI 46, sI 2, .unset] [(.int 46)])) (fun tZ kZ => ?_) ?_
  · refine XS.iloadN X0.here hx rfl (hb hby d15_0) rfl ?_
    exact kZ
  obtain ⟨_, _, ⟨T1, L1, k1, n1⟩, -, X1, ⟨Lc1, hQ1, l1, y1, z1⟩, st1⟩ := Jvm.LawKit.callS X0 hx (y := y16) hown (mvT hZ (wq hw 89 rfl)) (mvT hZ (wq hw 90 rfl)) (mvT hZ (wq hw 87 rfl)) (mvT hZ (wq hw 91 rfl)) (by decide) (backOf (W := 0) (rm16 l Z a0 hw [] (46 : Int32) h0 n0 Z0 ) hZ (wq hw 91 rfl) (wq hw 87 rfl) (by decide) (by decide)) (g := (mkF m 1 #[sR o0, sI 46, sI 2, .unset] [(.int 46)])) rfl (by rw [hml]; rfl) (argsL := [(.int 46)]) (rest := []) (lenOf pd_14 rfl) rfl (leW rfl) (hb hby d15_1) (fun _ _ => ⟨rfl, e0, (by decide : 0 + 0 ≤ _), (by decide : 0 + 0 ≤ _)⟩)
  dsimp only [Pt.U, Pt.locs, Pt.cells, Pt.slots] at X1 l1 y1 z1 st1 hQ1
  subst l1 y1 z1
  obtain ⟨rfl, N1q, e1⟩ := hQ1
  have hv1 : (f16 (46 : Int32)) = (1 : Int32) := by unfold f16; decide
  rw [hv1] at st1
  have N1 := Fr.app N0 N1q
  refine Go.via st1 ?_
  refine Vi (T1.setTop (mkF m 14 #[sR o0, sI 46, sI 2, .unset] [(.int 2), (.int 2)])) (fun tZ kZ => ?_) ?_
  · refine XS.ifYes X1.here hx rfl (pc0 := 4) (pc' := 9) rfl (hb hby d15_4) rfl ((if0 _ _).trans (feq (by decide)).2) (by decide) (by decide) ?_
    refine XS.iloadN X1.here hx rfl (hb hby d15_9) rfl ?_
    refine XS.aloadN X1.here hx rfl (hb hby d15_10) rfl rfl ?_
    refine AV.len ha0 X1 hx hZ e1 (hb hby d15_11) ?_
    refine XS.iconst X1.here hx rfl (hb hby d15_12) ?_
    refine XS.isub X1.here hx rfl (hb hby d15_13) rfl ?_
    exact kZ
  obtain ⟨_, _, ⟨T2, L2, k2, n2⟩, -, X2, ⟨Lc2, hQ2, l2, y2, z2⟩, st2⟩ := Jvm.LawKit.callS X1 hx (y := y17) hown (mvT hZ (wq hw 92 rfl)) (mvT hZ (wq hw 93 rfl)) (mvT hZ (wq hw 94 rfl)) (mvT hZ (wq hw 95 rfl)) (by decide) (backOf (W := 0) (rm17 l Z a0 hw [] (2 : Int32) (2 : Int32) h0 n0 Z0 ) hZ (wq hw 95 rfl) (wq hw 94 rfl) (by decide) (by decide)) (g := (mkF m 14 #[sR o0, sI 46, sI 2, .unset] [(.int 2), (.int 2)])) rfl (by rw [hml]; rfl) (argsL := [(.int 2), (.int 2)]) (rest := []) (lenOf pd_11 rfl) rfl (leW rfl) (hb hby d15_14) (fun _ _ => ⟨rfl, e1, (by decide : 0 + 0 + 0 ≤ _), (by decide : 0 + 0 + 0 ≤ _)⟩)
  dsimp only [Pt.U, Pt.locs, Pt.cells, Pt.slots] at X2 l2 y2 z2 st2 hQ2
  subst l2 y2 z2
  obtain ⟨rfl, N2q, e2⟩ := hQ2
  have hv2 : (f17 (2 : Int32) (2 : Int32)) = (2 : Int32) := by unfold f17; decide
  rw [hv2] at st2
  have N2 := Fr.app N1 N2q
  refine Go.via st2 ?_
  refine Vi (T2.setTop (mkF m 27 #[sR o0, sI 46, sI 2, sI 2] [(.int ((46 : Int32).toInt8.toInt32)), (.int (fF (2 : Int32).toNatClampNeg))])) (fun tZ kZ => ?_) ?_
  · refine XS.istoreN X2.here hx rfl (hb hby d15_17) rfl (l' := #[sR o0, sI 46, sI 2, sI 2]) rfl ?_
    refine XS.iloadN X2.here hx rfl (hb hby d15_18) rfl ?_
    refine XS.ifNo X2.here hx rfl (hb hby d15_19) rfl ((if0 _ _).trans (flt (by decide)).1) ?_
    refine XS.aloadN X2.here hx rfl (hb hby d15_22) rfl rfl ?_
    refine XS.iloadN X2.here hx rfl (hb hby d15_23) rfl ?_
    refine AV.baload ha0 X2 hx hZ e2 (j := (2 : Int32)) (by decide) (hb hby d15_24) ?_
    refine XS.iloadN X2.here hx rfl (hb hby d15_25) rfl ?_
    refine XS.i2b X2.here hx rfl (hb hby d15_26) rfl ?_
    exact kZ
  by_cases hc27 : (fF (2 : Int32).toNatClampNeg) = ((46 : Int32).toInt8.toInt32)
  · refine Vi (T2.setTop (mkF m 30 #[sR o0, sI 46, sI 2, sI 2] [])) (fun tZ kZ => ?_) ?_
    · show Steps p.tables e below (T2.setTop (mkF m 27 #[sR o0, sI 46, sI 2, sI 2] [(.int ((46 : Int32).toInt8.toInt32)), (.int (fF (2 : Int32).toNatClampNeg))])) _
      refine XS.icmpNo X2.here hx rfl (hb hby d15_27) rfl (teq hc27).2 ?_
      exact kZ
    refine Vi (T2.setTop (mkF m 31 #[sR o0, sI 46, sI 2, sI 2] [(.int 2)])) (fun tZ kZ => ?_) ?_
    · refine XS.iloadN X2.here hx rfl (hb hby d15_30) rfl ?_
      exact kZ
    refine Go.retI X2 hx Bd.notSynchronized Bd.returns (hb hby d15_31) (by decide) (by decide) ?_
    refine ⟨?_, N2, e2⟩
    show some ((.int 2) : Value) = some (.int (f15n3 o0 fF))
    unfold f15n3; rw [if_pos hc27] <;> rfl
  · refine Vi (T2.setTop (mkF m 32 #[sR o0, sI 46, sI 2, sI 2] [])) (fun tZ kZ => ?_) ?_
    · show Steps p.tables e below (T2.setTop (mkF m 27 #[sR o0, sI 46, sI 2, sI 2] [(.int ((46 : Int32).toInt8.toInt32)), (.int (fF (2 : Int32).toNatClampNeg))])) _
      refine XS.icmpYes X2.here hx rfl (pc0 := 27) (pc' := 32) rfl (hb hby d15_27) rfl (feq hc27).2 (by decide) (by decide) ?_
      exact kZ
    refine Vi (T2.setTop (mkF m 27 #[sR o0, sI 46, sI 2, sI 1] [(.int ((46 : Int32).toInt8.toInt32)), (.int (fF (1 : Int32).toNatClampNeg))])) (fun tZ kZ => ?_) ?_
    · refine XS.iinc X2.here hx rfl (hb hby d15_32) rfl (l' := #[sR o0, sI 46, sI 2, sI 1]) rfl ?_
      refine XS.goto X2.here hx rfl (pc0 := 35) (pc' := 18) rfl (hb hby d15_35) (by decide) (by decide) ?_
      refine XS.iloadN X2.here hx rfl (hb hby d15_18) rfl ?_
      refine XS.ifNo X2.here hx rfl (hb hby d15_19) rfl ((if0 _ _).trans (flt (by decide)).1) ?_
      refine XS.aloadN X2.here hx rfl (hb hby d15_22) rfl rfl ?_
      refine XS.iloadN X2.here hx rfl (hb hby d15_23) rfl ?_
      refine AV.baload ha0 X2 hx hZ e2 (j := (1 : Int32)) (by decide) (hb hby d15_24) ?_
      refine XS.iloadN X2.here hx rfl (hb hby d15_25) rfl ?_
      refine XS.i2b X2.here hx rfl (hb hby d15_26) rfl ?_
      exact kZ
    by_cases hc27_1 : (fF (1 : Int32).toNatClampNeg) = ((46 : Int32).toInt8.toInt32)
    · refine Vi (T2.setTop (mkF m 30 #[sR o0, sI 46, sI 2, sI 1] [])) (fun tZ kZ => ?_) ?_
      · show Steps p.tables e below (T2.setTop (mkF m 27 #[sR o0, sI 46, sI 2, sI 1] [(.int ((46 : Int32).toInt8.toInt32)), (.int (fF (1 : Int32).toNatClampNeg))])) _
        refine XS.icmpNo X2.here hx rfl (hb hby d15_27) rfl (teq hc27_1).2 ?_
        exact kZ
      refine Vi (T2.setTop (mkF m 31 #[sR o0, sI 46, sI 2, sI 1] [(.int 1)])) (fun tZ kZ => ?_) ?_
      · refine XS.iloadN X2.here hx rfl (hb hby d15_30) rfl ?_
        exact kZ
      refine Go.retI X2 hx Bd.notSynchronized Bd.returns (hb hby d15_31) (by decide) (by decide) ?_
      refine ⟨?_, N2, e2⟩
      show some ((.int 1) : Value) = some (.int (f15n3 o0 fF))
      unfold f15n3; rw [if_neg hc27, if_pos hc27_1] <;> rfl
    · refine Vi (T2.setTop (mkF m 32 #[sR o0, sI 46, sI 2, sI 1] [])) (fun tZ kZ => ?_) ?_
      · show Steps p.tables e below (T2.setTop (mkF m 27 #[sR o0, sI 46, sI 2, sI 1] [(.int ((46 : Int32).toInt8.toInt32)), (.int (fF (1 : Int32).toNatClampNeg))])) _
        refine XS.icmpYes X2.here hx rfl (pc0 := 27) (pc' := 32) rfl (hb hby d15_27) rfl (feq hc27_1).2 (by decide) (by decide) ?_
        exact kZ
      refine Vi (T2.setTop (mkF m 27 #[sR o0, sI 46, sI 2, sI 0] [(.int ((46 : Int32).toInt8.toInt32)), (.int (fF (0 : Int32).toNatClampNeg))])) (fun tZ kZ => ?_) ?_
      · refine XS.iinc X2.here hx rfl (hb hby d15_32) rfl (l' := #[sR o0, sI 46, sI 2, sI 0]) rfl ?_
        refine XS.goto X2.here hx rfl (pc0 := 35) (pc' := 18) rfl (hb hby d15_35) (by decide) (by decide) ?_
        refine XS.iloadN X2.here hx rfl (hb hby d15_18) rfl ?_
        refine XS.ifNo X2.here hx rfl (hb hby d15_19) rfl ((if0 _ _).trans (flt (by decide)).1) ?_
        refine XS.aloadN X2.here hx rfl (hb hby d15_22) rfl rfl ?_
        refine XS.iloadN X2.here hx rfl (hb hby d15_23) rfl ?_
        refine AV.baload ha0 X2 hx hZ e2 (j := (0 : Int32)) (by decide) (hb hby d15_24) ?_
        refine XS.iloadN X2.here hx rfl (hb hby d15_25) rfl ?_
        refine XS.i2b X2.here hx rfl (hb hby d15_26) rfl ?_
        exact kZ
      by_cases hc27_2 : (fF (0 : Int32).toNatClampNeg) = ((46 : Int32).toInt8.toInt32)
      · refine Vi (T2.setTop (mkF m 30 #[sR o0, sI 46, sI 2, sI 0] [])) (fun tZ kZ => ?_) ?_
        · show Steps p.tables e below (T2.setTop (mkF m 27 #[sR o0, sI 46, sI 2, sI 0] [(.int ((46 : Int32).toInt8.toInt32)), (.int (fF (0 : Int32).toNatClampNeg))])) _
          refine XS.icmpNo X2.here hx rfl (hb hby d15_27) rfl (teq hc27_2).2 ?_
          exact kZ
        refine Vi (T2.setTop (mkF m 31 #[sR o0, sI 46, sI 2, sI 0] [(.int 0)])) (fun tZ kZ => ?_) ?_
        · refine XS.iloadN X2.here hx rfl (hb hby d15_30) rfl ?_
          exact kZ
        refine Go.retI X2 hx Bd.notSynchronized Bd.returns (hb hby d15_31) (by decide) (by decide) ?_
        refine ⟨?_, N2, e2⟩
        show some ((.int 0) : Value) = some (.int (f15n3 o0 fF))
        unfold f15n3; rw [if_neg hc27, if_neg hc27_1, if_pos hc27_2] <;> rfl
      · refine Vi (T2.setTop (mkF m 32 #[sR o0, sI 46, sI 2, sI 0] [])) (fun tZ kZ => ?_) ?_
        · show Steps p.tables e below (T2.setTop (mkF m 27 #[sR o0, sI 46, sI 2, sI 0] [(.int ((46 : Int32).toInt8.toInt32)), (.int (fF (0 : Int32).toNatClampNeg))])) _
          refine XS.icmpYes X2.here hx rfl (pc0 := 27) (pc' := 32) rfl (hb hby d15_27) rfl (feq hc27_2).2 (by decide) (by decide) ?_
          exact kZ
        refine Vi (T2.setTop (mkF m 39 #[sR o0, sI 46, sI 2, sI (-1)] [(.int (-1))])) (fun tZ kZ => ?_) ?_
        · refine XS.iinc X2.here hx rfl (hb hby d15_32) rfl (l' := #[sR o0, sI 46, sI 2, sI (-1)]) rfl ?_
          refine XS.goto X2.here hx rfl (pc0 := 35) (pc' := 18) rfl (hb hby d15_35) (by decide) (by decide) ?_
          refine XS.iloadN X2.here hx rfl (hb hby d15_18) rfl ?_
          refine XS.ifYes X2.here hx rfl (pc0 := 19) (pc' := 38) rfl (hb hby d15_19) rfl ((if0 _ _).trans (tlt (by decide)).1) (by decide) (by decide) ?_
          refine XS.iconst X2.here hx rfl (hb hby d15_38) ?_
          exact kZ
        refine Go.retI X2 hx Bd.notSynchronized Bd.returns (hb hby d15_39) (by decide) (by decide) ?_
        refine ⟨?_, N2, e2⟩
        show some ((.int (-1)) : Value) = some (.int (f15n3 o0 fF))
        unfold f15n3; rw [if_neg hc27, if_neg hc27_1, if_neg hc27_2] <;> rfl
def f13n3 (o0 : Addr) (b0 : Addr) (fF : Nat → Int32) (cs : Int32) : Int32 := (f15n3 b0 fF)
def Q13n3 (o0 : Addr) (b0 : Addr) (fF : Nat → Int32) (cs : Int32) (h0 : Heap) (n0 : Nat) (v : Option Value) (h : Heap) (L : List Loc) : Prop := v = some (.int (f13n3 o0 b0 fF cs)) ∧ Fr n0 L ∧ h = h0
theorem rm13n3 (l : Launch) (Z : State) (a0 : Array Value) (hw : ∀ d ∈ tables_1, d.before a0 Z = true) (ws : List Jvm.Cond) (o0 : Addr) (b0 : Addr) (fF : Nat → Int32) (cs : Int32) (h0 : Heap) (n0 : Nat) (Z0 : n0 ≤ h0.size) (ha0 : Exa Z h0 o0 "java/lang/String") (ha1 : Fld Z h0 o0 "java/lang/String" "coder" "B" (.int 0)) (ha2 : Fld Z h0 o0 "java/lang/String" "value" "[B" (.ref b0)) (ha3 : AV Z h0 b0 .byte 3 (fun k => .int (fF k))) (ha4 : Sta Z h0 "java/lang/String" "COMPACT_STRINGS" "Z" (.int cs)) (hcs : ¬ cs = 0) :
    MetFree l y13 (head1 (Jvm.Cond.code y13 jdk_42_method_83_code 3 (some .int) :: ws) RM_2_0_0_28) (fun a U => a = #[(.ref o0), (.int 46), (.int 2)] ∧ Z.Warmed39 U.vm ∧ U.heap = h0) (fun _ _ _ _ _ => True) (fun _ U o U' => ∃ v L, o = .returned v ∧ Q13n3 o0 b0 fF cs h0 n0 v U'.heap L ∧ FrameEnd U o U' L RM_2_0_0_28.cells RM_2_0_0_28.slots) := by
  refine MetFree.of_bodySF (plainFor_of_name pn_0) hisR ?_
  intro p e s m args below meth c s₁ Bd hml0 hP hK
  obtain ⟨rfl, hZ, hh⟩ := hP
  have hx := Bd.exec
  have hby := Bd.bytes
  have hml : c.maxLocals = 3 := hml0
  have hown : s.vm.findClass "java/lang/String" = some m.cls := findClass_of_methodNamed Bd.named
  have X0 : Stand p l e RM_2_0_0_28 s m _ below meth c s₁ [] 0 0 := Stand.of_body Bd
  have e0 : s₁.heap = h0 := by rw [← hh, Bd.state]; rfl
  have N0 := Fr.nil n0
  refine Go.into (P := fun oo uu => ∃ v L, oo = .returned v ∧ Q13n3 o0 b0 fF cs h0 n0 v uu.heap L ∧ FrameEnd s oo uu L RM_2_0_0_28.cells RM_2_0_0_28.slots) (ef_13_aaa m o0 (46 : Int32) (2 : Int32)) ?_
  show Go p e below _ (s₁.setTop (mkF m 0 #[sR o0, sI 46, sI 2] []))
  refine Vi (s₁.setTop (mkF m 1 #[sR o0, sI 46, sI 2] [(.ref o0)])) (fun tZ kZ => ?_) ?_
  · refine XS.aloadN X0.here hx rfl (hb hby d13_0) rfl rfl ?_
    exact kZ
  obtain ⟨cq1, kq1, q1a, q1b, q1c⟩ := isOf hZ e0 ha0
  obtain ⟨_, _, ⟨T1, L1, k1, n1⟩, -, X1, ⟨Lc1, hQ1, l1, y1, z1⟩, st1⟩ := X0.virtualBack hx (y := y14) (z := y14) hown (mvT hZ (wq hw 80 rfl)) (mvT hZ (wq hw 81 rfl)) (notFace_of_selects (args := #[]) (mvT hZ (wq hw 83 rfl))) (mvT hZ (wq hw 83 rfl)) (mvT hZ (wq hw 82 rfl)) (by decide) (backOf (W := 0) (rm14 l Z a0 hw [] o0 cs h0 n0 Z0 ha1 ha4 hcs) hZ (wq hw 84 rfl) (wq hw 7 rfl) (by decide) (by decide)) q1a q1c (g := (mkF m 1 #[sR o0, sI 46, sI 2] [(.ref o0)])) rfl (by rw [hml]; rfl) (Steps.refl _) (argsL := []) (rest := []) (lenOf pd_12 rfl) rfl (leW rfl) (hb hby d13_1) (fun _ _ => ⟨rfl, e0, (by decide : 0 + 0 ≤ _), (by decide : 0 + 0 ≤ _)⟩)
  dsimp only [Pt.U, Pt.locs, Pt.cells, Pt.slots] at X1 l1 y1 z1 st1 hQ1
  subst l1 y1 z1
  obtain ⟨rfl, N1q, e1⟩ := hQ1
  have hv1 : (f14 o0 cs) = (1 : Int32) := by unfold f14; decide
  rw [hv1] at st1
  have N1 := Fr.app N0 N1q
  refine Go.via (fun t k => st1.trans k) ?_
  refine Vi (T1.setTop (mkF m 8 #[sR o0, sI 46, sI 2] [(.ref o0)])) (fun tZ kZ => ?_) ?_
  · refine XS.ifNo X1.here hx rfl (hb hby d13_4) rfl ((if0 _ _).trans (feq (by decide)).1) ?_
    refine XS.aloadN X1.here hx rfl (hb hby d13_7) rfl rfl ?_
    exact kZ
  obtain ⟨T2, X2, e2, st2⟩ := getF X1 hx hZ hown (host := "") (Or.inl (wq hw 29 rfl)) Via.refl e1 ha2 (g := (mkF m 8 #[sR o0, sI 46, sI 2] [(.ref o0)])) rfl rfl (hb hby d13_8)
  refine Go.via st2 ?_
  refine Vi (T2.setTop (mkF m 13 #[sR o0, sI 46, sI 2] [(.int 2), (.int 46), (.ref b0)])) (fun tZ kZ => ?_) ?_
  · refine XS.iloadN X2.here hx rfl (hb hby d13_11) rfl ?_
    refine XS.iloadN X2.here hx rfl (hb hby d13_12) rfl ?_
    exact kZ
  obtain ⟨_, _, ⟨T3, L3, k3, n3⟩, -, X3, ⟨Lc3, hQ3, l3, y3, z3⟩, st3⟩ := Jvm.LawKit.callS X2 hx (y := y15) hown (mvT hZ (wq hw 85 rfl)) (mvT hZ (wq hw 86 rfl)) (mvT hZ (wq hw 87 rfl)) (mvT hZ (wq hw 88 rfl)) (by decide) (backOf (W := 0) (rm15n3 l Z a0 hw [] b0 fF h0 n0 Z0 ha3) hZ (wq hw 88 rfl) (wq hw 87 rfl) (by decide) (by decide)) (g := (mkF m 13 #[sR o0, sI 46, sI 2] [(.int 2), (.int 46), (.ref b0)])) rfl (by rw [hml]; rfl) (argsL := [(.ref b0), (.int 46), (.int 2)]) (rest := []) (lenOf pd_13 rfl) rfl (leW rfl) (hb hby d13_13) (fun _ _ => ⟨rfl, e2, (by decide : 0 + 0 + 0 ≤ _), (by decide : 0 + 0 + 0 ≤ _)⟩)
  dsimp only [Pt.U, Pt.locs, Pt.cells, Pt.slots] at X3 l3 y3 z3 st3 hQ3
  subst l3 y3 z3
  obtain ⟨rfl, N3q, e3⟩ := hQ3
  have N3 := Fr.app N1 N3q
  refine Go.via st3 ?_
  refine Vi (T3.setTop (mkF m 28 #[sR o0, sI 46, sI 2] [(.int (f15n3 b0 fF))])) (fun tZ kZ => ?_) ?_
  · refine XS.goto X3.here hx rfl (pc0 := 16) (pc' := 28) rfl (hb hby d13_16) (by decide) (by decide) ?_
    exact kZ
  refine Go.retI X3 hx Bd.notSynchronized Bd.returns (hb hby d13_28) (by decide) (by decide) ?_
  refine ⟨?_, N3, e3⟩
  show some ((.int (f15n3 b0 fF)) : Value) = some (.int (f13n3 o0 b0 fF cs))
  rfl
def f10n3 (o0 : Addr) (b0 : Addr) (fF : Nat → Int32) (cs : Int32) : Int32 := (f13n3 o0 b0 fF cs)
def Q10n3 (o0 : Addr) (b0 : Addr) (fF : Nat → Int32) (cs : Int32) (h0 : Heap) (n0 : Nat) (v : Option Value) (h : Heap) (L : List Loc) : Prop := v = some (.int (f10n3 o0 b0 fF cs)) ∧ Fr n0 L ∧ h = h0
theorem rm10n3 (l : Launch) (Z : State) (a0 : Array Value) (hw : ∀ d ∈ tables_1, d.before a0 Z = true) (ws : List Jvm.Cond) (o0 : Addr) (b0 : Addr) (fF : Nat → Int32) (cs : Int32) (h0 : Heap) (n0 : Nat) (Z0 : n0 ≤ h0.size) (ha0 : Exa Z h0 o0 "java/lang/String") (ha1 : Fld Z h0 o0 "java/lang/String" "coder" "B" (.int 0)) (ha2 : Fld Z h0 o0 "java/lang/String" "value" "[B" (.ref b0)) (ha3 : AV Z h0 b0 .byte 3 (fun k => .int (fF k))) (ha4 : Sta Z h0 "java/lang/String" "COMPACT_STRINGS" "Z" (.int cs)) (hcs : ¬ cs = 0) :
    MetFree l y10 (head1 (Jvm.Cond.code y10 jdk_42_method_82_code 2 (some .int) :: ws) RM_3_0_0_42) (fun a U => a = #[(.ref o0), (.int 46)] ∧ Z.Warmed39 U.vm ∧ U.heap = h0) (fun _ _ _ _ _ => True) (fun _ U o U' => ∃ v L, o = .returned v ∧ Q10n3 o0 b0 fF cs h0 n0 v U'.heap L ∧ FrameEnd U o U' L RM_3_0_0_42.cells RM_3_0_0_42.slots) := by
  refine MetFree.of_bodySF (plainFor_of_name pn_0) hisR ?_
  intro p e s m args below meth c s₁ Bd hml0 hP hK
  obtain ⟨rfl, hZ, hh⟩ := hP
  have hx := Bd.exec
  have hby := Bd.bytes
  have hml : c.maxLocals = 2 := hml0
  have hown : s.vm.findClass "java/lang/String" = some m.cls := findClass_of_methodNamed Bd.named
  have X0 : Stand p l e RM_3_0_0_42 s m _ below meth c s₁ [] 0 0 := Stand.of_body Bd
  have e0 : s₁.heap = h0 := by rw [← hh, Bd.state]; rfl
  have N0 := Fr.nil n0
  refine Go.into (P := fun oo uu => ∃ v L, oo = .returned v ∧ Q10n3 o0 b0 fF cs h0 n0 v uu.heap L ∧ FrameEnd s oo uu L RM_3_0_0_42.cells RM_3_0_0_42.slots) (ef_10_aa m o0 (46 : Int32)) ?_
  show Go p e below _ (s₁.setTop (mkF m 0 #[sR o0, sI 46] []))
  refine Vi (s₁.setTop (mkF m 3 #[sR o0, sI 46] [(.ref o0), (.int 46), (.ref o0)])) (fun tZ kZ => ?_) ?_
  · refine XS.aloadN X0.here hx rfl (hb hby d10_0) rfl rfl ?_
    refine XS.iloadN X0.here hx rfl (hb hby d10_1) rfl ?_
    refine XS.aloadN X0.here hx rfl (hb hby d10_2) rfl rfl ?_
    exact kZ
  obtain ⟨cq1, kq1, q1a, q1b, q1c⟩ := isOf hZ e0 ha0
  obtain ⟨_, _, ⟨T1, L1, k1, n1⟩, -, X1, ⟨Lc1, hQ1, l1, y1, z1⟩, st1⟩ := X0.virtualBack hx (y := y11) (z := y11) hown (mvT hZ (wq hw 64 rfl)) (mvT hZ (wq hw 65 rfl)) (notFace_of_selects (args := #[]) (mvT hZ (wq hw 67 rfl))) (mvT hZ (wq hw 67 rfl)) (mvT hZ (wq hw 66 rfl)) (by decide) (backOf (W := 2) (rm11 l Z a0 hw [] o0 b0 3 fF cs h0 n0 Z0 ha0 ha1 ha2 ha3 ha4 hcs) hZ (wq hw 68 rfl) (wq hw 7 rfl) (by decide) (by decide)) q1a q1c (g := (mkF m 3 #[sR o0, sI 46] [(.ref o0), (.int 46), (.ref o0)])) rfl (by rw [hml]; rfl) (Steps.refl _) (argsL := []) (rest := [(.int 46), (.ref o0)]) (lenOf pd_9 rfl) rfl (leW rfl) (hb hby d10_3) (fun _ _ => ⟨rfl, e0, (by decide : 0 + 0 ≤ _), (by decide : 0 + 0 ≤ _)⟩)
  dsimp only [Pt.U, Pt.locs, Pt.cells, Pt.slots] at X1 l1 y1 z1 st1 hQ1
  subst l1 y1 z1
  obtain ⟨rfl, N1q, e1⟩ := hQ1
  have hv1 : (f11 o0 b0 3 fF cs) = (Int32.ofNat 3) := by unfold f11; exact own_sh0 _
  rw [hv1] at st1
  have N1 := Fr.app N0 N1q
  refine Go.via (fun t k => st1.trans k) ?_
  refine Vi (T1.setTop (mkF m 8 #[sR o0, sI 46] [(.int 2), (.int 46), (.ref o0)])) (fun tZ kZ => ?_) ?_
  · refine XS.iconst X1.here hx rfl (hb hby d10_6) ?_
    refine XS.isub X1.here hx rfl (hb hby d10_7) rfl ?_
    exact kZ
  obtain ⟨cq2, kq2, q2a, q2b, q2c⟩ := isOf hZ e1 ha0
  obtain ⟨_, _, ⟨T2, L2, k2, n2⟩, -, X2, ⟨Lc2, hQ2, l2, y2, z2⟩, st2⟩ := X1.virtualBack hx (y := y13) (z := y13) hown (mvT hZ (wq hw 75 rfl)) (mvT hZ (wq hw 76 rfl)) (notFace_of_selects (args := #[]) (mvT hZ (wq hw 78 rfl))) (mvT hZ (wq hw 78 rfl)) (mvT hZ (wq hw 77 rfl)) (by decide) (backOf (W := 0) (rm13n3 l Z a0 hw [] o0 b0 fF cs h0 n0 Z0 ha0 ha1 ha2 ha3 ha4 hcs) hZ (wq hw 79 rfl) (wq hw 7 rfl) (by decide) (by decide)) q2a q2c (g := (mkF m 8 #[sR o0, sI 46] [(.int 2), (.int 46), (.ref o0)])) rfl (by rw [hml]; rfl) (Steps.refl _) (argsL := [(.int 46), (.int 2)]) (rest := []) (lenOf pd_11 rfl) rfl (leW rfl) (hb hby d10_8) (fun _ _ => ⟨rfl, e1, (by decide : 0 + 0 + 0 ≤ _), (by decide : 0 + 0 + 0 ≤ _)⟩)
  dsimp only [Pt.U, Pt.locs, Pt.cells, Pt.slots] at X2 l2 y2 z2 st2 hQ2
  subst l2 y2 z2
  obtain ⟨rfl, N2q, e2⟩ := hQ2
  have N2 := Fr.app N1 N2q
  refine Go.via (fun t k => st2.trans k) ?_
  refine Go.retI X2 hx Bd.notSynchronized Bd.returns (hb hby d10_11) (by decide) (by decide) ?_
  refine ⟨?_, N2, e2⟩
  show some ((.int (f13n3 o0 b0 fF cs)) : Value) = some (.int (f10n3 o0 b0 fF cs))
  rfl
def f15n4 (o0 : Addr) (fF : Nat → Int32) : Int32 := (if (fF (3 : Int32).toNatClampNeg) = ((46 : Int32).toInt8.toInt32) then (3 : Int32) else (if (fF (2 : Int32).toNatClampNeg) = ((46 : Int32).toInt8.toInt32) then (2 : Int32) else (if (fF (1 : Int32).toNatClampNeg) = ((46 : Int32).toInt8.toInt32) then (1 : Int32) else (if (fF (0 : Int32).toNatClampNeg) = ((46 : Int32).toInt8.toInt32) then (0 : Int32) else (-1 : Int32)))))
def Q15n4 (o0 : Addr) (fF : Nat → Int32) (h0 : Heap) (n0 : Nat) (v : Option Value) (h : Heap) (L : List Loc) : Prop := v = some (.int (f15n4 o0 fF)) ∧ Fr n0 L ∧ h = h0
theorem rm15n4 (l : Launch) (Z : State) (a0 : Array Value) (hw : ∀ d ∈ tables_1, d.before a0 Z = true) (ws : List Jvm.Cond) (o0 : Addr) (fF : Nat → Int32) (h0 : Heap) (n0 : Nat) (Z0 : n0 ≤ h0.size) (ha0 : AV Z h0 o0 .byte 4 (fun k => .int (fF k))) :
    MetFree l y15 (head1 (Jvm.Cond.code y15 jdk_43_method_27_code 4 (some .int) :: ws) RM_1_0_0_13) (fun a U => a = #[(.ref o0), (.int 46), (.int 3)] ∧ Z.Warmed39 U.vm ∧ U.heap = h0) (fun _ _ _ _ _ => True) (fun _ U o U' => ∃ v L, o = .returned v ∧ Q15n4 o0 fF h0 n0 v U'.heap L ∧ FrameEnd U o U' L RM_1_0_0_13.cells RM_1_0_0_13.slots) := by
  refine MetFree.of_bodySF (plainFor_of_name pn_1) hisR ?_
  intro p e s m args below meth c s₁ Bd hml0 hP hK
  obtain ⟨rfl, hZ, hh⟩ := hP
  have hx := Bd.exec
  have hby := Bd.bytes
  have hml : c.maxLocals = 4 := hml0
  have hown : s.vm.findClass "java/lang/StringLatin1" = some m.cls := findClass_of_methodNamed Bd.named
  have X0 : Stand p l e RM_1_0_0_13 s m _ below meth c s₁ [] 0 0 := Stand.of_body Bd
  have e0 : s₁.heap = h0 := by rw [← hh, Bd.state]; rfl
  have N0 := Fr.nil n0
  refine Go.into (P := fun oo uu => ∃ v L, oo = .returned v ∧ Q15n4 o0 fF h0 n0 v uu.heap L ∧ FrameEnd s oo uu L RM_1_0_0_13.cells RM_1_0_0_13.slots) (ef_15_aaa m o0 (46 : Int32) (3 : Int32)) ?_
  show Go p e below _ (s₁.setTop (mkF m 0 #[sR o0, sI 46, sI 3, .unset] []))
  refine Vi (s₁.setTop (mkF m 1 #[sR o0, sI 46, sI 3, .unset] [(.int 46)])) (fun tZ kZ => ?_) ?_
  · refine XS.iloadN X0.here hx rfl (hb hby d15_0) rfl ?_
    exact kZ
  obtain ⟨_, _, ⟨T1, L1, k1, n1⟩, -, X1, ⟨Lc1, hQ1, l1, y1, z1⟩, st1⟩ := Jvm.LawKit.callS X0 hx (y := y16) hown (mvT hZ (wq hw 89 rfl)) (mvT hZ (wq hw 90 rfl)) (mvT hZ (wq hw 87 rfl)) (mvT hZ (wq hw 91 rfl)) (by decide) (backOf (W := 0) (rm16 l Z a0 hw [] (46 : Int32) h0 n0 Z0 ) hZ (wq hw 91 rfl) (wq hw 87 rfl) (by decide) (by decide)) (g := (mkF m 1 #[sR o0, sI 46, sI 3, .unset] [(.int 46)])) rfl (by rw [hml]; rfl) (argsL := [(.int 46)]) (rest := []) (lenOf pd_14 rfl) rfl (leW rfl) (hb hby d15_1) (fun _ _ => ⟨rfl, e0, (by decide : 0 + 0 ≤ _), (by decide : 0 + 0 ≤ _)⟩)
  dsimp only [Pt.U, Pt.locs, Pt.cells, Pt.slots] at X1 l1 y1 z1 st1 hQ1
  subst l1 y1 z1
  obtain ⟨rfl, N1q, e1⟩ := hQ1
  have hv1 : (f16 (46 : Int32)) = (1 : Int32) := by unfold f16; decide
  rw [hv1] at st1
  have N1 := Fr.app N0 N1q
  refine Go.via st1 ?_
  refine Vi (T1.setTop (mkF m 14 #[sR o0, sI 46, sI 3, .unset] [(.int 3), (.int 3)])) (fun tZ kZ => ?_) ?_
  · refine XS.ifYes X1.here hx rfl (pc0 := 4) (pc' := 9) rfl (hb hby d15_4) rfl ((if0 _ _).trans (feq (by decide)).2) (by decide) (by decide) ?_
    refine XS.iloadN X1.here hx rfl (hb hby d15_9) rfl ?_
    refine XS.aloadN X1.here hx rfl (hb hby d15_10) rfl rfl ?_
    refine AV.len ha0 X1 hx hZ e1 (hb hby d15_11) ?_
    refine XS.iconst X1.here hx rfl (hb hby d15_12) ?_
    refine XS.isub X1.here hx rfl (hb hby d15_13) rfl ?_
    exact kZ
  obtain ⟨_, _, ⟨T2, L2, k2, n2⟩, -, X2, ⟨Lc2, hQ2, l2, y2, z2⟩, st2⟩ := Jvm.LawKit.callS X1 hx (y := y17) hown (mvT hZ (wq hw 92 rfl)) (mvT hZ (wq hw 93 rfl)) (mvT hZ (wq hw 94 rfl)) (mvT hZ (wq hw 95 rfl)) (by decide) (backOf (W := 0) (rm17 l Z a0 hw [] (3 : Int32) (3 : Int32) h0 n0 Z0 ) hZ (wq hw 95 rfl) (wq hw 94 rfl) (by decide) (by decide)) (g := (mkF m 14 #[sR o0, sI 46, sI 3, .unset] [(.int 3), (.int 3)])) rfl (by rw [hml]; rfl) (argsL := [(.int 3), (.int 3)]) (rest := []) (lenOf pd_11 rfl) rfl (leW rfl) (hb hby d15_14) (fun _ _ => ⟨rfl, e1, (by decide : 0 + 0 + 0 ≤ _), (by decide : 0 + 0 + 0 ≤ _)⟩)
  dsimp only [Pt.U, Pt.locs, Pt.cells, Pt.slots] at X2 l2 y2 z2 st2 hQ2
  subst l2 y2 z2
  obtain ⟨rfl, N2q, e2⟩ := hQ2
  have hv2 : (f17 (3 : Int32) (3 : Int32)) = (3 : Int32) := by unfold f17; decide
  rw [hv2] at st2
  have N2 := Fr.app N1 N2q
  refine Go.via st2 ?_
  refine Vi (T2.setTop (mkF m 27 #[sR o0, sI 46, sI 3, sI 3] [(.int ((46 : Int32).toInt8.toInt32)), (.int (fF (3 : Int32).toNatClampNeg))])) (fun tZ kZ => ?_) ?_
  · refine XS.istoreN X2.here hx rfl (hb hby d15_17) rfl (l' := #[sR o0, sI 46, sI 3, sI 3]) rfl ?_
    refine XS.iloadN X2.here hx rfl (hb hby d15_18) rfl ?_
    refine XS.ifNo X2.here hx rfl (hb hby d15_19) rfl ((if0 _ _).trans (flt (by decide)).1) ?_
    refine XS.aloadN X2.here hx rfl (hb hby d15_22) rfl rfl ?_
    refine XS.iloadN X2.here hx rfl (hb hby d15_23) rfl ?_
    refine AV.baload ha0 X2 hx hZ e2 (j := (3 : Int32)) (by decide) (hb hby d15_24) ?_
    refine XS.iloadN X2.here hx rfl (hb hby d15_25) rfl ?_
    refine XS.i2b X2.here hx rfl (hb hby d15_26) rfl ?_
    exact kZ
  by_cases hc27 : (fF (3 : Int32).toNatClampNeg) = ((46 : Int32).toInt8.toInt32)
  · refine Vi (T2.setTop (mkF m 30 #[sR o0, sI 46, sI 3, sI 3] [])) (fun tZ kZ => ?_) ?_
    · show Steps p.tables e below (T2.setTop (mkF m 27 #[sR o0, sI 46, sI 3, sI 3] [(.int ((46 : Int32).toInt8.toInt32)), (.int (fF (3 : Int32).toNatClampNeg))])) _
      refine XS.icmpNo X2.here hx rfl (hb hby d15_27) rfl (teq hc27).2 ?_
      exact kZ
    refine Vi (T2.setTop (mkF m 31 #[sR o0, sI 46, sI 3, sI 3] [(.int 3)])) (fun tZ kZ => ?_) ?_
    · refine XS.iloadN X2.here hx rfl (hb hby d15_30) rfl ?_
      exact kZ
    refine Go.retI X2 hx Bd.notSynchronized Bd.returns (hb hby d15_31) (by decide) (by decide) ?_
    refine ⟨?_, N2, e2⟩
    show some ((.int 3) : Value) = some (.int (f15n4 o0 fF))
    unfold f15n4; rw [if_pos hc27] <;> rfl
  · refine Vi (T2.setTop (mkF m 32 #[sR o0, sI 46, sI 3, sI 3] [])) (fun tZ kZ => ?_) ?_
    · show Steps p.tables e below (T2.setTop (mkF m 27 #[sR o0, sI 46, sI 3, sI 3] [(.int ((46 : Int32).toInt8.toInt32)), (.int (fF (3 : Int32).toNatClampNeg))])) _
      refine XS.icmpYes X2.here hx rfl (pc0 := 27) (pc' := 32) rfl (hb hby d15_27) rfl (feq hc27).2 (by decide) (by decide) ?_
      exact kZ
    refine Vi (T2.setTop (mkF m 27 #[sR o0, sI 46, sI 3, sI 2] [(.int ((46 : Int32).toInt8.toInt32)), (.int (fF (2 : Int32).toNatClampNeg))])) (fun tZ kZ => ?_) ?_
    · refine XS.iinc X2.here hx rfl (hb hby d15_32) rfl (l' := #[sR o0, sI 46, sI 3, sI 2]) rfl ?_
      refine XS.goto X2.here hx rfl (pc0 := 35) (pc' := 18) rfl (hb hby d15_35) (by decide) (by decide) ?_
      refine XS.iloadN X2.here hx rfl (hb hby d15_18) rfl ?_
      refine XS.ifNo X2.here hx rfl (hb hby d15_19) rfl ((if0 _ _).trans (flt (by decide)).1) ?_
      refine XS.aloadN X2.here hx rfl (hb hby d15_22) rfl rfl ?_
      refine XS.iloadN X2.here hx rfl (hb hby d15_23) rfl ?_
      refine AV.baload ha0 X2 hx hZ e2 (j := (2 : Int32)) (by decide) (hb hby d15_24) ?_
      refine XS.iloadN X2.here hx rfl (hb hby d15_25) rfl ?_
      refine XS.i2b X2.here hx rfl (hb hby d15_26) rfl ?_
      exact kZ
    by_cases hc27_1 : (fF (2 : Int32).toNatClampNeg) = ((46 : Int32).toInt8.toInt32)
    · refine Vi (T2.setTop (mkF m 30 #[sR o0, sI 46, sI 3, sI 2] [])) (fun tZ kZ => ?_) ?_
      · show Steps p.tables e below (T2.setTop (mkF m 27 #[sR o0, sI 46, sI 3, sI 2] [(.int ((46 : Int32).toInt8.toInt32)), (.int (fF (2 : Int32).toNatClampNeg))])) _
        refine XS.icmpNo X2.here hx rfl (hb hby d15_27) rfl (teq hc27_1).2 ?_
        exact kZ
      refine Vi (T2.setTop (mkF m 31 #[sR o0, sI 46, sI 3, sI 2] [(.int 2)])) (fun tZ kZ => ?_) ?_
      · refine XS.iloadN X2.here hx rfl (hb hby d15_30) rfl ?_
        exact kZ
      refine Go.retI X2 hx Bd.notSynchronized Bd.returns (hb hby d15_31) (by decide) (by decide) ?_
      refine ⟨?_, N2, e2⟩
      show some ((.int 2) : Value) = some (.int (f15n4 o0 fF))
      unfold f15n4; rw [if_neg hc27, if_pos hc27_1] <;> rfl
    · refine Vi (T2.setTop (mkF m 32 #[sR o0, sI 46, sI 3, sI 2] [])) (fun tZ kZ => ?_) ?_
      · show Steps p.tables e below (T2.setTop (mkF m 27 #[sR o0, sI 46, sI 3, sI 2] [(.int ((46 : Int32).toInt8.toInt32)), (.int (fF (2 : Int32).toNatClampNeg))])) _
        refine XS.icmpYes X2.here hx rfl (pc0 := 27) (pc' := 32) rfl (hb hby d15_27) rfl (feq hc27_1).2 (by decide) (by decide) ?_
        exact kZ
      refine Vi (T2.setTop (mkF m 27 #[sR o0, sI 46, sI 3, sI 1] [(.int ((46 : Int32).toInt8.toInt32)), (.int (fF (1 : Int32).toNatClampNeg))])) (fun tZ kZ => ?_) ?_
      · refine XS.iinc X2.here hx rfl (hb hby d15_32) rfl (l' := #[sR o0, sI 46, sI 3, sI 1]) rfl ?_
        refine XS.goto X2.here hx rfl (pc0 := 35) (pc' := 18) rfl (hb hby d15_35) (by decide) (by decide) ?_
        refine XS.iloadN X2.here hx rfl (hb hby d15_18) rfl ?_
        refine XS.ifNo X2.here hx rfl (hb hby d15_19) rfl ((if0 _ _).trans (flt (by decide)).1) ?_
        refine XS.aloadN X2.here hx rfl (hb hby d15_22) rfl rfl ?_
        refine XS.iloadN X2.here hx rfl (hb hby d15_23) rfl ?_
        refine AV.baload ha0 X2 hx hZ e2 (j := (1 : Int32)) (by decide) (hb hby d15_24) ?_
        refine XS.iloadN X2.here hx rfl (hb hby d15_25) rfl ?_
        refine XS.i2b X2.here hx rfl (hb hby d15_26) rfl ?_
        exact kZ
      by_cases hc27_2 : (fF (1 : Int32).toNatClampNeg) = ((46 : Int32).toInt8.toInt32)
      · refine Vi (T2.setTop (mkF m 30 #[sR o0, sI 46, sI 3, sI 1] [])) (fun tZ kZ => ?_) ?_
        · show Steps p.tables e below (T2.setTop (mkF m 27 #[sR o0, sI 46, sI 3, sI 1] [(.int ((46 : Int32).toInt8.toInt32)), (.int (fF (1 : Int32).toNatClampNeg))])) _
          refine XS.icmpNo X2.here hx rfl (hb hby d15_27) rfl (teq hc27_2).2 ?_
          exact kZ
        refine Vi (T2.setTop (mkF m 31 #[sR o0, sI 46, sI 3, sI 1] [(.int 1)])) (fun tZ kZ => ?_) ?_
        · refine XS.iloadN X2.here hx rfl (hb hby d15_30) rfl ?_
          exact kZ
        refine Go.retI X2 hx Bd.notSynchronized Bd.returns (hb hby d15_31) (by decide) (by decide) ?_
        refine ⟨?_, N2, e2⟩
        show some ((.int 1) : Value) = some (.int (f15n4 o0 fF))
        unfold f15n4; rw [if_neg hc27, if_neg hc27_1, if_pos hc27_2] <;> rfl
      · refine Vi (T2.setTop (mkF m 32 #[sR o0, sI 46, sI 3, sI 1] [])) (fun tZ kZ => ?_) ?_
        · show Steps p.tables e below (T2.setTop (mkF m 27 #[sR o0, sI 46, sI 3, sI 1] [(.int ((46 : Int32).toInt8.toInt32)), (.int (fF (1 : Int32).toNatClampNeg))])) _
          refine XS.icmpYes X2.here hx rfl (pc0 := 27) (pc' := 32) rfl (hb hby d15_27) rfl (feq hc27_2).2 (by decide) (by decide) ?_
          exact kZ
        refine Vi (T2.setTop (mkF m 27 #[sR o0, sI 46, sI 3, sI 0] [(.int ((46 : Int32).toInt8.toInt32)), (.int (fF (0 : Int32).toNatClampNeg))])) (fun tZ kZ => ?_) ?_
        · refine XS.iinc X2.here hx rfl (hb hby d15_32) rfl (l' := #[sR o0, sI 46, sI 3, sI 0]) rfl ?_
          refine XS.goto X2.here hx rfl (pc0 := 35) (pc' := 18) rfl (hb hby d15_35) (by decide) (by decide) ?_
          refine XS.iloadN X2.here hx rfl (hb hby d15_18) rfl ?_
          refine XS.ifNo X2.here hx rfl (hb hby d15_19) rfl ((if0 _ _).trans (flt (by decide)).1) ?_
          refine XS.aloadN X2.here hx rfl (hb hby d15_22) rfl rfl ?_
          refine XS.iloadN X2.here hx rfl (hb hby d15_23) rfl ?_
          refine AV.baload ha0 X2 hx hZ e2 (j := (0 : Int32)) (by decide) (hb hby d15_24) ?_
          refine XS.iloadN X2.here hx rfl (hb hby d15_25) rfl ?_
          refine XS.i2b X2.here hx rfl (hb hby d15_26) rfl ?_
          exact kZ
        by_cases hc27_3 : (fF (0 : Int32).toNatClampNeg) = ((46 : Int32).toInt8.toInt32)
        · refine Vi (T2.setTop (mkF m 30 #[sR o0, sI 46, sI 3, sI 0] [])) (fun tZ kZ => ?_) ?_
          · show Steps p.tables e below (T2.setTop (mkF m 27 #[sR o0, sI 46, sI 3, sI 0] [(.int ((46 : Int32).toInt8.toInt32)), (.int (fF (0 : Int32).toNatClampNeg))])) _
            refine XS.icmpNo X2.here hx rfl (hb hby d15_27) rfl (teq hc27_3).2 ?_
            exact kZ
          refine Vi (T2.setTop (mkF m 31 #[sR o0, sI 46, sI 3, sI 0] [(.int 0)])) (fun tZ kZ => ?_) ?_
          · refine XS.iloadN X2.here hx rfl (hb hby d15_30) rfl ?_
            exact kZ
          refine Go.retI X2 hx Bd.notSynchronized Bd.returns (hb hby d15_31) (by decide) (by decide) ?_
          refine ⟨?_, N2, e2⟩
          show some ((.int 0) : Value) = some (.int (f15n4 o0 fF))
          unfold f15n4; rw [if_neg hc27, if_neg hc27_1, if_neg hc27_2, if_pos hc27_3] <;> rfl
        · refine Vi (T2.setTop (mkF m 32 #[sR o0, sI 46, sI 3, sI 0] [])) (fun tZ kZ => ?_) ?_
          · show Steps p.tables e below (T2.setTop (mkF m 27 #[sR o0, sI 46, sI 3, sI 0] [(.int ((46 : Int32).toInt8.toInt32)), (.int (fF (0 : Int32).toNatClampNeg))])) _
            refine XS.icmpYes X2.here hx rfl (pc0 := 27) (pc' := 32) rfl (hb hby d15_27) rfl (feq hc27_3).2 (by decide) (by decide) ?_
            exact kZ
          refine Vi (T2.setTop (mkF m 39 #[sR o0, sI 46, sI 3, sI (-1)] [(.int (-1))])) (fun tZ kZ => ?_) ?_
          · refine XS.iinc X2.here hx rfl (hb hby d15_32) rfl (l' := #[sR o0, sI 46, sI 3, sI (-1)]) rfl ?_
            refine XS.goto X2.here hx rfl (pc0 := 35) (pc' := 18) rfl (hb hby d15_35) (by decide) (by decide) ?_
            refine XS.iloadN X2.here hx rfl (hb hby d15_18) rfl ?_
            refine XS.ifYes X2.here hx rfl (pc0 := 19) (pc' := 38) rfl (hb hby d15_19) rfl ((if0 _ _).trans (tlt (by decide)).1) (by decide) (by decide) ?_
            refine XS.iconst X2.here hx rfl (hb hby d15_38) ?_
            exact kZ
          refine Go.retI X2 hx Bd.notSynchronized Bd.returns (hb hby d15_39) (by decide) (by decide) ?_
          refine ⟨?_, N2, e2⟩
          show some ((.int (-1)) : Value) = some (.int (f15n4 o0 fF))
          unfold f15n4; rw [if_neg hc27, if_neg hc27_1, if_neg hc27_2, if_neg hc27_3] <;> rfl
def f13n4 (o0 : Addr) (b0 : Addr) (fF : Nat → Int32) (cs : Int32) : Int32 := (f15n4 b0 fF)
def Q13n4 (o0 : Addr) (b0 : Addr) (fF : Nat → Int32) (cs : Int32) (h0 : Heap) (n0 : Nat) (v : Option Value) (h : Heap) (L : List Loc) : Prop := v = some (.int (f13n4 o0 b0 fF cs)) ∧ Fr n0 L ∧ h = h0
theorem rm13n4 (l : Launch) (Z : State) (a0 : Array Value) (hw : ∀ d ∈ tables_1, d.before a0 Z = true) (ws : List Jvm.Cond) (o0 : Addr) (b0 : Addr) (fF : Nat → Int32) (cs : Int32) (h0 : Heap) (n0 : Nat) (Z0 : n0 ≤ h0.size) (ha0 : Exa Z h0 o0 "java/lang/String") (ha1 : Fld Z h0 o0 "java/lang/String" "coder" "B" (.int 0)) (ha2 : Fld Z h0 o0 "java/lang/String" "value" "[B" (.ref b0)) (ha3 : AV Z h0 b0 .byte 4 (fun k => .int (fF k))) (ha4 : Sta Z h0 "java/lang/String" "COMPACT_STRINGS" "Z" (.int cs)) (hcs : ¬ cs = 0) :
    MetFree l y13 (head1 (Jvm.Cond.code y13 jdk_42_method_83_code 3 (some .int) :: ws) RM_2_0_0_28) (fun a U => a = #[(.ref o0), (.int 46), (.int 3)] ∧ Z.Warmed39 U.vm ∧ U.heap = h0) (fun _ _ _ _ _ => True) (fun _ U o U' => ∃ v L, o = .returned v ∧ Q13n4 o0 b0 fF cs h0 n0 v U'.heap L ∧ FrameEnd U o U' L RM_2_0_0_28.cells RM_2_0_0_28.slots) := by
  refine MetFree.of_bodySF (plainFor_of_name pn_0) hisR ?_
  intro p e s m args below meth c s₁ Bd hml0 hP hK
  obtain ⟨rfl, hZ, hh⟩ := hP
  have hx := Bd.exec
  have hby := Bd.bytes
  have hml : c.maxLocals = 3 := hml0
  have hown : s.vm.findClass "java/lang/String" = some m.cls := findClass_of_methodNamed Bd.named
  have X0 : Stand p l e RM_2_0_0_28 s m _ below meth c s₁ [] 0 0 := Stand.of_body Bd
  have e0 : s₁.heap = h0 := by rw [← hh, Bd.state]; rfl
  have N0 := Fr.nil n0
  refine Go.into (P := fun oo uu => ∃ v L, oo = .returned v ∧ Q13n4 o0 b0 fF cs h0 n0 v uu.heap L ∧ FrameEnd s oo uu L RM_2_0_0_28.cells RM_2_0_0_28.slots) (ef_13_aaa m o0 (46 : Int32) (3 : Int32)) ?_
  show Go p e below _ (s₁.setTop (mkF m 0 #[sR o0, sI 46, sI 3] []))
  refine Vi (s₁.setTop (mkF m 1 #[sR o0, sI 46, sI 3] [(.ref o0)])) (fun tZ kZ => ?_) ?_
  · refine XS.aloadN X0.here hx rfl (hb hby d13_0) rfl rfl ?_
    exact kZ
  obtain ⟨cq1, kq1, q1a, q1b, q1c⟩ := isOf hZ e0 ha0
  obtain ⟨_, _, ⟨T1, L1, k1, n1⟩, -, X1, ⟨Lc1, hQ1, l1, y1, z1⟩, st1⟩ := X0.virtualBack hx (y := y14) (z := y14) hown (mvT hZ (wq hw 80 rfl)) (mvT hZ (wq hw 81 rfl)) (notFace_of_selects (args := #[]) (mvT hZ (wq hw 83 rfl))) (mvT hZ (wq hw 83 rfl)) (mvT hZ (wq hw 82 rfl)) (by decide) (backOf (W := 0) (rm14 l Z a0 hw [] o0 cs h0 n0 Z0 ha1 ha4 hcs) hZ (wq hw 84 rfl) (wq hw 7 rfl) (by decide) (by decide)) q1a q1c (g := (mkF m 1 #[sR o0, sI 46, sI 3] [(.ref o0)])) rfl (by rw [hml]; rfl) (Steps.refl _) (argsL := []) (rest := []) (lenOf pd_12 rfl) rfl (leW rfl) (hb hby d13_1) (fun _ _ => ⟨rfl, e0, (by decide : 0 + 0 ≤ _), (by decide : 0 + 0 ≤ _)⟩)
  dsimp only [Pt.U, Pt.locs, Pt.cells, Pt.slots] at X1 l1 y1 z1 st1 hQ1
  subst l1 y1 z1
  obtain ⟨rfl, N1q, e1⟩ := hQ1
  have hv1 : (f14 o0 cs) = (1 : Int32) := by unfold f14; decide
  rw [hv1] at st1
  have N1 := Fr.app N0 N1q
  refine Go.via (fun t k => st1.trans k) ?_
  refine Vi (T1.setTop (mkF m 8 #[sR o0, sI 46, sI 3] [(.ref o0)])) (fun tZ kZ => ?_) ?_
  · refine XS.ifNo X1.here hx rfl (hb hby d13_4) rfl ((if0 _ _).trans (feq (by decide)).1) ?_
    refine XS.aloadN X1.here hx rfl (hb hby d13_7) rfl rfl ?_
    exact kZ
  obtain ⟨T2, X2, e2, st2⟩ := getF X1 hx hZ hown (host := "") (Or.inl (wq hw 29 rfl)) Via.refl e1 ha2 (g := (mkF m 8 #[sR o0, sI 46, sI 3] [(.ref o0)])) rfl rfl (hb hby d13_8)
  refine Go.via st2 ?_
  refine Vi (T2.setTop (mkF m 13 #[sR o0, sI 46, sI 3] [(.int 3), (.int 46), (.ref b0)])) (fun tZ kZ => ?_) ?_
  · refine XS.iloadN X2.here hx rfl (hb hby d13_11) rfl ?_
    refine XS.iloadN X2.here hx rfl (hb hby d13_12) rfl ?_
    exact kZ
  obtain ⟨_, _, ⟨T3, L3, k3, n3⟩, -, X3, ⟨Lc3, hQ3, l3, y3, z3⟩, st3⟩ := Jvm.LawKit.callS X2 hx (y := y15) hown (mvT hZ (wq hw 85 rfl)) (mvT hZ (wq hw 86 rfl)) (mvT hZ (wq hw 87 rfl)) (mvT hZ (wq hw 88 rfl)) (by decide) (backOf (W := 0) (rm15n4 l Z a0 hw [] b0 fF h0 n0 Z0 ha3) hZ (wq hw 88 rfl) (wq hw 87 rfl) (by decide) (by decide)) (g := (mkF m 13 #[sR o0, sI 46, sI 3] [(.int 3), (.int 46), (.ref b0)])) rfl (by rw [hml]; rfl) (argsL := [(.ref b0), (.int 46), (.int 3)]) (rest := []) (lenOf pd_13 rfl) rfl (leW rfl) (hb hby d13_13) (fun _ _ => ⟨rfl, e2, (by decide : 0 + 0 + 0 ≤ _), (by decide : 0 + 0 + 0 ≤ _)⟩)
  dsimp only [Pt.U, Pt.locs, Pt.cells, Pt.slots] at X3 l3 y3 z3 st3 hQ3
  subst l3 y3 z3
  obtain ⟨rfl, N3q, e3⟩ := hQ3
  have N3 := Fr.app N1 N3q
  refine Go.via st3 ?_
  refine Vi (T3.setTop (mkF m 28 #[sR o0, sI 46, sI 3] [(.int (f15n4 b0 fF))])) (fun tZ kZ => ?_) ?_
  · refine XS.goto X3.here hx rfl (pc0 := 16) (pc' := 28) rfl (hb hby d13_16) (by decide) (by decide) ?_
    exact kZ
  refine Go.retI X3 hx Bd.notSynchronized Bd.returns (hb hby d13_28) (by decide) (by decide) ?_
  refine ⟨?_, N3, e3⟩
  show some ((.int (f15n4 b0 fF)) : Value) = some (.int (f13n4 o0 b0 fF cs))
  rfl
def f10n4 (o0 : Addr) (b0 : Addr) (fF : Nat → Int32) (cs : Int32) : Int32 := (f13n4 o0 b0 fF cs)
def Q10n4 (o0 : Addr) (b0 : Addr) (fF : Nat → Int32) (cs : Int32) (h0 : Heap) (n0 : Nat) (v : Option Value) (h : Heap) (L : List Loc) : Prop := v = some (.int (f10n4 o0 b0 fF cs)) ∧ Fr n0 L ∧ h = h0
theorem rm10n4 (l : Launch) (Z : State) (a0 : Array Value) (hw : ∀ d ∈ tables_1, d.before a0 Z = true) (ws : List Jvm.Cond) (o0 : Addr) (b0 : Addr) (fF : Nat → Int32) (cs : Int32) (h0 : Heap) (n0 : Nat) (Z0 : n0 ≤ h0.size) (ha0 : Exa Z h0 o0 "java/lang/String") (ha1 : Fld Z h0 o0 "java/lang/String" "coder" "B" (.int 0)) (ha2 : Fld Z h0 o0 "java/lang/String" "value" "[B" (.ref b0)) (ha3 : AV Z h0 b0 .byte 4 (fun k => .int (fF k))) (ha4 : Sta Z h0 "java/lang/String" "COMPACT_STRINGS" "Z" (.int cs)) (hcs : ¬ cs = 0) :
    MetFree l y10 (head1 (Jvm.Cond.code y10 jdk_42_method_82_code 2 (some .int) :: ws) RM_3_0_0_42) (fun a U => a = #[(.ref o0), (.int 46)] ∧ Z.Warmed39 U.vm ∧ U.heap = h0) (fun _ _ _ _ _ => True) (fun _ U o U' => ∃ v L, o = .returned v ∧ Q10n4 o0 b0 fF cs h0 n0 v U'.heap L ∧ FrameEnd U o U' L RM_3_0_0_42.cells RM_3_0_0_42.slots) := by
  refine MetFree.of_bodySF (plainFor_of_name pn_0) hisR ?_
  intro p e s m args below meth c s₁ Bd hml0 hP hK
  obtain ⟨rfl, hZ, hh⟩ := hP
  have hx := Bd.exec
  have hby := Bd.bytes
  have hml : c.maxLocals = 2 := hml0
  have hown : s.vm.findClass "java/lang/String" = some m.cls := findClass_of_methodNamed Bd.named
  have X0 : Stand p l e RM_3_0_0_42 s m _ below meth c s₁ [] 0 0 := Stand.of_body Bd
  have e0 : s₁.heap = h0 := by rw [← hh, Bd.state]; rfl
  have N0 := Fr.nil n0
  refine Go.into (P := fun oo uu => ∃ v L, oo = .returned v ∧ Q10n4 o0 b0 fF cs h0 n0 v uu.heap L ∧ FrameEnd s oo uu L RM_3_0_0_42.cells RM_3_0_0_42.slots) (ef_10_aa m o0 (46 : Int32)) ?_
  show Go p e below _ (s₁.setTop (mkF m 0 #[sR o0, sI 46] []))
  refine Vi (s₁.setTop (mkF m 3 #[sR o0, sI 46] [(.ref o0), (.int 46), (.ref o0)])) (fun tZ kZ => ?_) ?_
  · refine XS.aloadN X0.here hx rfl (hb hby d10_0) rfl rfl ?_
    refine XS.iloadN X0.here hx rfl (hb hby d10_1) rfl ?_
    refine XS.aloadN X0.here hx rfl (hb hby d10_2) rfl rfl ?_
    exact kZ
  obtain ⟨cq1, kq1, q1a, q1b, q1c⟩ := isOf hZ e0 ha0
  obtain ⟨_, _, ⟨T1, L1, k1, n1⟩, -, X1, ⟨Lc1, hQ1, l1, y1, z1⟩, st1⟩ := X0.virtualBack hx (y := y11) (z := y11) hown (mvT hZ (wq hw 64 rfl)) (mvT hZ (wq hw 65 rfl)) (notFace_of_selects (args := #[]) (mvT hZ (wq hw 67 rfl))) (mvT hZ (wq hw 67 rfl)) (mvT hZ (wq hw 66 rfl)) (by decide) (backOf (W := 2) (rm11 l Z a0 hw [] o0 b0 4 fF cs h0 n0 Z0 ha0 ha1 ha2 ha3 ha4 hcs) hZ (wq hw 68 rfl) (wq hw 7 rfl) (by decide) (by decide)) q1a q1c (g := (mkF m 3 #[sR o0, sI 46] [(.ref o0), (.int 46), (.ref o0)])) rfl (by rw [hml]; rfl) (Steps.refl _) (argsL := []) (rest := [(.int 46), (.ref o0)]) (lenOf pd_9 rfl) rfl (leW rfl) (hb hby d10_3) (fun _ _ => ⟨rfl, e0, (by decide : 0 + 0 ≤ _), (by decide : 0 + 0 ≤ _)⟩)
  dsimp only [Pt.U, Pt.locs, Pt.cells, Pt.slots] at X1 l1 y1 z1 st1 hQ1
  subst l1 y1 z1
  obtain ⟨rfl, N1q, e1⟩ := hQ1
  have hv1 : (f11 o0 b0 4 fF cs) = (Int32.ofNat 4) := by unfold f11; exact own_sh0 _
  rw [hv1] at st1
  have N1 := Fr.app N0 N1q
  refine Go.via (fun t k => st1.trans k) ?_
  refine Vi (T1.setTop (mkF m 8 #[sR o0, sI 46] [(.int 3), (.int 46), (.ref o0)])) (fun tZ kZ => ?_) ?_
  · refine XS.iconst X1.here hx rfl (hb hby d10_6) ?_
    refine XS.isub X1.here hx rfl (hb hby d10_7) rfl ?_
    exact kZ
  obtain ⟨cq2, kq2, q2a, q2b, q2c⟩ := isOf hZ e1 ha0
  obtain ⟨_, _, ⟨T2, L2, k2, n2⟩, -, X2, ⟨Lc2, hQ2, l2, y2, z2⟩, st2⟩ := X1.virtualBack hx (y := y13) (z := y13) hown (mvT hZ (wq hw 75 rfl)) (mvT hZ (wq hw 76 rfl)) (notFace_of_selects (args := #[]) (mvT hZ (wq hw 78 rfl))) (mvT hZ (wq hw 78 rfl)) (mvT hZ (wq hw 77 rfl)) (by decide) (backOf (W := 0) (rm13n4 l Z a0 hw [] o0 b0 fF cs h0 n0 Z0 ha0 ha1 ha2 ha3 ha4 hcs) hZ (wq hw 79 rfl) (wq hw 7 rfl) (by decide) (by decide)) q2a q2c (g := (mkF m 8 #[sR o0, sI 46] [(.int 3), (.int 46), (.ref o0)])) rfl (by rw [hml]; rfl) (Steps.refl _) (argsL := [(.int 46), (.int 3)]) (rest := []) (lenOf pd_11 rfl) rfl (leW rfl) (hb hby d10_8) (fun _ _ => ⟨rfl, e1, (by decide : 0 + 0 + 0 ≤ _), (by decide : 0 + 0 + 0 ≤ _)⟩)
  dsimp only [Pt.U, Pt.locs, Pt.cells, Pt.slots] at X2 l2 y2 z2 st2 hQ2
  subst l2 y2 z2
  obtain ⟨rfl, N2q, e2⟩ := hQ2
  have N2 := Fr.app N1 N2q
  refine Go.via (fun t k => st2.trans k) ?_
  refine Go.retI X2 hx Bd.notSynchronized Bd.returns (hb hby d10_11) (by decide) (by decide) ?_
  refine ⟨?_, N2, e2⟩
  show some ((.int (f13n4 o0 b0 fF cs)) : Value) = some (.int (f10n4 o0 b0 fF cs))
  rfl
theorem own_l0_0 (sn b0 : Addr) (fF : Nat → Int32) (cs : Int32)  : ((f10n0 sn b0 fF cs) + (1 : Int32)) = (Int32.ofNat 0) := by unfold f10n0 f13n0 f15n0; decide
theorem own_l1_0 (sn b0 : Addr) (fF : Nat → Int32) (cs : Int32) (h0 : ¬ fF (0 : Int32).toNatClampNeg = ((46 : Int32).toInt8.toInt32)) : ((f10n1 sn b0 fF cs) + (1 : Int32)) = (Int32.ofNat 0) := by unfold f10n1 f13n1 f15n1; rw [if_neg h0]; decide
theorem own_l1_1 (sn b0 : Addr) (fF : Nat → Int32) (cs : Int32) (h0 : fF (0 : Int32).toNatClampNeg = ((46 : Int32).toInt8.toInt32)) : ((f10n1 sn b0 fF cs) + (1 : Int32)) = (Int32.ofNat 1) := by unfold f10n1 f13n1 f15n1; rw [if_pos h0]; decide
theorem own_l2_0 (sn b0 : Addr) (fF : Nat → Int32) (cs : Int32) (h1 : ¬ fF (1 : Int32).toNatClampNeg = ((46 : Int32).toInt8.toInt32)) (h0 : ¬ fF (0 : Int32).toNatClampNeg = ((46 : Int32).toInt8.toInt32)) : ((f10n2 sn b0 fF cs) + (1 : Int32)) = (Int32.ofNat 0) := by unfold f10n2 f13n2 f15n2; rw [if_neg h1, if_neg h0]; decide
theorem own_l2_1 (sn b0 : Addr) (fF : Nat → Int32) (cs : Int32) (h1 : ¬ fF (1 : Int32).toNatClampNeg = ((46 : Int32).toInt8.toInt32)) (h0 : fF (0 : Int32).toNatClampNeg = ((46 : Int32).toInt8.toInt32)) : ((f10n2 sn b0 fF cs) + (1 : Int32)) = (Int32.ofNat 1) := by unfold f10n2 f13n2 f15n2; rw [if_neg h1, if_pos h0]; decide
theorem own_l2_2 (sn b0 : Addr) (fF : Nat → Int32) (cs : Int32) (h1 : fF (1 : Int32).toNatClampNeg = ((46 : Int32).toInt8.toInt32)) : ((f10n2 sn b0 fF cs) + (1 : Int32)) = (Int32.ofNat 2) := by unfold f10n2 f13n2 f15n2; rw [if_pos h1]; decide
theorem own_l3_0 (sn b0 : Addr) (fF : Nat → Int32) (cs : Int32) (h2 : ¬ fF (2 : Int32).toNatClampNeg = ((46 : Int32).toInt8.toInt32)) (h1 : ¬ fF (1 : Int32).toNatClampNeg = ((46 : Int32).toInt8.toInt32)) (h0 : ¬ fF (0 : Int32).toNatClampNeg = ((46 : Int32).toInt8.toInt32)) : ((f10n3 sn b0 fF cs) + (1 : Int32)) = (Int32.ofNat 0) := by unfold f10n3 f13n3 f15n3; rw [if_neg h2, if_neg h1, if_neg h0]; decide
theorem own_l3_1 (sn b0 : Addr) (fF : Nat → Int32) (cs : Int32) (h2 : ¬ fF (2 : Int32).toNatClampNeg = ((46 : Int32).toInt8.toInt32)) (h1 : ¬ fF (1 : Int32).toNatClampNeg = ((46 : Int32).toInt8.toInt32)) (h0 : fF (0 : Int32).toNatClampNeg = ((46 : Int32).toInt8.toInt32)) : ((f10n3 sn b0 fF cs) + (1 : Int32)) = (Int32.ofNat 1) := by unfold f10n3 f13n3 f15n3; rw [if_neg h2, if_neg h1, if_pos h0]; decide
theorem own_l3_2 (sn b0 : Addr) (fF : Nat → Int32) (cs : Int32) (h2 : ¬ fF (2 : Int32).toNatClampNeg = ((46 : Int32).toInt8.toInt32)) (h1 : fF (1 : Int32).toNatClampNeg = ((46 : Int32).toInt8.toInt32)) : ((f10n3 sn b0 fF cs) + (1 : Int32)) = (Int32.ofNat 2) := by unfold f10n3 f13n3 f15n3; rw [if_neg h2, if_pos h1]; decide
theorem own_l3_3 (sn b0 : Addr) (fF : Nat → Int32) (cs : Int32) (h2 : fF (2 : Int32).toNatClampNeg = ((46 : Int32).toInt8.toInt32)) : ((f10n3 sn b0 fF cs) + (1 : Int32)) = (Int32.ofNat 3) := by unfold f10n3 f13n3 f15n3; rw [if_pos h2]; decide
theorem own_l4_0 (sn b0 : Addr) (fF : Nat → Int32) (cs : Int32) (h3 : ¬ fF (3 : Int32).toNatClampNeg = ((46 : Int32).toInt8.toInt32)) (h2 : ¬ fF (2 : Int32).toNatClampNeg = ((46 : Int32).toInt8.toInt32)) (h1 : ¬ fF (1 : Int32).toNatClampNeg = ((46 : Int32).toInt8.toInt32)) (h0 : ¬ fF (0 : Int32).toNatClampNeg = ((46 : Int32).toInt8.toInt32)) : ((f10n4 sn b0 fF cs) + (1 : Int32)) = (Int32.ofNat 0) := by unfold f10n4 f13n4 f15n4; rw [if_neg h3, if_neg h2, if_neg h1, if_neg h0]; decide
theorem own_l4_1 (sn b0 : Addr) (fF : Nat → Int32) (cs : Int32) (h3 : ¬ fF (3 : Int32).toNatClampNeg = ((46 : Int32).toInt8.toInt32)) (h2 : ¬ fF (2 : Int32).toNatClampNeg = ((46 : Int32).toInt8.toInt32)) (h1 : ¬ fF (1 : Int32).toNatClampNeg = ((46 : Int32).toInt8.toInt32)) (h0 : fF (0 : Int32).toNatClampNeg = ((46 : Int32).toInt8.toInt32)) : ((f10n4 sn b0 fF cs) + (1 : Int32)) = (Int32.ofNat 1) := by unfold f10n4 f13n4 f15n4; rw [if_neg h3, if_neg h2, if_neg h1, if_pos h0]; decide
theorem own_l4_2 (sn b0 : Addr) (fF : Nat → Int32) (cs : Int32) (h3 : ¬ fF (3 : Int32).toNatClampNeg = ((46 : Int32).toInt8.toInt32)) (h2 : ¬ fF (2 : Int32).toNatClampNeg = ((46 : Int32).toInt8.toInt32)) (h1 : fF (1 : Int32).toNatClampNeg = ((46 : Int32).toInt8.toInt32)) : ((f10n4 sn b0 fF cs) + (1 : Int32)) = (Int32.ofNat 2) := by unfold f10n4 f13n4 f15n4; rw [if_neg h3, if_neg h2, if_pos h1]; decide
theorem own_l4_3 (sn b0 : Addr) (fF : Nat → Int32) (cs : Int32) (h3 : ¬ fF (3 : Int32).toNatClampNeg = ((46 : Int32).toInt8.toInt32)) (h2 : fF (2 : Int32).toNatClampNeg = ((46 : Int32).toInt8.toInt32)) : ((f10n4 sn b0 fF cs) + (1 : Int32)) = (Int32.ofNat 3) := by unfold f10n4 f13n4 f15n4; rw [if_neg h3, if_pos h2]; decide
theorem own_l4_4 (sn b0 : Addr) (fF : Nat → Int32) (cs : Int32) (h3 : fF (3 : Int32).toNatClampNeg = ((46 : Int32).toInt8.toInt32)) : ((f10n4 sn b0 fF cs) + (1 : Int32)) = (Int32.ofNat 4) := by unfold f10n4 f13n4 f15n4; rw [if_pos h3]; decide
theorem d19_0 : decode B19 0 = .ok (.aload_n 0, 1) := by decide +kernel
theorem d19_1 : decode B19 1 = .ok (.invokevirtual 505, 3) := by decide +kernel
theorem d19_4 : decode B19 4 = .ok (.istore_n 3, 1) := by decide +kernel
theorem d19_5 : decode B19 5 = .ok (.iload_n 1, 1) := by decide +kernel
theorem d19_6 : decode B19 6 = .ok (.iload_n 2, 1) := by decide +kernel
theorem d19_7 : decode B19 7 = .ok (.iload_n 3, 1) := by decide +kernel
theorem pd_17 : parseMethodDescriptor "(III)V" = some ⟨[.int, .int, .int], none⟩ := by decide +kernel
theorem d19_8 : decode B19 8 = .ok (.invokestatic 521, 3) := by decide +kernel
theorem d19_11 : decode B19 11 = .ok (.iload_n 1, 1) := by decide +kernel
theorem d19_12 : decode B19 12 = .ok (.ifCond .ne 10, 3) := by decide +kernel
theorem d19_15 : decode B19 15 = .ok (.iload_n 2, 1) := by decide +kernel
theorem d19_16 : decode B19 16 = .ok (.iload_n 3, 1) := by decide +kernel
theorem d19_17 : decode B19 17 = .ok (.if_icmp .ne 5, 3) := by decide +kernel
theorem d19_20 : decode B19 20 = .ok (.aload_n 0, 1) := by decide +kernel
theorem d19_21 : decode B19 21 = .ok (.areturn, 1) := by decide +kernel
def Q19A (Z : State) (o0 : Addr) (b0 : Addr) (nN : Nat) (fF : Nat → Int32) (cs : Int32) (sv : Value) (lN : Nat) (h0 : Heap) (n0 : Nat) (v : Option Value) (h : Heap) (L : List Loc) : Prop := v = some (.ref o0) ∧ Fr n0 L ∧ h = h0
abbrev RM_2_0_0_29 : Room := { frames := 2, cells := 0, slots := 0, locals := 29 }
theorem ef_19_aaa (m : MethodId) (x0 : Addr) (x1 : Int32) (x2 : Int32) : entryFrame m #[(.ref x0), (.int x1), (.int x2)] 5 = mkF m 0 #[.val (.ref x0), .val (.int x1), .val (.int x2), .unset, .unset] [] := by first | (simp [entryFrame, mkF, argsToLocals, Value.category]; done) | rfl
theorem rm19A (l : Launch) (Z : State) (a0 : Array Value) (hw : ∀ d ∈ tables_1, d.before a0 Z = true) (ws : List Jvm.Cond) (o0 : Addr) (b0 : Addr) (nN : Nat) (fF : Nat → Int32) (cs : Int32) (sv : Value) (lN : Nat) (h0 : Heap) (n0 : Nat) (Z0 : n0 ≤ h0.size) (ha0 : Exa Z h0 o0 "java/lang/String") (ha1 : Fld Z h0 o0 "java/lang/String" "coder" "B" (.int 0)) (ha2 : Fld Z h0 o0 "java/lang/String" "value" "[B" (.ref b0)) (ha3 : AV Z h0 b0 .byte nN (fun k => .int (fF k))) (ha4 : Sta Z h0 "java/lang/String" "COMPACT_STRINGS" "Z" (.int cs)) (ha5 : Sta Z h0 "jdk/internal/util/Preconditions" "SIOOBE_FORMATTER" "Ljava/util/function/BiFunction;" sv) (hcs : ¬ cs = 0) (hsv : sv.isRef = true) (hq0 : ¬ (Int32.ofNat lN) < 0) (hq1 : ¬ (Int32.ofNat nN) < (Int32.ofNat lN)) (hq2 : ¬ (Int32.ofNat nN) < (Int32.ofNat nN)) (hlo0 : (Int32.ofNat lN) = (0 : Int32)) :
    MetFree l y19 (head1 (Jvm.Cond.code y19 jdk_42_method_92_code 5 (some (.object "java/lang/String")) :: ws) RM_2_0_0_29) (fun a U => a = #[(.ref o0), (.int (Int32.ofNat lN)), (.int (Int32.ofNat nN))] ∧ Z.Warmed39 U.vm ∧ U.heap = h0) (fun _ _ _ _ _ => True) (fun _ U o U' => ∃ v L, o = .returned v ∧ Q19A Z o0 b0 nN fF cs sv lN h0 n0 v U'.heap L ∧ FrameEnd U o U' L RM_2_0_0_29.cells RM_2_0_0_29.slots) := by
  refine MetFree.of_bodySF (plainFor_of_name pn_0) hisR ?_
  intro p e s m args below meth c s₁ Bd hml0 hP hK
  obtain ⟨rfl, hZ, hh⟩ := hP
  have hx := Bd.exec
  have hby := Bd.bytes
  have hml : c.maxLocals = 5 := hml0
  have hown : s.vm.findClass "java/lang/String" = some m.cls := findClass_of_methodNamed Bd.named
  have X0 : Stand p l e RM_2_0_0_29 s m _ below meth c s₁ [] 0 0 := Stand.of_body Bd
  have e0 : s₁.heap = h0 := by rw [← hh, Bd.state]; rfl
  have N0 := Fr.nil n0
  refine Go.into (P := fun oo uu => ∃ v L, oo = .returned v ∧ Q19A Z o0 b0 nN fF cs sv lN h0 n0 v uu.heap L ∧ FrameEnd s oo uu L RM_2_0_0_29.cells RM_2_0_0_29.slots) (ef_19_aaa m o0 (Int32.ofNat lN) (Int32.ofNat nN)) ?_
  show Go p e below _ (s₁.setTop (mkF m 0 #[sR o0, sI (Int32.ofNat lN), sI (Int32.ofNat nN), .unset, .unset] []))
  refine Vi (s₁.setTop (mkF m 1 #[sR o0, sI (Int32.ofNat lN), sI (Int32.ofNat nN), .unset, .unset] [(.ref o0)])) (fun tZ kZ => ?_) ?_
  · refine XS.aloadN X0.here hx rfl (hb hby d19_0) rfl rfl ?_
    exact kZ
  obtain ⟨cq1, kq1, q1a, q1b, q1c⟩ := isOf hZ e0 ha0
  obtain ⟨_, _, ⟨T1, L1, k1, n1⟩, -, X1, ⟨Lc1, hQ1, l1, y1, z1⟩, st1⟩ := X0.virtualBack hx (y := y11) (z := y11) hown (mvT hZ (wq hw 64 rfl)) (mvT hZ (wq hw 65 rfl)) (notFace_of_selects (args := #[]) (mvT hZ (wq hw 67 rfl))) (mvT hZ (wq hw 67 rfl)) (mvT hZ (wq hw 66 rfl)) (by decide) (backOf (W := 0) (rm11 l Z a0 hw [] o0 b0 nN fF cs h0 n0 Z0 ha0 ha1 ha2 ha3 ha4 hcs) hZ (wq hw 68 rfl) (wq hw 7 rfl) (by decide) (by decide)) q1a q1c (g := (mkF m 1 #[sR o0, sI (Int32.ofNat lN), sI (Int32.ofNat nN), .unset, .unset] [(.ref o0)])) rfl (by rw [hml]; rfl) (Steps.refl _) (argsL := []) (rest := []) (lenOf pd_9 rfl) rfl (leW rfl) (hb hby d19_1) (fun _ _ => ⟨rfl, e0, (by decide : 0 + 0 ≤ _), (by decide : 0 + 0 ≤ _)⟩)
  dsimp only [Pt.U, Pt.locs, Pt.cells, Pt.slots] at X1 l1 y1 z1 st1 hQ1
  subst l1 y1 z1
  obtain ⟨rfl, N1q, e1⟩ := hQ1
  have hv1 : (f11 o0 b0 nN fF cs) = (Int32.ofNat nN) := by unfold f11; exact own_sh0 _
  rw [hv1] at st1
  have N1 := Fr.app N0 N1q
  refine Go.via (fun t k => st1.trans k) ?_
  refine Vi (T1.setTop (mkF m 8 #[sR o0, sI (Int32.ofNat lN), sI (Int32.ofNat nN), sI (Int32.ofNat nN), .unset] [(.int (Int32.ofNat nN)), (.int (Int32.ofNat nN)), (.int (Int32.ofNat lN))])) (fun tZ kZ => ?_) ?_
  · refine XS.istoreN X1.here hx rfl (hb hby d19_4) rfl (l' := #[sR o0, sI (Int32.ofNat lN), sI (Int32.ofNat nN), sI (Int32.ofNat nN), .unset]) rfl ?_
    refine XS.iloadN X1.here hx rfl (hb hby d19_5) rfl ?_
    refine XS.iloadN X1.here hx rfl (hb hby d19_6) rfl ?_
    refine XS.iloadN X1.here hx rfl (hb hby d19_7) rfl ?_
    exact kZ
  obtain ⟨_, _, ⟨T2, L2, k2, n2⟩, -, X2, ⟨Lc2, hQ2, l2, y2, z2⟩, st2⟩ := Jvm.LawKit.callS X1 hx (y := y20) hown (mvT hZ (wq hw 106 rfl)) (mvT hZ (wq hw 107 rfl)) (mvT hZ (wq hw 7 rfl)) (mvT hZ (wq hw 108 rfl)) (by decide) (backOf (W := 0) (rm20 l Z a0 hw [] (Int32.ofNat lN) (Int32.ofNat nN) (Int32.ofNat nN) sv h0 n0 Z0 ha5 hq0 hq1 hq2 hsv) hZ (wq hw 108 rfl) (wq hw 7 rfl) (by decide) (by decide)) (g := (mkF m 8 #[sR o0, sI (Int32.ofNat lN), sI (Int32.ofNat nN), sI (Int32.ofNat nN), .unset] [(.int (Int32.ofNat nN)), (.int (Int32.ofNat nN)), (.int (Int32.ofNat lN))])) rfl (by rw [hml]; rfl) (argsL := [(.int (Int32.ofNat lN)), (.int (Int32.ofNat nN)), (.int (Int32.ofNat nN))]) (rest := []) (lenOf pd_17 rfl) rfl (leW rfl) (hb hby d19_8) (fun _ _ => ⟨rfl, e1, (by decide : 0 + 0 + 0 ≤ _), (by decide : 0 + 0 + 0 ≤ _)⟩)
  dsimp only [Pt.U, Pt.locs, Pt.cells, Pt.slots] at X2 l2 y2 z2 st2 hQ2
  subst l2 y2 z2
  obtain ⟨rfl, N2q, e2⟩ := hQ2
  have N2 := Fr.app N1 N2q
  refine Go.via st2 ?_
  refine Vi (T2.setTop (mkF m 21 #[sR o0, sI (Int32.ofNat lN), sI (Int32.ofNat nN), sI (Int32.ofNat nN), .unset] [(.ref o0)])) (fun tZ kZ => ?_) ?_
  · refine XS.iloadN X2.here hx rfl (hb hby d19_11) rfl ?_
    refine XS.ifNo X2.here hx rfl (hb hby d19_12) rfl ((if0 _ _).trans (teq hlo0).2) ?_
    refine XS.iloadN X2.here hx rfl (hb hby d19_15) rfl ?_
    refine XS.iloadN X2.here hx rfl (hb hby d19_16) rfl ?_
    refine XS.icmpNo X2.here hx rfl (hb hby d19_17) rfl (teq rfl).2 ?_
    refine XS.aloadN X2.here hx rfl (hb hby d19_20) rfl rfl ?_
    exact kZ
  refine Go.retR X2 hx Bd.notSynchronized Bd.returns rfl rfl (hb hby d19_21) (by decide) (by decide) ?_
  rw [e2]
  exact ⟨rfl, N2, rfl⟩
theorem d18_0 : decode B18 0 = .ok (.aload_n 0, 1) := by decide +kernel
theorem d18_1 : decode B18 1 = .ok (.iload_n 1, 1) := by decide +kernel
theorem d18_2 : decode B18 2 = .ok (.aload_n 0, 1) := by decide +kernel
theorem d18_3 : decode B18 3 = .ok (.invokevirtual 505, 3) := by decide +kernel
theorem pd_16 : parseMethodDescriptor "(II)Ljava/lang/String;" = some ⟨[.int, .int], some (.object "java/lang/String")⟩ := by decide +kernel
theorem d18_6 : decode B18 6 = .ok (.invokevirtual 681, 3) := by decide +kernel
theorem d18_9 : decode B18 9 = .ok (.areturn, 1) := by decide +kernel
def Q18A (Z : State) (o0 : Addr) (b0 : Addr) (nN : Nat) (fF : Nat → Int32) (cs : Int32) (sv : Value) (lN : Nat) (h0 : Heap) (n0 : Nat) (v : Option Value) (h : Heap) (L : List Loc) : Prop := v = some (.ref o0) ∧ Fr n0 L ∧ h = h0
abbrev RM_3_0_0_45 : Room := { frames := 3, cells := 0, slots := 0, locals := 45 }
theorem ef_18_aa (m : MethodId) (x0 : Addr) (x1 : Int32) : entryFrame m #[(.ref x0), (.int x1)] 2 = mkF m 0 #[.val (.ref x0), .val (.int x1)] [] := by first | (simp [entryFrame, mkF, argsToLocals, Value.category]; done) | rfl
theorem rm18A (l : Launch) (Z : State) (a0 : Array Value) (hw : ∀ d ∈ tables_1, d.before a0 Z = true) (ws : List Jvm.Cond) (o0 : Addr) (b0 : Addr) (nN : Nat) (fF : Nat → Int32) (cs : Int32) (sv : Value) (lN : Nat) (h0 : Heap) (n0 : Nat) (Z0 : n0 ≤ h0.size) (ha0 : Exa Z h0 o0 "java/lang/String") (ha1 : Fld Z h0 o0 "java/lang/String" "coder" "B" (.int 0)) (ha2 : Fld Z h0 o0 "java/lang/String" "value" "[B" (.ref b0)) (ha3 : AV Z h0 b0 .byte nN (fun k => .int (fF k))) (ha4 : Sta Z h0 "java/lang/String" "COMPACT_STRINGS" "Z" (.int cs)) (ha5 : Sta Z h0 "jdk/internal/util/Preconditions" "SIOOBE_FORMATTER" "Ljava/util/function/BiFunction;" sv) (hcs : ¬ cs = 0) (hsv : sv.isRef = true) (hq0 : ¬ (Int32.ofNat lN) < 0) (hq1 : ¬ (Int32.ofNat nN) < (Int32.ofNat lN)) (hq2 : ¬ (Int32.ofNat nN) < (Int32.ofNat nN)) (hlo0 : (Int32.ofNat lN) = (0 : Int32)) :
    MetFree l y18 (head1 (Jvm.Cond.code y18 jdk_42_method_91_code 2 (some (.object "java/lang/String")) :: ws) RM_3_0_0_45) (fun a U => a = #[(.ref o0), (.int (Int32.ofNat lN))] ∧ Z.Warmed39 U.vm ∧ U.heap = h0) (fun _ _ _ _ _ => True) (fun _ U o U' => ∃ v L, o = .returned v ∧ Q18A Z o0 b0 nN fF cs sv lN h0 n0 v U'.heap L ∧ FrameEnd U o U' L RM_3_0_0_45.cells RM_3_0_0_45.slots) := by
  refine MetFree.of_bodySF (plainFor_of_name pn_0) hisR ?_
  intro p e s m args below meth c s₁ Bd hml0 hP hK
  obtain ⟨rfl, hZ, hh⟩ := hP
  have hx := Bd.exec
  have hby := Bd.bytes
  have hml : c.maxLocals = 2 := hml0
  have hown : s.vm.findClass "java/lang/String" = some m.cls := findClass_of_methodNamed Bd.named
  have X0 : Stand p l e RM_3_0_0_45 s m _ below meth c s₁ [] 0 0 := Stand.of_body Bd
  have e0 : s₁.heap = h0 := by rw [← hh, Bd.state]; rfl
  have N0 := Fr.nil n0
  refine Go.into (P := fun oo uu => ∃ v L, oo = .returned v ∧ Q18A Z o0 b0 nN fF cs sv lN h0 n0 v uu.heap L ∧ FrameEnd s oo uu L RM_3_0_0_45.cells RM_3_0_0_45.slots) (ef_18_aa m o0 (Int32.ofNat lN)) ?_
  show Go p e below _ (s₁.setTop (mkF m 0 #[sR o0, sI (Int32.ofNat lN)] []))
  refine Vi (s₁.setTop (mkF m 3 #[sR o0, sI (Int32.ofNat lN)] [(.ref o0), (.int (Int32.ofNat lN)), (.ref o0)])) (fun tZ kZ => ?_) ?_
  · refine XS.aloadN X0.here hx rfl (hb hby d18_0) rfl rfl ?_
    refine XS.iloadN X0.here hx rfl (hb hby d18_1) rfl ?_
    refine XS.aloadN X0.here hx rfl (hb hby d18_2) rfl rfl ?_
    exact kZ
  obtain ⟨cq1, kq1, q1a, q1b, q1c⟩ := isOf hZ e0 ha0
  obtain ⟨_, _, ⟨T1, L1, k1, n1⟩, -, X1, ⟨Lc1, hQ1, l1, y1, z1⟩, st1⟩ := X0.virtualBack hx (y := y11) (z := y11) hown (mvT hZ (wq hw 64 rfl)) (mvT hZ (wq hw 65 rfl)) (notFace_of_selects (args := #[]) (mvT hZ (wq hw 67 rfl))) (mvT hZ (wq hw 67 rfl)) (mvT hZ (wq hw 66 rfl)) (by decide) (backOf (W := 2) (rm11 l Z a0 hw [] o0 b0 nN fF cs h0 n0 Z0 ha0 ha1 ha2 ha3 ha4 hcs) hZ (wq hw 68 rfl) (wq hw 7 rfl) (by decide) (by decide)) q1a q1c (g := (mkF m 3 #[sR o0, sI (Int32.ofNat lN)] [(.ref o0), (.int (Int32.ofNat lN)), (.ref o0)])) rfl (by rw [hml]; rfl) (Steps.refl _) (argsL := []) (rest := [(.int (Int32.ofNat lN)), (.ref o0)]) (lenOf pd_9 rfl) rfl (leW rfl) (hb hby d18_3) (fun _ _ => ⟨rfl, e0, (by decide : 0 + 0 ≤ _), (by decide : 0 + 0 ≤ _)⟩)
  dsimp only [Pt.U, Pt.locs, Pt.cells, Pt.slots] at X1 l1 y1 z1 st1 hQ1
  subst l1 y1 z1
  obtain ⟨rfl, N1q, e1⟩ := hQ1
  have hv1 : (f11 o0 b0 nN fF cs) = (Int32.ofNat nN) := by unfold f11; exact own_sh0 _
  rw [hv1] at st1
  have N1 := Fr.app N0 N1q
  refine Go.via (fun t k => st1.trans k) ?_
  obtain ⟨cq2, kq2, q2a, q2b, q2c⟩ := isOf hZ e1 ha0
  obtain ⟨_, _, ⟨T2, L2, k2, n2⟩, -, X2, ⟨Lc2, hQ2, l2, y2, z2⟩, st2⟩ := X1.virtualBack hx (y := y19) (z := y19) hown (mvT hZ (wq hw 101 rfl)) (mvT hZ (wq hw 102 rfl)) (notFace_of_selects (args := #[]) (mvT hZ (wq hw 104 rfl))) (mvT hZ (wq hw 104 rfl)) (mvT hZ (wq hw 103 rfl)) (by decide) (backOf (W := 0) (rm19A l Z a0 hw [] o0 b0 nN fF cs sv lN h0 n0 Z0 ha0 ha1 ha2 ha3 ha4 ha5 hcs hsv hq0 hq1 hq2 hlo0) hZ (wq hw 105 rfl) (wq hw 7 rfl) (by decide) (by decide)) q2a q2c (g := (mkF m 6 #[sR o0, sI (Int32.ofNat lN)] [(.int (Int32.ofNat nN)), (.int (Int32.ofNat lN)), (.ref o0)])) rfl (by rw [hml]; rfl) (Steps.refl _) (argsL := [(.int (Int32.ofNat lN)), (.int (Int32.ofNat nN))]) (rest := []) (lenOf pd_16 rfl) rfl (leW rfl) (hb hby d18_6) (fun _ _ => ⟨rfl, e1, (by decide : 0 + 0 + 0 ≤ _), (by decide : 0 + 0 + 0 ≤ _)⟩)
  dsimp only [Pt.U, Pt.locs, Pt.cells, Pt.slots] at X2 l2 y2 z2 st2 hQ2
  subst l2 y2 z2
  obtain ⟨rfl, N2q, e2⟩ := hQ2
  have N2 := Fr.app N1 N2q
  refine Go.via (fun t k => st2.trans k) ?_
  refine Go.retR X2 hx Bd.notSynchronized Bd.returns rfl rfl (hb hby d18_9) (by decide) (by decide) ?_
  rw [e2]
  exact ⟨rfl, N2, rfl⟩
theorem d9_0 : decode B9 0 = .ok (.aload_n 0, 1) := by decide +kernel
theorem d9_1 : decode B9 1 = .ok (.getfield 13, 3) := by decide +kernel
theorem d9_4 : decode B9 4 = .ok (.aload_n 0, 1) := by decide +kernel
theorem d9_5 : decode B9 5 = .ok (.getfield 13, 3) := by decide +kernel
theorem d9_8 : decode B9 8 = .ok (.bipush 46, 2) := by decide +kernel
theorem pd_8 : parseMethodDescriptor "(I)I" = some ⟨[.int], some .int⟩ := by decide +kernel
theorem d9_10 : decode B9 10 = .ok (.invokevirtual 49, 3) := by decide +kernel
theorem d9_13 : decode B9 13 = .ok (.iconst 1, 1) := by decide +kernel
theorem d9_14 : decode B9 14 = .ok (.iadd, 1) := by decide +kernel
theorem pd_15 : parseMethodDescriptor "(I)Ljava/lang/String;" = some ⟨[.int], some (.object "java/lang/String")⟩ := by decide +kernel
theorem d9_15 : decode B9 15 = .ok (.invokevirtual 53, 3) := by decide +kernel
theorem d9_18 : decode B9 18 = .ok (.areturn, 1) := by decide +kernel
def Q9n0A (Z : State) (o0 : Addr) (sn : Addr) (b0 : Addr) (fF : Nat → Int32) (cs : Int32) (sv : Value) (lN : Nat) (h0 : Heap) (n0 : Nat) (v : Option Value) (h : Heap) (L : List Loc) : Prop := v = some (.ref sn) ∧ Fr n0 L ∧ h = h0
abbrev RM_4_0_0_58 : Room := { frames := 4, cells := 0, slots := 0, locals := 58 }
theorem ef_9_a (m : MethodId) (x0 : Addr) : entryFrame m #[(.ref x0)] 1 = mkF m 0 #[.val (.ref x0)] [] := by first | (simp [entryFrame, mkF, argsToLocals, Value.category]; done) | rfl
theorem rm9n0A (l : Launch) (Z : State) (a0 : Array Value) (hw : ∀ d ∈ tables_1, d.before a0 Z = true) (ws : List Jvm.Cond) (o0 : Addr) (sn : Addr) (b0 : Addr) (fF : Nat → Int32) (cs : Int32) (sv : Value) (lN : Nat) (h0 : Heap) (n0 : Nat) (Z0 : n0 ≤ h0.size) (ha0 : Exa Z h0 o0 "com/example/bindery/bindery/compiler/JavaType") (ha1 : Fld Z h0 o0 "com/example/bindery/bindery/compiler/JavaType" "name" "Ljava/lang/String;" (.ref sn)) (ha2 : Exa Z h0 sn "java/lang/String") (ha3 : Fld Z h0 sn "java/lang/String" "coder" "B" (.int 0)) (ha4 : Fld Z h0 sn "java/lang/String" "value" "[B" (.ref b0)) (ha5 : AV Z h0 b0 .byte 0 (fun k => .int (fF k))) (ha6 : Sta Z h0 "java/lang/String" "COMPACT_STRINGS" "Z" (.int cs)) (ha7 : Sta Z h0 "jdk/internal/util/Preconditions" "SIOOBE_FORMATTER" "Ljava/util/function/BiFunction;" sv) (hcs : ¬ cs = 0) (hsv : sv.isRef = true) (hq0 : ¬ (Int32.ofNat lN) < 0) (hq1 : ¬ (0 : Int32) < (Int32.ofNat lN)) (hq2 : ¬ (0 : Int32) < (0 : Int32)) (hlo0 : (Int32.ofNat lN) = (0 : Int32)) (hld : ((f10n0 sn b0 fF cs) + (1 : Int32)) = (Int32.ofNat lN)) :
    MetFree l y9 (head1 (Jvm.Cond.code y9 prog_5_method_8_code 1 (some (.object "java/lang/String")) :: ws) RM_4_0_0_58) (fun a U => a = #[(.ref o0)] ∧ Z.Warmed39 U.vm ∧ U.heap = h0) (fun _ _ _ _ _ => True) (fun _ U o U' => ∃ v L, o = .returned v ∧ Q9n0A Z o0 sn b0 fF cs sv lN h0 n0 v U'.heap L ∧ FrameEnd U o U' L RM_4_0_0_58.cells RM_4_0_0_58.slots) := by
  refine MetFree.of_bodySF (plainFor_of_name pn_5) hisR ?_
  intro p e s m args below meth c s₁ Bd hml0 hP hK
  obtain ⟨rfl, hZ, hh⟩ := hP
  have hx := Bd.exec
  have hby := Bd.bytes
  have hml : c.maxLocals = 1 := hml0
  have hown : s.vm.findClass "com/example/bindery/bindery/compiler/JavaType" = some m.cls := findClass_of_methodNamed Bd.named
  have X0 : Stand p l e RM_4_0_0_58 s m _ below meth c s₁ [] 0 0 := Stand.of_body Bd
  have e0 : s₁.heap = h0 := by rw [← hh, Bd.state]; rfl
  have N0 := Fr.nil n0
  refine Go.into (P := fun oo uu => ∃ v L, oo = .returned v ∧ Q9n0A Z o0 sn b0 fF cs sv lN h0 n0 v uu.heap L ∧ FrameEnd s oo uu L RM_4_0_0_58.cells RM_4_0_0_58.slots) (ef_9_a m o0) ?_
  show Go p e below _ (s₁.setTop (mkF m 0 #[sR o0] []))
  refine Vi (s₁.setTop (mkF m 1 #[sR o0] [(.ref o0)])) (fun tZ kZ => ?_) ?_
  · refine XS.aloadN X0.here hx rfl (hb hby d9_0) rfl rfl ?_
    exact kZ
  obtain ⟨T1, X1, e1, st1⟩ := getF X0 hx hZ hown (host := "") (Or.inl (wq hw 50 rfl)) Via.refl e0 ha1 (g := (mkF m 1 #[sR o0] [(.ref o0)])) rfl rfl (hb hby d9_1)
  refine Go.via st1 ?_
  refine Vi (T1.setTop (mkF m 5 #[sR o0] [(.ref o0), (.ref sn)])) (fun tZ kZ => ?_) ?_
  · refine XS.aloadN X1.here hx rfl (hb hby d9_4) rfl rfl ?_
    exact kZ
  obtain ⟨T2, X2, e2, st2⟩ := getF X1 hx hZ hown (host := "") (Or.inl (wq hw 50 rfl)) Via.refl e1 ha1 (g := (mkF m 5 #[sR o0] [(.ref o0), (.ref sn)])) rfl rfl (hb hby d9_5)
  refine Go.via st2 ?_
  refine Vi (T2.setTop (mkF m 10 #[sR o0] [(.int 46), (.ref sn), (.ref sn)])) (fun tZ kZ => ?_) ?_
  · refine XS.bipush X2.here hx rfl (hb hby d9_8) ?_
    exact kZ
  obtain ⟨cq3, kq3, q3a, q3b, q3c⟩ := isOf hZ e2 ha2
  obtain ⟨_, _, ⟨T3, L3, k3, n3⟩, -, X3, ⟨Lc3, hQ3, l3, y3, z3⟩, st3⟩ := X2.virtualBack hx (y := y10) (z := y10) hown (mvT hZ (wq hw 59 rfl)) (mvT hZ (wq hw 60 rfl)) (notFace_of_selects (args := #[]) (mvT hZ (wq hw 62 rfl))) (mvT hZ (wq hw 62 rfl)) (mvT hZ (wq hw 61 rfl)) (by decide) (backOf (W := 1) (rm10n0 l Z a0 hw [] sn b0 fF cs h0 n0 Z0 ha2 ha3 ha4 ha5 ha6 hcs) hZ (wq hw 63 rfl) (wq hw 7 rfl) (by decide) (by decide)) q3a q3c (g := (mkF m 10 #[sR o0] [(.int 46), (.ref sn), (.ref sn)])) rfl (by rw [hml]; rfl) (Steps.refl _) (argsL := [(.int 46)]) (rest := [(.ref sn)]) (lenOf pd_8 rfl) rfl (leW rfl) (hb hby d9_10) (fun _ _ => ⟨rfl, e2, (by decide : 0 + 0 ≤ _), (by decide : 0 + 0 ≤ _)⟩)
  dsimp only [Pt.U, Pt.locs, Pt.cells, Pt.slots] at X3 l3 y3 z3 st3 hQ3
  subst l3 y3 z3
  obtain ⟨rfl, N3q, e3⟩ := hQ3
  have N3 := Fr.app N0 N3q
  refine Go.via (fun t k => st3.trans k) ?_
  refine Vi (T3.setTop (mkF m 15 #[sR o0] [(.int ((f10n0 sn b0 fF cs) + (1 : Int32))), (.ref sn)])) (fun tZ kZ => ?_) ?_
  · refine XS.iconst X3.here hx rfl (hb hby d9_13) ?_
    refine XS.iadd X3.here hx rfl (hb hby d9_14) rfl ?_
    exact kZ
  rw [hld]
  show Go p e below _ (T3.setTop (mkF m 15 #[sR o0] [(.int (Int32.ofNat lN)), (.ref sn)]))
  obtain ⟨cq4, kq4, q4a, q4b, q4c⟩ := isOf hZ e3 ha2
  obtain ⟨_, _, ⟨T4, L4, k4, n4⟩, -, X4, ⟨Lc4, hQ4, l4, y4, z4⟩, st4⟩ := X3.virtualBack hx (y := y18) (z := y18) hown (mvT hZ (wq hw 96 rfl)) (mvT hZ (wq hw 97 rfl)) (notFace_of_selects (args := #[]) (mvT hZ (wq hw 99 rfl))) (mvT hZ (wq hw 99 rfl)) (mvT hZ (wq hw 98 rfl)) (by decide) (backOf (W := 0) (rm18A l Z a0 hw [] sn b0 0 fF cs sv lN h0 n0 Z0 ha2 ha3 ha4 ha5 ha6 ha7 hcs hsv hq0 hq1 hq2 hlo0) hZ (wq hw 100 rfl) (wq hw 7 rfl) (by decide) (by decide)) q4a q4c (g := (mkF m 15 #[sR o0] [(.int (Int32.ofNat lN)), (.ref sn)])) rfl (by rw [hml]; rfl) (Steps.refl _) (argsL := [(.int (Int32.ofNat lN))]) (rest := []) (lenOf pd_15 rfl) rfl (leW rfl) (hb hby d9_15) (fun _ _ => ⟨rfl, e3, (by decide : 0 + 0 + 0 ≤ _), (by decide : 0 + 0 + 0 ≤ _)⟩)
  dsimp only [Pt.U, Pt.locs, Pt.cells, Pt.slots] at X4 l4 y4 z4 st4 hQ4
  subst l4 y4 z4
  obtain ⟨rfl, N4q, e4⟩ := hQ4
  have N4 := Fr.app N3 N4q
  refine Go.via (fun t k => st4.trans k) ?_
  refine Go.retR X4 hx Bd.notSynchronized Bd.returns rfl rfl (hb hby d9_18) (by decide) (by decide) ?_
  rw [e4]
  exact ⟨rfl, N4, rfl⟩
def Q9n1A (Z : State) (o0 : Addr) (sn : Addr) (b0 : Addr) (fF : Nat → Int32) (cs : Int32) (sv : Value) (lN : Nat) (h0 : Heap) (n0 : Nat) (v : Option Value) (h : Heap) (L : List Loc) : Prop := v = some (.ref sn) ∧ Fr n0 L ∧ h = h0
theorem rm9n1A (l : Launch) (Z : State) (a0 : Array Value) (hw : ∀ d ∈ tables_1, d.before a0 Z = true) (ws : List Jvm.Cond) (o0 : Addr) (sn : Addr) (b0 : Addr) (fF : Nat → Int32) (cs : Int32) (sv : Value) (lN : Nat) (h0 : Heap) (n0 : Nat) (Z0 : n0 ≤ h0.size) (ha0 : Exa Z h0 o0 "com/example/bindery/bindery/compiler/JavaType") (ha1 : Fld Z h0 o0 "com/example/bindery/bindery/compiler/JavaType" "name" "Ljava/lang/String;" (.ref sn)) (ha2 : Exa Z h0 sn "java/lang/String") (ha3 : Fld Z h0 sn "java/lang/String" "coder" "B" (.int 0)) (ha4 : Fld Z h0 sn "java/lang/String" "value" "[B" (.ref b0)) (ha5 : AV Z h0 b0 .byte 1 (fun k => .int (fF k))) (ha6 : Sta Z h0 "java/lang/String" "COMPACT_STRINGS" "Z" (.int cs)) (ha7 : Sta Z h0 "jdk/internal/util/Preconditions" "SIOOBE_FORMATTER" "Ljava/util/function/BiFunction;" sv) (hcs : ¬ cs = 0) (hsv : sv.isRef = true) (hq0 : ¬ (Int32.ofNat lN) < 0) (hq1 : ¬ (1 : Int32) < (Int32.ofNat lN)) (hq2 : ¬ (1 : Int32) < (1 : Int32)) (hlo0 : (Int32.ofNat lN) = (0 : Int32)) (hld : ((f10n1 sn b0 fF cs) + (1 : Int32)) = (Int32.ofNat lN)) :
    MetFree l y9 (head1 (Jvm.Cond.code y9 prog_5_method_8_code 1 (some (.object "java/lang/String")) :: ws) RM_4_0_0_58) (fun a U => a = #[(.ref o0)] ∧ Z.Warmed39 U.vm ∧ U.heap = h0) (fun _ _ _ _ _ => True) (fun _ U o U' => ∃ v L, o = .returned v ∧ Q9n1A Z o0 sn b0 fF cs sv lN h0 n0 v U'.heap L ∧ FrameEnd U o U' L RM_4_0_0_58.cells RM_4_0_0_58.slots) := by
  refine MetFree.of_bodySF (plainFor_of_name pn_5) hisR ?_
  intro p e s m args below meth c s₁ Bd hml0 hP hK
  obtain ⟨rfl, hZ, hh⟩ := hP
  have hx := Bd.exec
  have hby := Bd.bytes
  have hml : c.maxLocals = 1 := hml0
  have hown : s.vm.findClass "com/example/bindery/bindery/compiler/JavaType" = some m.cls := findClass_of_methodNamed Bd.named
  have X0 : Stand p l e RM_4_0_0_58 s m _ below meth c s₁ [] 0 0 := Stand.of_body Bd
  have e0 : s₁.heap = h0 := by rw [← hh, Bd.state]; rfl
  have N0 := Fr.nil n0
  refine Go.into (P := fun oo uu => ∃ v L, oo = .returned v ∧ Q9n1A Z o0 sn b0 fF cs sv lN h0 n0 v uu.heap L ∧ FrameEnd s oo uu L RM_4_0_0_58.cells RM_4_0_0_58.slots) (ef_9_a m o0) ?_
  show Go p e below _ (s₁.setTop (mkF m 0 #[sR o0] []))
  refine Vi (s₁.setTop (mkF m 1 #[sR o0] [(.ref o0)])) (fun tZ kZ => ?_) ?_
  · refine XS.aloadN X0.here hx rfl (hb hby d9_0) rfl rfl ?_
    exact kZ
  obtain ⟨T1, X1, e1, st1⟩ := getF X0 hx hZ hown (host := "") (Or.inl (wq hw 50 rfl)) Via.refl e0 ha1 (g := (mkF m 1 #[sR o0] [(.ref o0)])) rfl rfl (hb hby d9_1)
  refine Go.via st1 ?_
  refine Vi (T1.setTop (mkF m 5 #[sR o0] [(.ref o0), (.ref sn)])) (fun tZ kZ => ?_) ?_
  · refine XS.aloadN X1.here hx rfl (hb hby d9_4) rfl rfl ?_
    exact kZ
  obtain ⟨T2, X2, e2, st2⟩ := getF X1 hx hZ hown (host := "") (Or.inl (wq hw 50 rfl)) Via.refl e1 ha1 (g := (mkF m 5 #[sR o0] [(.ref o0), (.ref sn)])) rfl rfl (hb hby d9_5)
  refine Go.via st2 ?_
  refine Vi (T2.setTop (mkF m 10 #[sR o0] [(.int 46), (.ref sn), (.ref sn)])) (fun tZ kZ => ?_) ?_
  · refine XS.bipush X2.here hx rfl (hb hby d9_8) ?_
    exact kZ
  obtain ⟨cq3, kq3, q3a, q3b, q3c⟩ := isOf hZ e2 ha2
  obtain ⟨_, _, ⟨T3, L3, k3, n3⟩, -, X3, ⟨Lc3, hQ3, l3, y3, z3⟩, st3⟩ := X2.virtualBack hx (y := y10) (z := y10) hown (mvT hZ (wq hw 59 rfl)) (mvT hZ (wq hw 60 rfl)) (notFace_of_selects (args := #[]) (mvT hZ (wq hw 62 rfl))) (mvT hZ (wq hw 62 rfl)) (mvT hZ (wq hw 61 rfl)) (by decide) (backOf (W := 1) (rm10n1 l Z a0 hw [] sn b0 fF cs h0 n0 Z0 ha2 ha3 ha4 ha5 ha6 hcs) hZ (wq hw 63 rfl) (wq hw 7 rfl) (by decide) (by decide)) q3a q3c (g := (mkF m 10 #[sR o0] [(.int 46), (.ref sn), (.ref sn)])) rfl (by rw [hml]; rfl) (Steps.refl _) (argsL := [(.int 46)]) (rest := [(.ref sn)]) (lenOf pd_8 rfl) rfl (leW rfl) (hb hby d9_10) (fun _ _ => ⟨rfl, e2, (by decide : 0 + 0 ≤ _), (by decide : 0 + 0 ≤ _)⟩)
  dsimp only [Pt.U, Pt.locs, Pt.cells, Pt.slots] at X3 l3 y3 z3 st3 hQ3
  subst l3 y3 z3
  obtain ⟨rfl, N3q, e3⟩ := hQ3
  have N3 := Fr.app N0 N3q
  refine Go.via (fun t k => st3.trans k) ?_
  refine Vi (T3.setTop (mkF m 15 #[sR o0] [(.int ((f10n1 sn b0 fF cs) + (1 : Int32))), (.ref sn)])) (fun tZ kZ => ?_) ?_
  · refine XS.iconst X3.here hx rfl (hb hby d9_13) ?_
    refine XS.iadd X3.here hx rfl (hb hby d9_14) rfl ?_
    exact kZ
  rw [hld]
  show Go p e below _ (T3.setTop (mkF m 15 #[sR o0] [(.int (Int32.ofNat lN)), (.ref sn)]))
  obtain ⟨cq4, kq4, q4a, q4b, q4c⟩ := isOf hZ e3 ha2
  obtain ⟨_, _, ⟨T4, L4, k4, n4⟩, -, X4, ⟨Lc4, hQ4, l4, y4, z4⟩, st4⟩ := X3.virtualBack hx (y := y18) (z := y18) hown (mvT hZ (wq hw 96 rfl)) (mvT hZ (wq hw 97 rfl)) (notFace_of_selects (args := #[]) (mvT hZ (wq hw 99 rfl))) (mvT hZ (wq hw 99 rfl)) (mvT hZ (wq hw 98 rfl)) (by decide) (backOf (W := 0) (rm18A l Z a0 hw [] sn b0 1 fF cs sv lN h0 n0 Z0 ha2 ha3 ha4 ha5 ha6 ha7 hcs hsv hq0 hq1 hq2 hlo0) hZ (wq hw 100 rfl) (wq hw 7 rfl) (by decide) (by decide)) q4a q4c (g := (mkF m 15 #[sR o0] [(.int (Int32.ofNat lN)), (.ref sn)])) rfl (by rw [hml]; rfl) (Steps.refl _) (argsL := [(.int (Int32.ofNat lN))]) (rest := []) (lenOf pd_15 rfl) rfl (leW rfl) (hb hby d9_15) (fun _ _ => ⟨rfl, e3, (by decide : 0 + 0 + 0 ≤ _), (by decide : 0 + 0 + 0 ≤ _)⟩)
  dsimp only [Pt.U, Pt.locs, Pt.cells, Pt.slots] at X4 l4 y4 z4 st4 hQ4
  subst l4 y4 z4
  obtain ⟨rfl, N4q, e4⟩ := hQ4
  have N4 := Fr.app N3 N4q
  refine Go.via (fun t k => st4.trans k) ?_
  refine Go.retR X4 hx Bd.notSynchronized Bd.returns rfl rfl (hb hby d9_18) (by decide) (by decide) ?_
  rw [e4]
  exact ⟨rfl, N4, rfl⟩
def Q9n2A (Z : State) (o0 : Addr) (sn : Addr) (b0 : Addr) (fF : Nat → Int32) (cs : Int32) (sv : Value) (lN : Nat) (h0 : Heap) (n0 : Nat) (v : Option Value) (h : Heap) (L : List Loc) : Prop := v = some (.ref sn) ∧ Fr n0 L ∧ h = h0
theorem rm9n2A (l : Launch) (Z : State) (a0 : Array Value) (hw : ∀ d ∈ tables_1, d.before a0 Z = true) (ws : List Jvm.Cond) (o0 : Addr) (sn : Addr) (b0 : Addr) (fF : Nat → Int32) (cs : Int32) (sv : Value) (lN : Nat) (h0 : Heap) (n0 : Nat) (Z0 : n0 ≤ h0.size) (ha0 : Exa Z h0 o0 "com/example/bindery/bindery/compiler/JavaType") (ha1 : Fld Z h0 o0 "com/example/bindery/bindery/compiler/JavaType" "name" "Ljava/lang/String;" (.ref sn)) (ha2 : Exa Z h0 sn "java/lang/String") (ha3 : Fld Z h0 sn "java/lang/String" "coder" "B" (.int 0)) (ha4 : Fld Z h0 sn "java/lang/String" "value" "[B" (.ref b0)) (ha5 : AV Z h0 b0 .byte 2 (fun k => .int (fF k))) (ha6 : Sta Z h0 "java/lang/String" "COMPACT_STRINGS" "Z" (.int cs)) (ha7 : Sta Z h0 "jdk/internal/util/Preconditions" "SIOOBE_FORMATTER" "Ljava/util/function/BiFunction;" sv) (hcs : ¬ cs = 0) (hsv : sv.isRef = true) (hq0 : ¬ (Int32.ofNat lN) < 0) (hq1 : ¬ (2 : Int32) < (Int32.ofNat lN)) (hq2 : ¬ (2 : Int32) < (2 : Int32)) (hlo0 : (Int32.ofNat lN) = (0 : Int32)) (hld : ((f10n2 sn b0 fF cs) + (1 : Int32)) = (Int32.ofNat lN)) :
    MetFree l y9 (head1 (Jvm.Cond.code y9 prog_5_method_8_code 1 (some (.object "java/lang/String")) :: ws) RM_4_0_0_58) (fun a U => a = #[(.ref o0)] ∧ Z.Warmed39 U.vm ∧ U.heap = h0) (fun _ _ _ _ _ => True) (fun _ U o U' => ∃ v L, o = .returned v ∧ Q9n2A Z o0 sn b0 fF cs sv lN h0 n0 v U'.heap L ∧ FrameEnd U o U' L RM_4_0_0_58.cells RM_4_0_0_58.slots) := by
  refine MetFree.of_bodySF (plainFor_of_name pn_5) hisR ?_
  intro p e s m args below meth c s₁ Bd hml0 hP hK
  obtain ⟨rfl, hZ, hh⟩ := hP
  have hx := Bd.exec
  have hby := Bd.bytes
  have hml : c.maxLocals = 1 := hml0
  have hown : s.vm.findClass "com/example/bindery/bindery/compiler/JavaType" = some m.cls := findClass_of_methodNamed Bd.named
  have X0 : Stand p l e RM_4_0_0_58 s m _ below meth c s₁ [] 0 0 := Stand.of_body Bd
  have e0 : s₁.heap = h0 := by rw [← hh, Bd.state]; rfl
  have N0 := Fr.nil n0
  refine Go.into (P := fun oo uu => ∃ v L, oo = .returned v ∧ Q9n2A Z o0 sn b0 fF cs sv lN h0 n0 v uu.heap L ∧ FrameEnd s oo uu L RM_4_0_0_58.cells RM_4_0_0_58.slots) (ef_9_a m o0) ?_
  show Go p e below _ (s₁.setTop (mkF m 0 #[sR o0] []))
  refine Vi (s₁.setTop (mkF m 1 #[sR o0] [(.ref o0)])) (fun tZ kZ => ?_) ?_
  · refine XS.aloadN X0.here hx rfl (hb hby d9_0) rfl rfl ?_
    exact kZ
  obtain ⟨T1, X1, e1, st1⟩ := getF X0 hx hZ hown (host := "") (Or.inl (wq hw 50 rfl)) Via.refl e0 ha1 (g := (mkF m 1 #[sR o0] [(.ref o0)])) rfl rfl (hb hby d9_1)
  refine Go.via st1 ?_
  refine Vi (T1.setTop (mkF m 5 #[sR o0] [(.ref o0), (.ref sn)])) (fun tZ kZ => ?_) ?_
  · refine XS.aloadN X1.here hx rfl (hb hby d9_4) rfl rfl ?_
    exact kZ
  obtain ⟨T2, X2, e2, st2⟩ := getF X1 hx hZ hown (host := "") (Or.inl (wq hw 50 rfl)) Via.refl e1 ha1 (g := (mkF m 5 #[sR o0] [(.ref o0), (.ref sn)])) rfl rfl (hb hby d9_5)
  refine Go.via st2 ?_
  refine Vi (T2.setTop (mkF m 10 #[sR o0] [(.int 46), (.ref sn), (.ref sn)])) (fun tZ kZ => ?_) ?_
  · refine XS.bipush X2.here hx rfl (hb hby d9_8) ?_
    exact kZ
  obtain ⟨cq3, kq3, q3a, q3b, q3c⟩ := isOf hZ e2 ha2
  obtain ⟨_, _, ⟨T3, L3, k3, n3⟩, -, X3, ⟨Lc3, hQ3, l3, y3, z3⟩, st3⟩ := X2.virtualBack hx (y := y10) (z := y10) hown (mvT hZ (wq hw 59 rfl)) (mvT hZ (wq hw 60 rfl)) (notFace_of_selects (args := #[]) (mvT hZ (wq hw 62 rfl))) (mvT hZ (wq hw 62 rfl)) (mvT hZ (wq hw 61 rfl)) (by decide) (backOf (W := 1) (rm10n2 l Z a0 hw [] sn b0 fF cs h0 n0 Z0 ha2 ha3 ha4 ha5 ha6 hcs) hZ (wq hw 63 rfl) (wq hw 7 rfl) (by decide) (by decide)) q3a q3c (g := (mkF m 10 #[sR o0] [(.int 46), (.ref sn), (.ref sn)])) rfl (by rw [hml]; rfl) (Steps.refl _) (argsL := [(.int 46)]) (rest := [(.ref sn)]) (lenOf pd_8 rfl) rfl (leW rfl) (hb hby d9_10) (fun _ _ => ⟨rfl, e2, (by decide : 0 + 0 ≤ _), (by decide : 0 + 0 ≤ _)⟩)
  dsimp only [Pt.U, Pt.locs, Pt.cells, Pt.slots] at X3 l3 y3 z3 st3 hQ3
  subst l3 y3 z3
  obtain ⟨rfl, N3q, e3⟩ := hQ3
  have N3 := Fr.app N0 N3q
  refine Go.via (fun t k => st3.trans k) ?_
  refine Vi (T3.setTop (mkF m 15 #[sR o0] [(.int ((f10n2 sn b0 fF cs) + (1 : Int32))), (.ref sn)])) (fun tZ kZ => ?_) ?_
  · refine XS.iconst X3.here hx rfl (hb hby d9_13) ?_
    refine XS.iadd X3.here hx rfl (hb hby d9_14) rfl ?_
    exact kZ
  rw [hld]
  show Go p e below _ (T3.setTop (mkF m 15 #[sR o0] [(.int (Int32.ofNat lN)), (.ref sn)]))
  obtain ⟨cq4, kq4, q4a, q4b, q4c⟩ := isOf hZ e3 ha2
  obtain ⟨_, _, ⟨T4, L4, k4, n4⟩, -, X4, ⟨Lc4, hQ4, l4, y4, z4⟩, st4⟩ := X3.virtualBack hx (y := y18) (z := y18) hown (mvT hZ (wq hw 96 rfl)) (mvT hZ (wq hw 97 rfl)) (notFace_of_selects (args := #[]) (mvT hZ (wq hw 99 rfl))) (mvT hZ (wq hw 99 rfl)) (mvT hZ (wq hw 98 rfl)) (by decide) (backOf (W := 0) (rm18A l Z a0 hw [] sn b0 2 fF cs sv lN h0 n0 Z0 ha2 ha3 ha4 ha5 ha6 ha7 hcs hsv hq0 hq1 hq2 hlo0) hZ (wq hw 100 rfl) (wq hw 7 rfl) (by decide) (by decide)) q4a q4c (g := (mkF m 15 #[sR o0] [(.int (Int32.ofNat lN)), (.ref sn)])) rfl (by rw [hml]; rfl) (Steps.refl _) (argsL := [(.int (Int32.ofNat lN))]) (rest := []) (lenOf pd_15 rfl) rfl (leW rfl) (hb hby d9_15) (fun _ _ => ⟨rfl, e3, (by decide : 0 + 0 + 0 ≤ _), (by decide : 0 + 0 + 0 ≤ _)⟩)
  dsimp only [Pt.U, Pt.locs, Pt.cells, Pt.slots] at X4 l4 y4 z4 st4 hQ4
  subst l4 y4 z4
  obtain ⟨rfl, N4q, e4⟩ := hQ4
  have N4 := Fr.app N3 N4q
  refine Go.via (fun t k => st4.trans k) ?_
  refine Go.retR X4 hx Bd.notSynchronized Bd.returns rfl rfl (hb hby d9_18) (by decide) (by decide) ?_
  rw [e4]
  exact ⟨rfl, N4, rfl⟩
def Q9n3A (Z : State) (o0 : Addr) (sn : Addr) (b0 : Addr) (fF : Nat → Int32) (cs : Int32) (sv : Value) (lN : Nat) (h0 : Heap) (n0 : Nat) (v : Option Value) (h : Heap) (L : List Loc) : Prop := v = some (.ref sn) ∧ Fr n0 L ∧ h = h0
theorem rm9n3A (l : Launch) (Z : State) (a0 : Array Value) (hw : ∀ d ∈ tables_1, d.before a0 Z = true) (ws : List Jvm.Cond) (o0 : Addr) (sn : Addr) (b0 : Addr) (fF : Nat → Int32) (cs : Int32) (sv : Value) (lN : Nat) (h0 : Heap) (n0 : Nat) (Z0 : n0 ≤ h0.size) (ha0 : Exa Z h0 o0 "com/example/bindery/bindery/compiler/JavaType") (ha1 : Fld Z h0 o0 "com/example/bindery/bindery/compiler/JavaType" "name" "Ljava/lang/String;" (.ref sn)) (ha2 : Exa Z h0 sn "java/lang/String") (ha3 : Fld Z h0 sn "java/lang/String" "coder" "B" (.int 0)) (ha4 : Fld Z h0 sn "java/lang/String" "value" "[B" (.ref b0)) (ha5 : AV Z h0 b0 .byte 3 (fun k => .int (fF k))) (ha6 : Sta Z h0 "java/lang/String" "COMPACT_STRINGS" "Z" (.int cs)) (ha7 : Sta Z h0 "jdk/internal/util/Preconditions" "SIOOBE_FORMATTER" "Ljava/util/function/BiFunction;" sv) (hcs : ¬ cs = 0) (hsv : sv.isRef = true) (hq0 : ¬ (Int32.ofNat lN) < 0) (hq1 : ¬ (3 : Int32) < (Int32.ofNat lN)) (hq2 : ¬ (3 : Int32) < (3 : Int32)) (hlo0 : (Int32.ofNat lN) = (0 : Int32)) (hld : ((f10n3 sn b0 fF cs) + (1 : Int32)) = (Int32.ofNat lN)) :
    MetFree l y9 (head1 (Jvm.Cond.code y9 prog_5_method_8_code 1 (some (.object "java/lang/String")) :: ws) RM_4_0_0_58) (fun a U => a = #[(.ref o0)] ∧ Z.Warmed39 U.vm ∧ U.heap = h0) (fun _ _ _ _ _ => True) (fun _ U o U' => ∃ v L, o = .returned v ∧ Q9n3A Z o0 sn b0 fF cs sv lN h0 n0 v U'.heap L ∧ FrameEnd U o U' L RM_4_0_0_58.cells RM_4_0_0_58.slots) := by
  refine MetFree.of_bodySF (plainFor_of_name pn_5) hisR ?_
  intro p e s m args below meth c s₁ Bd hml0 hP hK
  obtain ⟨rfl, hZ, hh⟩ := hP
  have hx := Bd.exec
  have hby := Bd.bytes
  have hml : c.maxLocals = 1 := hml0
  have hown : s.vm.findClass "com/example/bindery/bindery/compiler/JavaType" = some m.cls := findClass_of_methodNamed Bd.named
  have X0 : Stand p l e RM_4_0_0_58 s m _ below meth c s₁ [] 0 0 := Stand.of_body Bd
  have e0 : s₁.heap = h0 := by rw [← hh, Bd.state]; rfl
  have N0 := Fr.nil n0
  refine Go.into (P := fun oo uu => ∃ v L, oo = .returned v ∧ Q9n3A Z o0 sn b0 fF cs sv lN h0 n0 v uu.heap L ∧ FrameEnd s oo uu L RM_4_0_0_58.cells RM_4_0_0_58.slots) (ef_9_a m o0) ?_
  show Go p e below _ (s₁.setTop (mkF m 0 #[sR o0] []))
  refine Vi (s₁.setTop (mkF m 1 #[sR o0] [(.ref o0)])) (fun tZ kZ => ?_) ?_
  · refine XS.aloadN X0.here hx rfl (hb hby d9_0) rfl rfl ?_
    exact kZ
  obtain ⟨T1, X1, e1, st1⟩ := getF X0 hx hZ hown (host := "") (Or.inl (wq hw 50 rfl)) Via.refl e0 ha1 (g := (mkF m 1 #[sR o0] [(.ref o0)])) rfl rfl (hb hby d9_1)
  refine Go.via st1 ?_
  refine Vi (T1.setTop (mkF m 5 #[sR o0] [(.ref o0), (.ref sn)])) (fun tZ kZ => ?_) ?_
  · refine XS.aloadN X1.here hx rfl (hb hby d9_4) rfl rfl ?_
    exact kZ
  obtain ⟨T2, X2, e2, st2⟩ := getF X1 hx hZ hown (host := "") (Or.inl (wq hw 50 rfl)) Via.refl e1 ha1 (g := (mkF m 5 #[sR o0] [(.ref o0), (.ref sn)])) rfl rfl (hb hby d9_5)
  refine Go.via st2 ?_
  refine Vi (T2.setTop (mkF m 10 #[sR o0] [(.int 46), (.ref sn), (.ref sn)])) (fun tZ kZ => ?_) ?_
  · refine XS.bipush X2.here hx rfl (hb hby d9_8) ?_
    exact kZ
  obtain ⟨cq3, kq3, q3a, q3b, q3c⟩ := isOf hZ e2 ha2
  obtain ⟨_, _, ⟨T3, L3, k3, n3⟩, -, X3, ⟨Lc3, hQ3, l3, y3, z3⟩, st3⟩ := X2.virtualBack hx (y := y10) (z := y10) hown (mvT hZ (wq hw 59 rfl)) (mvT hZ (wq hw 60 rfl)) (notFace_of_selects (args := #[]) (mvT hZ (wq hw 62 rfl))) (mvT hZ (wq hw 62 rfl)) (mvT hZ (wq hw 61 rfl)) (by decide) (backOf (W := 1) (rm10n3 l Z a0 hw [] sn b0 fF cs h0 n0 Z0 ha2 ha3 ha4 ha5 ha6 hcs) hZ (wq hw 63 rfl) (wq hw 7 rfl) (by decide) (by decide)) q3a q3c (g := (mkF m 10 #[sR o0] [(.int 46), (.ref sn), (.ref sn)])) rfl (by rw [hml]; rfl) (Steps.refl _) (argsL := [(.int 46)]) (rest := [(.ref sn)]) (lenOf pd_8 rfl) rfl (leW rfl) (hb hby d9_10) (fun _ _ => ⟨rfl, e2, (by decide : 0 + 0 ≤ _), (by decide : 0 + 0 ≤ _)⟩)
  dsimp only [Pt.U, Pt.locs, Pt.cells, Pt.slots] at X3 l3 y3 z3 st3 hQ3
  subst l3 y3 z3
  obtain ⟨rfl, N3q, e3⟩ := hQ3
  have N3 := Fr.app N0 N3q
  refine Go.via (fun t k => st3.trans k) ?_
  refine Vi (T3.setTop (mkF m 15 #[sR o0] [(.int ((f10n3 sn b0 fF cs) + (1 : Int32))), (.ref sn)])) (fun tZ kZ => ?_) ?_
  · refine XS.iconst X3.here hx rfl (hb hby d9_13) ?_
    refine XS.iadd X3.here hx rfl (hb hby d9_14) rfl ?_
    exact kZ
  rw [hld]
  show Go p e below _ (T3.setTop (mkF m 15 #[sR o0] [(.int (Int32.ofNat lN)), (.ref sn)]))
  obtain ⟨cq4, kq4, q4a, q4b, q4c⟩ := isOf hZ e3 ha2
  obtain ⟨_, _, ⟨T4, L4, k4, n4⟩, -, X4, ⟨Lc4, hQ4, l4, y4, z4⟩, st4⟩ := X3.virtualBack hx (y := y18) (z := y18) hown (mvT hZ (wq hw 96 rfl)) (mvT hZ (wq hw 97 rfl)) (notFace_of_selects (args := #[]) (mvT hZ (wq hw 99 rfl))) (mvT hZ (wq hw 99 rfl)) (mvT hZ (wq hw 98 rfl)) (by decide) (backOf (W := 0) (rm18A l Z a0 hw [] sn b0 3 fF cs sv lN h0 n0 Z0 ha2 ha3 ha4 ha5 ha6 ha7 hcs hsv hq0 hq1 hq2 hlo0) hZ (wq hw 100 rfl) (wq hw 7 rfl) (by decide) (by decide)) q4a q4c (g := (mkF m 15 #[sR o0] [(.int (Int32.ofNat lN)), (.ref sn)])) rfl (by rw [hml]; rfl) (Steps.refl _) (argsL := [(.int (Int32.ofNat lN))]) (rest := []) (lenOf pd_15 rfl) rfl (leW rfl) (hb hby d9_15) (fun _ _ => ⟨rfl, e3, (by decide : 0 + 0 + 0 ≤ _), (by decide : 0 + 0 + 0 ≤ _)⟩)
  dsimp only [Pt.U, Pt.locs, Pt.cells, Pt.slots] at X4 l4 y4 z4 st4 hQ4
  subst l4 y4 z4
  obtain ⟨rfl, N4q, e4⟩ := hQ4
  have N4 := Fr.app N3 N4q
  refine Go.via (fun t k => st4.trans k) ?_
  refine Go.retR X4 hx Bd.notSynchronized Bd.returns rfl rfl (hb hby d9_18) (by decide) (by decide) ?_
  rw [e4]
  exact ⟨rfl, N4, rfl⟩
def Q9n4A (Z : State) (o0 : Addr) (sn : Addr) (b0 : Addr) (fF : Nat → Int32) (cs : Int32) (sv : Value) (lN : Nat) (h0 : Heap) (n0 : Nat) (v : Option Value) (h : Heap) (L : List Loc) : Prop := v = some (.ref sn) ∧ Fr n0 L ∧ h = h0
theorem rm9n4A (l : Launch) (Z : State) (a0 : Array Value) (hw : ∀ d ∈ tables_1, d.before a0 Z = true) (ws : List Jvm.Cond) (o0 : Addr) (sn : Addr) (b0 : Addr) (fF : Nat → Int32) (cs : Int32) (sv : Value) (lN : Nat) (h0 : Heap) (n0 : Nat) (Z0 : n0 ≤ h0.size) (ha0 : Exa Z h0 o0 "com/example/bindery/bindery/compiler/JavaType") (ha1 : Fld Z h0 o0 "com/example/bindery/bindery/compiler/JavaType" "name" "Ljava/lang/String;" (.ref sn)) (ha2 : Exa Z h0 sn "java/lang/String") (ha3 : Fld Z h0 sn "java/lang/String" "coder" "B" (.int 0)) (ha4 : Fld Z h0 sn "java/lang/String" "value" "[B" (.ref b0)) (ha5 : AV Z h0 b0 .byte 4 (fun k => .int (fF k))) (ha6 : Sta Z h0 "java/lang/String" "COMPACT_STRINGS" "Z" (.int cs)) (ha7 : Sta Z h0 "jdk/internal/util/Preconditions" "SIOOBE_FORMATTER" "Ljava/util/function/BiFunction;" sv) (hcs : ¬ cs = 0) (hsv : sv.isRef = true) (hq0 : ¬ (Int32.ofNat lN) < 0) (hq1 : ¬ (4 : Int32) < (Int32.ofNat lN)) (hq2 : ¬ (4 : Int32) < (4 : Int32)) (hlo0 : (Int32.ofNat lN) = (0 : Int32)) (hld : ((f10n4 sn b0 fF cs) + (1 : Int32)) = (Int32.ofNat lN)) :
    MetFree l y9 (head1 (Jvm.Cond.code y9 prog_5_method_8_code 1 (some (.object "java/lang/String")) :: ws) RM_4_0_0_58) (fun a U => a = #[(.ref o0)] ∧ Z.Warmed39 U.vm ∧ U.heap = h0) (fun _ _ _ _ _ => True) (fun _ U o U' => ∃ v L, o = .returned v ∧ Q9n4A Z o0 sn b0 fF cs sv lN h0 n0 v U'.heap L ∧ FrameEnd U o U' L RM_4_0_0_58.cells RM_4_0_0_58.slots) := by
  refine MetFree.of_bodySF (plainFor_of_name pn_5) hisR ?_
  intro p e s m args below meth c s₁ Bd hml0 hP hK
  obtain ⟨rfl, hZ, hh⟩ := hP
  have hx := Bd.exec
  have hby := Bd.bytes
  have hml : c.maxLocals = 1 := hml0
  have hown : s.vm.findClass "com/example/bindery/bindery/compiler/JavaType" = some m.cls := findClass_of_methodNamed Bd.named
  have X0 : Stand p l e RM_4_0_0_58 s m _ below meth c s₁ [] 0 0 := Stand.of_body Bd
  have e0 : s₁.heap = h0 := by rw [← hh, Bd.state]; rfl
  have N0 := Fr.nil n0
  refine Go.into (P := fun oo uu => ∃ v L, oo = .returned v ∧ Q9n4A Z o0 sn b0 fF cs sv lN h0 n0 v uu.heap L ∧ FrameEnd s oo uu L RM_4_0_0_58.cells RM_4_0_0_58.slots) (ef_9_a m o0) ?_
  show Go p e below _ (s₁.setTop (mkF m 0 #[sR o0] []))
  refine Vi (s₁.setTop (mkF m 1 #[sR o0] [(.ref o0)])) (fun tZ kZ => ?_) ?_
  · refine XS.aloadN X0.here hx rfl (hb hby d9_0) rfl rfl ?_
    exact kZ
  obtain ⟨T1, X1, e1, st1⟩ := getF X0 hx hZ hown (host := "") (Or.inl (wq hw 50 rfl)) Via.refl e0 ha1 (g := (mkF m 1 #[sR o0] [(.ref o0)])) rfl rfl (hb hby d9_1)
  refine Go.via st1 ?_
  refine Vi (T1.setTop (mkF m 5 #[sR o0] [(.ref o0), (.ref sn)])) (fun tZ kZ => ?_) ?_
  · refine XS.aloadN X1.here hx rfl (hb hby d9_4) rfl rfl ?_
    exact kZ
  obtain ⟨T2, X2, e2, st2⟩ := getF X1 hx hZ hown (host := "") (Or.inl (wq hw 50 rfl)) Via.refl e1 ha1 (g := (mkF m 5 #[sR o0] [(.ref o0), (.ref sn)])) rfl rfl (hb hby d9_5)
  refine Go.via st2 ?_
  refine Vi (T2.setTop (mkF m 10 #[sR o0] [(.int 46), (.ref sn), (.ref sn)])) (fun tZ kZ => ?_) ?_
  · refine XS.bipush X2.here hx rfl (hb hby d9_8) ?_
    exact kZ
  obtain ⟨cq3, kq3, q3a, q3b, q3c⟩ := isOf hZ e2 ha2
  obtain ⟨_, _, ⟨T3, L3, k3, n3⟩, -, X3, ⟨Lc3, hQ3, l3, y3, z3⟩, st3⟩ := X2.virtualBack hx (y := y10) (z := y10) hown (mvT hZ (wq hw 59 rfl)) (mvT hZ (wq hw 60 rfl)) (notFace_of_selects (args := #[]) (mvT hZ (wq hw 62 rfl))) (mvT hZ (wq hw 62 rfl)) (mvT hZ (wq hw 61 rfl)) (by decide) (backOf (W := 1) (rm10n4 l Z a0 hw [] sn b0 fF cs h0 n0 Z0 ha2 ha3 ha4 ha5 ha6 hcs) hZ (wq hw 63 rfl) (wq hw 7 rfl) (by decide) (by decide)) q3a q3c (g := (mkF m 10 #[sR o0] [(.int 46), (.ref sn), (.ref sn)])) rfl (by rw [hml]; rfl) (Steps.refl _) (argsL := [(.int 46)]) (rest := [(.ref sn)]) (lenOf pd_8 rfl) rfl (leW rfl) (hb hby d9_10) (fun _ _ => ⟨rfl, e2, (by decide : 0 + 0 ≤ _), (by decide : 0 + 0 ≤ _)⟩)
  dsimp only [Pt.U, Pt.locs, Pt.cells, Pt.slots] at X3 l3 y3 z3 st3 hQ3
  subst l3 y3 z3
  obtain ⟨rfl, N3q, e3⟩ := hQ3
  have N3 := Fr.app N0 N3q
  refine Go.via (fun t k => st3.trans k) ?_
  refine Vi (T3.setTop (mkF m 15 #[sR o0] [(.int ((f10n4 sn b0 fF cs) + (1 : Int32))), (.ref sn)])) (fun tZ kZ => ?_) ?_
  · refine XS.iconst X3.here hx rfl (hb hby d9_13) ?_
    refine XS.iadd X3.here hx rfl (hb hby d9_14) rfl ?_
    exact kZ
  rw [hld]
  show Go p e below _ (T3.setTop (mkF m 15 #[sR o0] [(.int (Int32.ofNat lN)), (.ref sn)]))
  obtain ⟨cq4, kq4, q4a, q4b, q4c⟩ := isOf hZ e3 ha2
  obtain ⟨_, _, ⟨T4, L4, k4, n4⟩, -, X4, ⟨Lc4, hQ4, l4, y4, z4⟩, st4⟩ := X3.virtualBack hx (y := y18) (z := y18) hown (mvT hZ (wq hw 96 rfl)) (mvT hZ (wq hw 97 rfl)) (notFace_of_selects (args := #[]) (mvT hZ (wq hw 99 rfl))) (mvT hZ (wq hw 99 rfl)) (mvT hZ (wq hw 98 rfl)) (by decide) (backOf (W := 0) (rm18A l Z a0 hw [] sn b0 4 fF cs sv lN h0 n0 Z0 ha2 ha3 ha4 ha5 ha6 ha7 hcs hsv hq0 hq1 hq2 hlo0) hZ (wq hw 100 rfl) (wq hw 7 rfl) (by decide) (by decide)) q4a q4c (g := (mkF m 15 #[sR o0] [(.int (Int32.ofNat lN)), (.ref sn)])) rfl (by rw [hml]; rfl) (Steps.refl _) (argsL := [(.int (Int32.ofNat lN))]) (rest := []) (lenOf pd_15 rfl) rfl (leW rfl) (hb hby d9_15) (fun _ _ => ⟨rfl, e3, (by decide : 0 + 0 + 0 ≤ _), (by decide : 0 + 0 + 0 ≤ _)⟩)
  dsimp only [Pt.U, Pt.locs, Pt.cells, Pt.slots] at X4 l4 y4 z4 st4 hQ4
  subst l4 y4 z4
  obtain ⟨rfl, N4q, e4⟩ := hQ4
  have N4 := Fr.app N3 N4q
  refine Go.via (fun t k => st4.trans k) ?_
  refine Go.retR X4 hx Bd.notSynchronized Bd.returns rfl rfl (hb hby d9_18) (by decide) (by decide) ?_
  rw [e4]
  exact ⟨rfl, N4, rfl⟩
theorem d25_0 : decode B25 0 = .ok (.iload_n 2, 1) := by decide +kernel
theorem d25_1 : decode B25 1 = .ok (.ifCond .ne 6, 3) := by decide +kernel
theorem d25_4 : decode B25 4 = .ok (.ldc 151, 2) := by decide +kernel
theorem d25_6 : decode B25 6 = .ok (.areturn, 1) := by decide +kernel
def Q25B (Z : State) (o0 : Addr) (nN : Nat) (fF : Nat → Int32) (lN : Nat) (h0 : Heap) (n0 : Nat) (v : Option Value) (h : Heap) (L : List Loc) : Prop := ∃ as1 : Addr, ∃ ab1 : Addr, v = some (.ref as1) ∧ Fr n0 L ∧ Keep h0 h [] ∧ AV Z h o0 .byte nN (fun k => .int (fF k)) ∧ Exa Z h as1 "java/lang/String" ∧ Fld Z h as1 "java/lang/String" "coder" "B" (.int 0) ∧ Fld Z h as1 "java/lang/String" "value" "[B" (.ref ab1) ∧ AV Z h ab1 .byte 0 (fun k => .int ((own_t []) k))
abbrev RM_0_2_68_0 : Room := { frames := 0, cells := 2, slots := 68, locals := 0 }
theorem ef_25_aaa (m : MethodId) (x0 : Addr) (x1 : Int32) (x2 : Int32) : entryFrame m #[(.ref x0), (.int x1), (.int x2)] 3 = mkF m 0 #[.val (.ref x0), .val (.int x1), .val (.int x2)] [] := by first | (simp [entryFrame, mkF, argsToLocals, Value.category]; done) | rfl
theorem rm25B (l : Launch) (Z : State) (a0 : Array Value) (hw : ∀ d ∈ tables_1, d.before a0 Z = true) (ws : List Jvm.Cond) (o0 : Addr) (nN : Nat) (fF : Nat → Int32) (lN : Nat) (h0 : Heap) (n0 : Nat) (Z0 : n0 ≤ h0.size) (ha0 : AV Z h0 o0 .byte nN (fun k => .int (fF k))) (hk0 : ((Int32.ofNat nN) - (Int32.ofNat lN)) = (0 : Int32)) :
    MetFree l y25 (head1 (Jvm.Cond.code y25 jdk_43_method_47_code 3 (some (.object "java/lang/String")) :: ws) RM_0_2_68_0) (fun a U => a = #[(.ref o0), (.int (Int32.ofNat lN)), (.int ((Int32.ofNat nN) - (Int32.ofNat lN)))] ∧ Z.Warmed39 U.vm ∧ U.heap = h0 ∧ CHv Z own_EL U.vm h0) (fun _ _ _ _ _ => True) (fun _ U o U' => ∃ v L, o = .returned v ∧ Q25B Z o0 nN fF lN h0 n0 v U'.heap L ∧ CHr Z own_EL U.vm U.heap U'.vm U'.heap ∧ ReturnedEndW U o U' L RM_0_2_68_0.cells RM_0_2_68_0.slots) := by
  refine MetFree.of_bodySF (plainFor_of_name pn_1) hisR ?_
  intro p e s m args below meth c s₁ Bd hml0 hP hK
  obtain ⟨rfl, hZ, hh, hCH⟩ := hP
  have hx := Bd.exec
  have hby := Bd.bytes
  have hml : c.maxLocals = 3 := hml0
  have hown : s.vm.findClass "java/lang/StringLatin1" = some m.cls := findClass_of_methodNamed Bd.named
  have X0 : Stand p l e RM_0_2_68_0 s m _ below meth c s₁ [] 0 0 := Stand.of_body Bd
  have e0 : s₁.heap = h0 := by rw [← hh, Bd.state]; rfl
  have N0 := Fr.nil n0
  refine Go.into (P := fun oo uu => ∃ v L, oo = .returned v ∧ Q25B Z o0 nN fF lN h0 n0 v uu.heap L ∧ CHr Z own_EL s.vm s.heap uu.vm uu.heap ∧ ReturnedEndW s oo uu L RM_0_2_68_0.cells RM_0_2_68_0.slots) (ef_25_aaa m o0 (Int32.ofNat lN) ((Int32.ofNat nN) - (Int32.ofNat lN))) ?_
  show Go p e below _ (s₁.setTop (mkF m 0 #[sR o0, sI (Int32.ofNat lN), sI ((Int32.ofNat nN) - (Int32.ofNat lN))] []))
  have hS0 : s.Since s.vm 0 := (State.WarmedH.refl s).since 0
  have wS : ∀ a ∈ Bundle.stringAtoms, a.before a0 Z = true := by
    intro d hd
    simp only [Bundle.stringAtoms, List.mem_cons, List.not_mem_nil, or_false] at hd
    rcases hd with rfl | rfl | rfl | rfl | rfl | rfl | rfl
    · exact (wq hw 7 rfl)
    · exact (wq hw 8 rfl)
    · exact (wq hw 9 rfl)
    · exact (wq hw 10 rfl)
    · exact (wq hw 11 rfl)
    · exact (wq hw 12 rfl)
    · exact (wq hw 13 rfl)
  refine Vi (s₁.setTop (mkF m 4 #[sR o0, sI (Int32.ofNat lN), sI ((Int32.ofNat nN) - (Int32.ofNat lN))] [])) (fun tZ kZ => ?_) ?_
  · refine XS.iloadN X0.here hx rfl (hb hby d25_0) rfl ?_
    refine XS.ifNo X0.here hx rfl (hb hby d25_1) rfl ((if0 _ _).trans (teq hk0).2) ?_
    exact kZ
  obtain ⟨as1, T1, h1, kk1, ab1, kc1, X1, e1, E1, hS1, hk1, hZ, hown, Ea1, Fc1, Fv1, Ar1, -, -, A1, -, nS1, st1⟩ := ldcCH (s := s) (vm0 := s.vm) (EL := own_EL) X0 hx hZ hown (wq hw 162 rfl) wS e0 hS0 (Nat.zero_le _) (own_EW hw) (by simp [own_EL]) hCH (vs := ([] : List Int32).map Value.int) (z := 0) ⟨by decide, by decide +kernel⟩ (by decide) rfl (g := (mkF m 4 #[sR o0, sI (Int32.ofNat lN), sI ((Int32.ofNat nN) - (Int32.ofNat lN))] [])) rfl (hb hby d25_4) (n := 64) (by decide) (by decide) (by decide) (by decide)
  have CR2c := CHr.trans (CHr.refl hCH) A1
  have c3_0 := ha0.ext E1
  have Va1 := AV.ofArv Ar1 (n := 0) rfl (by decide)
  have K1 : Keep h0 h1 [] := (Keep.refl h0 []).ext E1
  have Z1 : n0 ≤ h1.size := Nat.le_trans Z0 E1.1
  refine Go.via st1 ?_
  refine Go.finW (h := h1) (h0 := h0) (s := s) (vm₁ := T1.vm) X1 hS1 e1 hk1 Bd.notSynchronized (v := some (.ref as1)) (fun h => by rw [Bd.returns] at h; cases h) (fun fs hr => retOut X1 hx Bd.returns rfl (Or.inr (Or.inr (Or.inr (Or.inr ⟨rfl, rfl, rfl⟩)))) (hb hby d25_6) hr) (by decide) (by decide) hh hZ (own_EW hw) CR2c ?_
  exact ⟨as1, ab1, rfl, N0, K1, c3_0, Ea1, Fc1, Fv1, Va1⟩
theorem d19_22 : decode B19 22 = .ok (.iload_n 2, 1) := by decide +kernel
theorem d19_23 : decode B19 23 = .ok (.iload_n 1, 1) := by decide +kernel
theorem d19_24 : decode B19 24 = .ok (.isub, 1) := by decide +kernel
theorem d19_25 : decode B19 25 = .ok (.istore 4, 2) := by decide +kernel
theorem d19_27 : decode B19 27 = .ok (.aload_n 0, 1) := by decide +kernel
theorem d19_28 : decode B19 28 = .ok (.invokevirtual 492, 3) := by decide +kernel
theorem d19_31 : decode B19 31 = .ok (.ifCond .eq 16, 3) := by decide +kernel
theorem d19_34 : decode B19 34 = .ok (.aload_n 0, 1) := by decide +kernel
theorem d19_35 : decode B19 35 = .ok (.getfield 9, 3) := by decide +kernel
theorem d19_38 : decode B19 38 = .ok (.iload_n 1, 1) := by decide +kernel
theorem d19_39 : decode B19 39 = .ok (.iload 4, 2) := by decide +kernel
theorem pd_22 : parseMethodDescriptor "([BII)Ljava/lang/String;" = some ⟨[(.array .byte), .int, .int], some (.object "java/lang/String")⟩ := by decide +kernel
theorem d19_41 : decode B19 41 = .ok (.invokestatic 685, 3) := by decide +kernel
theorem d19_44 : decode B19 44 = .ok (.goto 13, 3) := by decide +kernel
theorem d19_57 : decode B19 57 = .ok (.areturn, 1) := by decide +kernel
def Q19B (Z : State) (o0 : Addr) (b0 : Addr) (nN : Nat) (fF : Nat → Int32) (cs : Int32) (sv : Value) (lN : Nat) (h0 : Heap) (n0 : Nat) (v : Option Value) (h : Heap) (L : List Loc) : Prop := ∃ b5_0 : Addr, ∃ b5_1 : Addr, v = some (.ref b5_0) ∧ Fr n0 L ∧ Keep h0 h [] ∧ Exa Z h o0 "java/lang/String" ∧ Fld Z h o0 "java/lang/String" "coder" "B" (.int 0) ∧ Fld Z h o0 "java/lang/String" "value" "[B" (.ref b0) ∧ AV Z h b0 .byte nN (fun k => .int (fF k)) ∧ Sta Z h "java/lang/String" "COMPACT_STRINGS" "Z" (.int cs) ∧ Sta Z h "jdk/internal/util/Preconditions" "SIOOBE_FORMATTER" "Ljava/util/function/BiFunction;" sv ∧ Exa Z h b5_0 "java/lang/String" ∧ Fld Z h b5_0 "java/lang/String" "coder" "B" (.int 0) ∧ Fld Z h b5_0 "java/lang/String" "value" "[B" (.ref b5_1) ∧ AV Z h b5_1 .byte 0 (fun k => .int ((own_t []) k))
abbrev RM_2_2_68_29 : Room := { frames := 2, cells := 2, slots := 68, locals := 29 }
theorem rm19B (l : Launch) (Z : State) (a0 : Array Value) (hw : ∀ d ∈ tables_1, d.before a0 Z = true) (ws : List Jvm.Cond) (o0 : Addr) (b0 : Addr) (nN : Nat) (fF : Nat → Int32) (cs : Int32) (sv : Value) (lN : Nat) (h0 : Heap) (n0 : Nat) (Z0 : n0 ≤ h0.size) (ha0 : Exa Z h0 o0 "java/lang/String") (ha1 : Fld Z h0 o0 "java/lang/String" "coder" "B" (.int 0)) (ha2 : Fld Z h0 o0 "java/lang/String" "value" "[B" (.ref b0)) (ha3 : AV Z h0 b0 .byte nN (fun k => .int (fF k))) (ha4 : Sta Z h0 "java/lang/String" "COMPACT_STRINGS" "Z" (.int cs)) (ha5 : Sta Z h0 "jdk/internal/util/Preconditions" "SIOOBE_FORMATTER" "Ljava/util/function/BiFunction;" sv) (hcs : ¬ cs = 0) (hsv : sv.isRef = true) (hq0 : ¬ (Int32.ofNat lN) < 0) (hq1 : ¬ (Int32.ofNat nN) < (Int32.ofNat lN)) (hq2 : ¬ (Int32.ofNat nN) < (Int32.ofNat nN)) (hlo : ¬ (Int32.ofNat lN) = (0 : Int32)) (hk0 : ((Int32.ofNat nN) - (Int32.ofNat lN)) = (0 : Int32)) :
    MetFree l y19 (head1 (Jvm.Cond.code y19 jdk_42_method_92_code 5 (some (.object "java/lang/String")) :: ws) RM_2_2_68_29) (fun a U => a = #[(.ref o0), (.int (Int32.ofNat lN)), (.int (Int32.ofNat nN))] ∧ Z.Warmed39 U.vm ∧ U.heap = h0 ∧ CHv Z own_EL U.vm h0) (fun _ _ _ _ _ => True) (fun _ U o U' => ∃ v L, o = .returned v ∧ Q19B Z o0 b0 nN fF cs sv lN h0 n0 v U'.heap L ∧ CHr Z own_EL U.vm U.heap U'.vm U'.heap ∧ ReturnedEndW U o U' L RM_2_2_68_29.cells RM_2_2_68_29.slots) := by
  refine MetFree.of_bodySF (plainFor_of_name pn_0) hisR ?_
  intro p e s m args below meth c s₁ Bd hml0 hP hK
  obtain ⟨rfl, hZ, hh, hCH⟩ := hP
  have hx := Bd.exec
  have hby := Bd.bytes
  have hml : c.maxLocals = 5 := hml0
  have hown : s.vm.findClass "java/lang/String" = some m.cls := findClass_of_methodNamed Bd.named
  have X0 : Stand p l e RM_2_2_68_29 s m _ below meth c s₁ [] 0 0 := Stand.of_body Bd
  have e0 : s₁.heap = h0 := by rw [← hh, Bd.state]; rfl
  have N0 := Fr.nil n0
  refine Go.into (P := fun oo uu => ∃ v L, oo = .returned v ∧ Q19B Z o0 b0 nN fF cs sv lN h0 n0 v uu.heap L ∧ CHr Z own_EL s.vm s.heap uu.vm uu.heap ∧ ReturnedEndW s oo uu L RM_2_2_68_29.cells RM_2_2_68_29.slots) (ef_19_aaa m o0 (Int32.ofNat lN) (Int32.ofNat nN)) ?_
  show Go p e below _ (s₁.setTop (mkF m 0 #[sR o0, sI (Int32.ofNat lN), sI (Int32.ofNat nN), .unset, .unset] []))
  have hS0 : s.Since s.vm 0 := (State.WarmedH.refl s).since 0
  have wS : ∀ a ∈ Bundle.stringAtoms, a.before a0 Z = true := by
    intro d hd
    simp only [Bundle.stringAtoms, List.mem_cons, List.not_mem_nil, or_false] at hd
    rcases hd with rfl | rfl | rfl | rfl | rfl | rfl | rfl
    · exact (wq hw 7 rfl)
    · exact (wq hw 8 rfl)
    · exact (wq hw 9 rfl)
    · exact (wq hw 10 rfl)
    · exact (wq hw 11 rfl)
    · exact (wq hw 12 rfl)
    · exact (wq hw 13 rfl)
  refine Vi (s₁.setTop (mkF m 1 #[sR o0, sI (Int32.ofNat lN), sI (Int32.ofNat nN), .unset, .unset] [(.ref o0)])) (fun tZ kZ => ?_) ?_
  · refine XS.aloadN X0.here hx rfl (hb hby d19_0) rfl rfl ?_
    exact kZ
  obtain ⟨cq1, kq1, q1a, q1b, q1c⟩ := isOf hZ e0 ha0
  obtain ⟨_, _, ⟨T1, L1, k1, n1⟩, -, X1, ⟨Lc1, hQ1, l1, y1, z1⟩, st1⟩ := X0.virtualBack hx (y := y11) (z := y11) hown (mvT hZ (wq hw 64 rfl)) (mvT hZ (wq hw 65 rfl)) (notFace_of_selects (args := #[]) (mvT hZ (wq hw 67 rfl))) (mvT hZ (wq hw 67 rfl)) (mvT hZ (wq hw 66 rfl)) (by decide) (backOf (W := 0) (rm11 l Z a0 hw [] o0 b0 nN fF cs h0 n0 Z0 ha0 ha1 ha2 ha3 ha4 hcs) hZ (wq hw 68 rfl) (wq hw 7 rfl) (by decide) (by decide)) q1a q1c (g := (mkF m 1 #[sR o0, sI (Int32.ofNat lN), sI (Int32.ofNat nN), .unset, .unset] [(.ref o0)])) rfl (by rw [hml]; rfl) (Steps.refl _) (argsL := []) (rest := []) (lenOf pd_9 rfl) rfl (leW rfl) (hb hby d19_1) (fun _ _ => ⟨rfl, e0, (by decide : 0 + 0 ≤ _), (by decide : 0 + 0 ≤ _)⟩)
  dsimp only [Pt.U, Pt.locs, Pt.cells, Pt.slots] at X1 l1 y1 z1 st1 hQ1
  subst l1 y1 z1
  obtain ⟨rfl, N1q, e1⟩ := hQ1
  have hv1 : (f11 o0 b0 nN fF cs) = (Int32.ofNat nN) := by unfold f11; exact own_sh0 _
  rw [hv1] at st1
  have N1 := Fr.app N0 N1q
  refine Go.via (fun t k => st1.trans k) ?_
  refine Vi (T1.setTop (mkF m 8 #[sR o0, sI (Int32.ofNat lN), sI (Int32.ofNat nN), sI (Int32.ofNat nN), .unset] [(.int (Int32.ofNat nN)), (.int (Int32.ofNat nN)), (.int (Int32.ofNat lN))])) (fun tZ kZ => ?_) ?_
  · refine XS.istoreN X1.here hx rfl (hb hby d19_4) rfl (l' := #[sR o0, sI (Int32.ofNat lN), sI (Int32.ofNat nN), sI (Int32.ofNat nN), .unset]) rfl ?_
    refine XS.iloadN X1.here hx rfl (hb hby d19_5) rfl ?_
    refine XS.iloadN X1.here hx rfl (hb hby d19_6) rfl ?_
    refine XS.iloadN X1.here hx rfl (hb hby d19_7) rfl ?_
    exact kZ
  obtain ⟨_, _, ⟨T2, L2, k2, n2⟩, -, X2, ⟨Lc2, hQ2, l2, y2, z2⟩, st2⟩ := Jvm.LawKit.callS X1 hx (y := y20) hown (mvT hZ (wq hw 106 rfl)) (mvT hZ (wq hw 107 rfl)) (mvT hZ (wq hw 7 rfl)) (mvT hZ (wq hw 108 rfl)) (by decide) (backOf (W := 0) (rm20 l Z a0 hw [] (Int32.ofNat lN) (Int32.ofNat nN) (Int32.ofNat nN) sv h0 n0 Z0 ha5 hq0 hq1 hq2 hsv) hZ (wq hw 108 rfl) (wq hw 7 rfl) (by decide) (by decide)) (g := (mkF m 8 #[sR o0, sI (Int32.ofNat lN), sI (Int32.ofNat nN), sI (Int32.ofNat nN), .unset] [(.int (Int32.ofNat nN)), (.int (Int32.ofNat nN)), (.int (Int32.ofNat lN))])) rfl (by rw [hml]; rfl) (argsL := [(.int (Int32.ofNat lN)), (.int (Int32.ofNat nN)), (.int (Int32.ofNat nN))]) (rest := []) (lenOf pd_17 rfl) rfl (leW rfl) (hb hby d19_8) (fun _ _ => ⟨rfl, e1, (by decide : 0 + 0 + 0 ≤ _), (by decide : 0 + 0 + 0 ≤ _)⟩)
  dsimp only [Pt.U, Pt.locs, Pt.cells, Pt.slots] at X2 l2 y2 z2 st2 hQ2
  subst l2 y2 z2
  obtain ⟨rfl, N2q, e2⟩ := hQ2
  have N2 := Fr.app N1 N2q
  refine Go.via st2 ?_
  refine Vi (T2.setTop (mkF m 28 #[sR o0, sI (Int32.ofNat lN), sI (Int32.ofNat nN), sI (Int32.ofNat nN), sI ((Int32.ofNat nN) - (Int32.ofNat lN))] [(.ref o0)])) (fun tZ kZ => ?_) ?_
  · refine XS.iloadN X2.here hx rfl (hb hby d19_11) rfl ?_
    refine XS.ifYes X2.here hx rfl (pc0 := 12) (pc' := 22) rfl (hb hby d19_12) rfl ((if0 _ _).trans (feq hlo).2) (by decide) (by decide) ?_
    refine XS.iloadN X2.here hx rfl (hb hby d19_22) rfl ?_
    refine XS.iloadN X2.here hx rfl (hb hby d19_23) rfl ?_
    refine XS.isub X2.here hx rfl (hb hby d19_24) rfl ?_
    refine XS.istore X2.here hx rfl (hb hby d19_25) rfl (l' := #[sR o0, sI (Int32.ofNat lN), sI (Int32.ofNat nN), sI (Int32.ofNat nN), sI ((Int32.ofNat nN) - (Int32.ofNat lN))]) rfl ?_
    refine XS.aloadN X2.here hx rfl (hb hby d19_27) rfl rfl ?_
    exact kZ
  obtain ⟨cq3, kq3, q3a, q3b, q3c⟩ := isOf hZ e2 ha0
  obtain ⟨_, _, ⟨T3, L3, k3, n3⟩, -, X3, ⟨Lc3, hQ3, l3, y3, z3⟩, st3⟩ := X2.virtualBack hx (y := y14) (z := y14) hown (mvT hZ (wq hw 80 rfl)) (mvT hZ (wq hw 81 rfl)) (notFace_of_selects (args := #[]) (mvT hZ (wq hw 83 rfl))) (mvT hZ (wq hw 83 rfl)) (mvT hZ (wq hw 82 rfl)) (by decide) (backOf (W := 0) (rm14 l Z a0 hw [] o0 cs h0 n0 Z0 ha1 ha4 hcs) hZ (wq hw 84 rfl) (wq hw 7 rfl) (by decide) (by decide)) q3a q3c (g := (mkF m 28 #[sR o0, sI (Int32.ofNat lN), sI (Int32.ofNat nN), sI (Int32.ofNat nN), sI ((Int32.ofNat nN) - (Int32.ofNat lN))] [(.ref o0)])) rfl (by rw [hml]; rfl) (Steps.refl _) (argsL := []) (rest := []) (lenOf pd_12 rfl) rfl (leW rfl) (hb hby d19_28) (fun _ _ => ⟨rfl, e2, (by decide : 0 + 0 + 0 + 0 ≤ _), (by decide : 0 + 0 + 0 + 0 ≤ _)⟩)
  dsimp only [Pt.U, Pt.locs, Pt.cells, Pt.slots] at X3 l3 y3 z3 st3 hQ3
  subst l3 y3 z3
  obtain ⟨rfl, N3q, e3⟩ := hQ3
  have hv3 : (f14 o0 cs) = (1 : Int32) := by unfold f14; decide
  rw [hv3] at st3
  have N3 := Fr.app N2 N3q
  refine Go.via (fun t k => st3.trans k) ?_
  refine Vi (T3.setTop (mkF m 35 #[sR o0, sI (Int32.ofNat lN), sI (Int32.ofNat nN), sI (Int32.ofNat nN), sI ((Int32.ofNat nN) - (Int32.ofNat lN))] [(.ref o0)])) (fun tZ kZ => ?_) ?_
  · refine XS.ifNo X3.here hx rfl (hb hby d19_31) rfl ((if0 _ _).trans (feq (by decide)).1) ?_
    refine XS.aloadN X3.here hx rfl (hb hby d19_34) rfl rfl ?_
    exact kZ
  obtain ⟨T4, X4, e4, st4⟩ := getF X3 hx hZ hown (host := "") (Or.inl (wq hw 29 rfl)) Via.refl e3 ha2 (g := (mkF m 35 #[sR o0, sI (Int32.ofNat lN), sI (Int32.ofNat nN), sI (Int32.ofNat nN), sI ((Int32.ofNat nN) - (Int32.ofNat lN))] [(.ref o0)])) rfl rfl (hb hby d19_35)
  refine Go.via st4 ?_
  refine Vi (T4.setTop (mkF m 41 #[sR o0, sI (Int32.ofNat lN), sI (Int32.ofNat nN), sI (Int32.ofNat nN), sI ((Int32.ofNat nN) - (Int32.ofNat lN))] [(.int ((Int32.ofNat nN) - (Int32.ofNat lN))), (.int (Int32.ofNat lN)), (.ref b0)])) (fun tZ kZ => ?_) ?_
  · refine XS.iloadN X4.here hx rfl (hb hby d19_38) rfl ?_
    refine XS.iload X4.here hx rfl (hb hby d19_39) rfl ?_
    exact kZ
  obtain ⟨_, _, ⟨T5, L5, k5, n5⟩, -, X5, hS5, -, ⟨Lc5, hQ5, l5, y5, z5, A5⟩, st5⟩ := callSS (s := s.setVm s.vm) X4 hx (y := y25) hown (mvT hZ (wq hw 125 rfl)) (mvT hZ (wq hw 126 rfl)) (mvT hZ (wq hw 87 rfl)) (mvT hZ (wq hw 127 rfl)) (by decide) (backOfSH (s := s) (vm0 := s.vm) (W := 0) (rm25B l Z a0 hw [] b0 nN fF lN h0 n0 Z0 ha3 hk0) hZ (wq hw 127 rfl) (wq hw 87 rfl) (by decide) (by decide) (own_EW hw) hCH) (g := (mkF m 41 #[sR o0, sI (Int32.ofNat lN), sI (Int32.ofNat nN), sI (Int32.ofNat nN), sI ((Int32.ofNat nN) - (Int32.ofNat lN))] [(.int ((Int32.ofNat nN) - (Int32.ofNat lN))), (.int (Int32.ofNat lN)), (.ref b0)])) rfl (by rw [hml]; rfl) (argsL := [(.ref b0), (.int (Int32.ofNat lN)), (.int ((Int32.ofNat nN) - (Int32.ofNat lN)))]) (rest := []) (lenOf pd_22 rfl) rfl (leW rfl) (hb hby d19_41) (fun _ _ => ⟨rfl, e4, (by decide : 0 + 0 + 0 + 0 + 2 ≤ _), (by decide : 0 + 0 + 0 + 0 + 68 ≤ _)⟩)
  dsimp only [Pt.U, Pt.locs, Pt.cells, Pt.slots] at X5 hS5 l5 y5 z5 A5 st5 hQ5
  subst l5 y5 z5
  obtain ⟨b5_0, b5_1, rfl, N5q, Kq5, f5_0, f5_1, f5_2, f5_3, f5_4⟩ := hQ5
  have CR6c := CHr.trans (CHr.refl hCH) A5
  have c7_0 := ha0.keep Kq5
  have c7_1 := ha1.keep Kq5 nin0
  have c7_2 := ha2.keep Kq5 nin0
  have c7_4 := own_sk ha4 Kq5 (fun _ _ _ _ => nin0)
  have c7_5 := own_sk ha5 Kq5 (fun _ _ _ _ => nin0)
  have K5 : Keep h0 T5.heap [] := (Keep.refl h0 []).trans Kq5 all0
  have Z5 : n0 ≤ T5.heap.size := Nat.le_trans Z0 Kq5.1
  have ne_b5_1_o0 := AV.neExa f5_4 c7_0 (wq hw 8 rfl)
  have ne_b5_1_b5_0 := AV.neExa f5_4 f5_1 (wq hw 8 rfl)
  have N5 := Fr.app N3 N5q
  have hS5c : s.Since T5.vm T5.heap.size := State.Since.trans hS0 hS5 (Nat.le_trans (Nat.zero_le _) Kq5.1)
  replace hZ : Z.Warmed39 (s.setVm T5.vm).vm := State.Warmed39.trans (t := s.setVm s.vm) hZ hS5.1
  replace hown : (s.setVm T5.vm).vm.findClass "java/lang/String" = some m.cls := by rw [show (s.setVm T5.vm).vm = T5.vm from rfl, hS5.1.alike.findClass]; exact hown
  refine Go.via (fun t k => st5.trans k) ?_
  refine Vi (T5.setTop (mkF m 57 #[sR o0, sI (Int32.ofNat lN), sI (Int32.ofNat nN), sI (Int32.ofNat nN), sI ((Int32.ofNat nN) - (Int32.ofNat lN))] [(.ref b5_0)])) (fun tZ kZ => ?_) ?_
  · refine XS.goto X5.here hx rfl (pc0 := 44) (pc' := 57) rfl (hb hby d19_44) (by decide) (by decide) ?_
    exact kZ
  refine Go.finW (h := T5.heap) (h0 := h0) (s := s) (vm₁ := T5.vm) X5 hS5c rfl (Nat.le_refl _) Bd.notSynchronized (v := some (.ref b5_0)) (fun h => by rw [Bd.returns] at h; cases h) (fun fs hr => retOut X5 hx Bd.returns rfl (Or.inr (Or.inr (Or.inr (Or.inr ⟨rfl, rfl, rfl⟩)))) (hb hby d19_57) hr) (by decide) (by decide) hh hZ (own_EW hw) CR6c ?_
  exact ⟨b5_0, b5_1, rfl, N5, K5, c7_0, c7_1, c7_2, f5_0, c7_4, c7_5, f5_1, f5_2, f5_3, f5_4⟩
def Q18B (Z : State) (o0 : Addr) (b0 : Addr) (nN : Nat) (fF : Nat → Int32) (cs : Int32) (sv : Value) (lN : Nat) (h0 : Heap) (n0 : Nat) (v : Option Value) (h : Heap) (L : List Loc) : Prop := ∃ b2_0 : Addr, ∃ b2_1 : Addr, v = some (.ref b2_0) ∧ Fr n0 L ∧ Keep h0 h [] ∧ Exa Z h o0 "java/lang/String" ∧ Fld Z h o0 "java/lang/String" "coder" "B" (.int 0) ∧ Fld Z h o0 "java/lang/String" "value" "[B" (.ref b0) ∧ AV Z h b0 .byte nN (fun k => .int (fF k)) ∧ Sta Z h "java/lang/String" "COMPACT_STRINGS" "Z" (.int cs) ∧ Sta Z h "jdk/internal/util/Preconditions" "SIOOBE_FORMATTER" "Ljava/util/function/BiFunction;" sv ∧ Exa Z h b2_0 "java/lang/String" ∧ Fld Z h b2_0 "java/lang/String" "coder" "B" (.int 0) ∧ Fld Z h b2_0 "java/lang/String" "value" "[B" (.ref b2_1) ∧ AV Z h b2_1 .byte 0 (fun k => .int ((own_t []) k))
abbrev RM_3_2_68_45 : Room := { frames := 3, cells := 2, slots := 68, locals := 45 }
theorem rm18B (l : Launch) (Z : State) (a0 : Array Value) (hw : ∀ d ∈ tables_1, d.before a0 Z = true) (ws : List Jvm.Cond) (o0 : Addr) (b0 : Addr) (nN : Nat) (fF : Nat → Int32) (cs : Int32) (sv : Value) (lN : Nat) (h0 : Heap) (n0 : Nat) (Z0 : n0 ≤ h0.size) (ha0 : Exa Z h0 o0 "java/lang/String") (ha1 : Fld Z h0 o0 "java/lang/String" "coder" "B" (.int 0)) (ha2 : Fld Z h0 o0 "java/lang/String" "value" "[B" (.ref b0)) (ha3 : AV Z h0 b0 .byte nN (fun k => .int (fF k))) (ha4 : Sta Z h0 "java/lang/String" "COMPACT_STRINGS" "Z" (.int cs)) (ha5 : Sta Z h0 "jdk/internal/util/Preconditions" "SIOOBE_FORMATTER" "Ljava/util/function/BiFunction;" sv) (hcs : ¬ cs = 0) (hsv : sv.isRef = true) (hq0 : ¬ (Int32.ofNat lN) < 0) (hq1 : ¬ (Int32.ofNat nN) < (Int32.ofNat lN)) (hq2 : ¬ (Int32.ofNat nN) < (Int32.ofNat nN)) (hlo : ¬ (Int32.ofNat lN) = (0 : Int32)) (hk0 : ((Int32.ofNat nN) - (Int32.ofNat lN)) = (0 : Int32)) :
    MetFree l y18 (head1 (Jvm.Cond.code y18 jdk_42_method_91_code 2 (some (.object "java/lang/String")) :: ws) RM_3_2_68_45) (fun a U => a = #[(.ref o0), (.int (Int32.ofNat lN))] ∧ Z.Warmed39 U.vm ∧ U.heap = h0 ∧ CHv Z own_EL U.vm h0) (fun _ _ _ _ _ => True) (fun _ U o U' => ∃ v L, o = .returned v ∧ Q18B Z o0 b0 nN fF cs sv lN h0 n0 v U'.heap L ∧ CHr Z own_EL U.vm U.heap U'.vm U'.heap ∧ ReturnedEndW U o U' L RM_3_2_68_45.cells RM_3_2_68_45.slots) := by
  refine MetFree.of_bodySF (plainFor_of_name pn_0) hisR ?_
  intro p e s m args below meth c s₁ Bd hml0 hP hK
  obtain ⟨rfl, hZ, hh, hCH⟩ := hP
  have hx := Bd.exec
  have hby := Bd.bytes
  have hml : c.maxLocals = 2 := hml0
  have hown : s.vm.findClass "java/lang/String" = some m.cls := findClass_of_methodNamed Bd.named
  have X0 : Stand p l e RM_3_2_68_45 s m _ below meth c s₁ [] 0 0 := Stand.of_body Bd
  have e0 : s₁.heap = h0 := by rw [← hh, Bd.state]; rfl
  have N0 := Fr.nil n0
  refine Go.into (P := fun oo uu => ∃ v L, oo = .returned v ∧ Q18B Z o0 b0 nN fF cs sv lN h0 n0 v uu.heap L ∧ CHr Z own_EL s.vm s.heap uu.vm uu.heap ∧ ReturnedEndW s oo uu L RM_3_2_68_45.cells RM_3_2_68_45.slots) (ef_18_aa m o0 (Int32.ofNat lN)) ?_
  show Go p e below _ (s₁.setTop (mkF m 0 #[sR o0, sI (Int32.ofNat lN)] []))
  have hS0 : s.Since s.vm 0 := (State.WarmedH.refl s).since 0
  have wS : ∀ a ∈ Bundle.stringAtoms, a.before a0 Z = true := by
    intro d hd
    simp only [Bundle.stringAtoms, List.mem_cons, List.not_mem_nil, or_false] at hd
    rcases hd with rfl | rfl | rfl | rfl | rfl | rfl | rfl
    · exact (wq hw 7 rfl)
    · exact (wq hw 8 rfl)
    · exact (wq hw 9 rfl)
    · exact (wq hw 10 rfl)
    · exact (wq hw 11 rfl)
    · exact (wq hw 12 rfl)
    · exact (wq hw 13 rfl)
  refine Vi (s₁.setTop (mkF m 3 #[sR o0, sI (Int32.ofNat lN)] [(.ref o0), (.int (Int32.ofNat lN)), (.ref o0)])) (fun tZ kZ => ?_) ?_
  · refine XS.aloadN X0.here hx rfl (hb hby d18_0) rfl rfl ?_
    refine XS.iloadN X0.here hx rfl (hb hby d18_1) rfl ?_
    refine XS.aloadN X0.here hx rfl (hb hby d18_2) rfl rfl ?_
    exact kZ
  obtain ⟨cq1, kq1, q1a, q1b, q1c⟩ := isOf hZ e0 ha0
  obtain ⟨_, _, ⟨T1, L1, k1, n1⟩, -, X1, ⟨Lc1, hQ1, l1, y1, z1⟩, st1⟩ := X0.virtualBack hx (y := y11) (z := y11) hown (mvT hZ (wq hw 64 rfl)) (mvT hZ (wq hw 65 rfl)) (notFace_of_selects (args := #[]) (mvT hZ (wq hw 67 rfl))) (mvT hZ (wq hw 67 rfl)) (mvT hZ (wq hw 66 rfl)) (by decide) (backOf (W := 2) (rm11 l Z a0 hw [] o0 b0 nN fF cs h0 n0 Z0 ha0 ha1 ha2 ha3 ha4 hcs) hZ (wq hw 68 rfl) (wq hw 7 rfl) (by decide) (by decide)) q1a q1c (g := (mkF m 3 #[sR o0, sI (Int32.ofNat lN)] [(.ref o0), (.int (Int32.ofNat lN)), (.ref o0)])) rfl (by rw [hml]; rfl) (Steps.refl _) (argsL := []) (rest := [(.int (Int32.ofNat lN)), (.ref o0)]) (lenOf pd_9 rfl) rfl (leW rfl) (hb hby d18_3) (fun _ _ => ⟨rfl, e0, (by decide : 0 + 0 ≤ _), (by decide : 0 + 0 ≤ _)⟩)
  dsimp only [Pt.U, Pt.locs, Pt.cells, Pt.slots] at X1 l1 y1 z1 st1 hQ1
  subst l1 y1 z1
  obtain ⟨rfl, N1q, e1⟩ := hQ1
  have hv1 : (f11 o0 b0 nN fF cs) = (Int32.ofNat nN) := by unfold f11; exact own_sh0 _
  rw [hv1] at st1
  have N1 := Fr.app N0 N1q
  refine Go.via (fun t k => st1.trans k) ?_
  obtain ⟨cq2, kq2, q2a, q2b, q2c⟩ := isOf hZ e1 ha0
  obtain ⟨_, _, ⟨T2, L2, k2, n2⟩, -, X2, hS2, -, ⟨Lc2, hQ2, l2, y2, z2, A2⟩, st2⟩ := virtualBackS (s := s.setVm s.vm) X1 hx (y := y19) (z := y19) hown (mvT hZ (wq hw 101 rfl)) (mvT hZ (wq hw 102 rfl)) (notFace_of_selects (args := #[]) (mvT hZ (wq hw 104 rfl))) (mvT hZ (wq hw 104 rfl)) (mvT hZ (wq hw 103 rfl)) (by decide) (backOfSH (s := s) (vm0 := s.vm) (W := 0) (rm19B l Z a0 hw [] o0 b0 nN fF cs sv lN h0 n0 Z0 ha0 ha1 ha2 ha3 ha4 ha5 hcs hsv hq0 hq1 hq2 hlo hk0) hZ (wq hw 105 rfl) (wq hw 7 rfl) (by decide) (by decide) (own_EW hw) hCH) q2a q2c (g := (mkF m 6 #[sR o0, sI (Int32.ofNat lN)] [(.int (Int32.ofNat nN)), (.int (Int32.ofNat lN)), (.ref o0)])) rfl (by rw [hml]; rfl) (Steps.refl _) (argsL := [(.int (Int32.ofNat lN)), (.int (Int32.ofNat nN))]) (rest := []) (lenOf pd_16 rfl) rfl (leW rfl) (hb hby d18_6) (fun _ _ => ⟨rfl, e1, (by decide : 0 + 0 + 2 ≤ _), (by decide : 0 + 0 + 68 ≤ _)⟩)
  dsimp only [Pt.U, Pt.locs, Pt.cells, Pt.slots] at X2 hS2 l2 y2 z2 A2 st2 hQ2
  subst l2 y2 z2
  obtain ⟨b2_0, b2_1, rfl, N2q, Kq2, f2_0, f2_1, f2_2, f2_3, f2_4, f2_5, f2_6, f2_7, f2_8, f2_9⟩ := hQ2
  have CR3c := CHr.trans (CHr.refl hCH) A2
  have K2 : Keep h0 T2.heap [] := (Keep.refl h0 []).trans Kq2 all0
  have Z2 : n0 ≤ T2.heap.size := Nat.le_trans Z0 Kq2.1
  have ne_b2_1_o0 := AV.neExa f2_9 f2_0 (wq hw 8 rfl)
  have ne_b2_1_b2_0 := AV.neExa f2_9 f2_6 (wq hw 8 rfl)
  have N2 := Fr.app N1 N2q
  have hS2c : s.Since T2.vm T2.heap.size := State.Since.trans hS0 hS2 (Nat.le_trans (Nat.zero_le _) Kq2.1)
  replace hZ : Z.Warmed39 (s.setVm T2.vm).vm := State.Warmed39.trans (t := s.setVm s.vm) hZ hS2.1
  replace hown : (s.setVm T2.vm).vm.findClass "java/lang/String" = some m.cls := by rw [show (s.setVm T2.vm).vm = T2.vm from rfl, hS2.1.alike.findClass]; exact hown
  refine Go.via (fun t k => st2.trans k) ?_
  refine Go.finW (h := T2.heap) (h0 := h0) (s := s) (vm₁ := T2.vm) X2 hS2c rfl (Nat.le_refl _) Bd.notSynchronized (v := some (.ref b2_0)) (fun h => by rw [Bd.returns] at h; cases h) (fun fs hr => retOut X2 hx Bd.returns rfl (Or.inr (Or.inr (Or.inr (Or.inr ⟨rfl, rfl, rfl⟩)))) (hb hby d18_9) hr) (by decide) (by decide) hh hZ (own_EW hw) CR3c ?_
  exact ⟨b2_0, b2_1, rfl, N2, K2, f2_0, f2_1, f2_2, f2_3, f2_4, f2_5, f2_6, f2_7, f2_8, f2_9⟩
def Q9n1B (Z : State) (o0 : Addr) (sn : Addr) (b0 : Addr) (fF : Nat → Int32) (cs : Int32) (sv : Value) (lN : Nat) (h0 : Heap) (n0 : Nat) (v : Option Value) (h : Heap) (L : List Loc) : Prop := ∃ b4_0 : Addr, ∃ b4_1 : Addr, v = some (.ref b4_0) ∧ Fr n0 L ∧ Keep h0 h [] ∧ Exa Z h o0 "com/example/bindery/bindery/compiler/JavaType" ∧ Fld Z h o0 "com/example/bindery/bindery/compiler/JavaType" "name" "Ljava/lang/String;" (.ref sn) ∧ Exa Z h sn "java/lang/String" ∧ Fld Z h sn "java/lang/String" "coder" "B" (.int 0) ∧ Fld Z h sn "java/lang/String" "value" "[B" (.ref b0) ∧ AV Z h b0 .byte 1 (fun k => .int (fF k)) ∧ Sta Z h "java/lang/String" "COMPACT_STRINGS" "Z" (.int cs) ∧ Sta Z h "jdk/internal/util/Preconditions" "SIOOBE_FORMATTER" "Ljava/util/function/BiFunction;" sv ∧ Exa Z h b4_0 "java/lang/String" ∧ Fld Z h b4_0 "java/lang/String" "coder" "B" (.int 0) ∧ Fld Z h b4_0 "java/lang/String" "value" "[B" (.ref b4_1) ∧ AV Z h b4_1 .byte 0 (fun k => .int ((own_t []) k))
abbrev RM_4_2_68_58 : Room := { frames := 4, cells := 2, slots := 68, locals := 58 }
theorem rm9n1B (l : Launch) (Z : State) (a0 : Array Value) (hw : ∀ d ∈ tables_1, d.before a0 Z = true) (ws : List Jvm.Cond) (o0 : Addr) (sn : Addr) (b0 : Addr) (fF : Nat → Int32) (cs : Int32) (sv : Value) (lN : Nat) (h0 : Heap) (n0 : Nat) (Z0 : n0 ≤ h0.size) (ha0 : Exa Z h0 o0 "com/example/bindery/bindery/compiler/JavaType") (ha1 : Fld Z h0 o0 "com/example/bindery/bindery/compiler/JavaType" "name" "Ljava/lang/String;" (.ref sn)) (ha2 : Exa Z h0 sn "java/lang/String") (ha3 : Fld Z h0 sn "java/lang/String" "coder" "B" (.int 0)) (ha4 : Fld Z h0 sn "java/lang/String" "value" "[B" (.ref b0)) (ha5 : AV Z h0 b0 .byte 1 (fun k => .int (fF k))) (ha6 : Sta Z h0 "java/lang/String" "COMPACT_STRINGS" "Z" (.int cs)) (ha7 : Sta Z h0 "jdk/internal/util/Preconditions" "SIOOBE_FORMATTER" "Ljava/util/function/BiFunction;" sv) (hcs : ¬ cs = 0) (hsv : sv.isRef = true) (hq0 : ¬ (Int32.ofNat lN) < 0) (hq1 : ¬ (1 : Int32) < (Int32.ofNat lN)) (hq2 : ¬ (1 : Int32) < (1 : Int32)) (hlo : ¬ (Int32.ofNat lN) = (0 : Int32)) (hk0 : ((1 : Int32) - (Int32.ofNat lN)) = (0 : Int32)) (hld : ((f10n1 sn b0 fF cs) + (1 : Int32)) = (Int32.ofNat lN)) :
    MetFree l y9 (head1 (Jvm.Cond.code y9 prog_5_method_8_code 1 (some (.object "java/lang/String")) :: ws) RM_4_2_68_58) (fun a U => a = #[(.ref o0)] ∧ Z.Warmed39 U.vm ∧ U.heap = h0 ∧ CHv Z own_EL U.vm h0) (fun _ _ _ _ _ => True) (fun _ U o U' => ∃ v L, o = .returned v ∧ Q9n1B Z o0 sn b0 fF cs sv lN h0 n0 v U'.heap L ∧ CHr Z own_EL U.vm U.heap U'.vm U'.heap ∧ ReturnedEndW U o U' L RM_4_2_68_58.cells RM_4_2_68_58.slots) := by
  refine MetFree.of_bodySF (plainFor_of_name pn_5) hisR ?_
  intro p e s m args below meth c s₁ Bd hml0 hP hK
  obtain ⟨rfl, hZ, hh, hCH⟩ := hP
  have hx := Bd.exec
  have hby := Bd.bytes
  have hml : c.maxLocals = 1 := hml0
  have hown : s.vm.findClass "com/example/bindery/bindery/compiler/JavaType" = some m.cls := findClass_of_methodNamed Bd.named
  have X0 : Stand p l e RM_4_2_68_58 s m _ below meth c s₁ [] 0 0 := Stand.of_body Bd
  have e0 : s₁.heap = h0 := by rw [← hh, Bd.state]; rfl
  have N0 := Fr.nil n0
  refine Go.into (P := fun oo uu => ∃ v L, oo = .returned v ∧ Q9n1B Z o0 sn b0 fF cs sv lN h0 n0 v uu.heap L ∧ CHr Z own_EL s.vm s.heap uu.vm uu.heap ∧ ReturnedEndW s oo uu L RM_4_2_68_58.cells RM_4_2_68_58.slots) (ef_9_a m o0) ?_
  show Go p e below _ (s₁.setTop (mkF m 0 #[sR o0] []))
  have hS0 : s.Since s.vm 0 := (State.WarmedH.refl s).since 0
  have wS : ∀ a ∈ Bundle.stringAtoms, a.before a0 Z = true := by
    intro d hd
    simp only [Bundle.stringAtoms, List.mem_cons, List.not_mem_nil, or_false] at hd
    rcases hd with rfl | rfl | rfl | rfl | rfl | rfl | rfl
    · exact (wq hw 7 rfl)
    · exact (wq hw 8 rfl)
    · exact (wq hw 9 rfl)
    · exact (wq hw 10 rfl)
    · exact (wq hw 11 rfl)
    · exact (wq hw 12 rfl)
    · exact (wq hw 13 rfl)
  refine Vi (s₁.setTop (mkF m 1 #[sR o0] [(.ref o0)])) (fun tZ kZ => ?_) ?_
  · refine XS.aloadN X0.here hx rfl (hb hby d9_0) rfl rfl ?_
    exact kZ
  obtain ⟨T1, X1, e1, st1⟩ := getF X0 hx hZ hown (host := "") (Or.inl (wq hw 50 rfl)) Via.refl e0 ha1 (g := (mkF m 1 #[sR o0] [(.ref o0)])) rfl rfl (hb hby d9_1)
  refine Go.via st1 ?_
  refine Vi (T1.setTop (mkF m 5 #[sR o0] [(.ref o0), (.ref sn)])) (fun tZ kZ => ?_) ?_
  · refine XS.aloadN X1.here hx rfl (hb hby d9_4) rfl rfl ?_
    exact kZ
  obtain ⟨T2, X2, e2, st2⟩ := getF X1 hx hZ hown (host := "") (Or.inl (wq hw 50 rfl)) Via.refl e1 ha1 (g := (mkF m 5 #[sR o0] [(.ref o0), (.ref sn)])) rfl rfl (hb hby d9_5)
  refine Go.via st2 ?_
  refine Vi (T2.setTop (mkF m 10 #[sR o0] [(.int 46), (.ref sn), (.ref sn)])) (fun tZ kZ => ?_) ?_
  · refine XS.bipush X2.here hx rfl (hb hby d9_8) ?_
    exact kZ
  obtain ⟨cq3, kq3, q3a, q3b, q3c⟩ := isOf hZ e2 ha2
  obtain ⟨_, _, ⟨T3, L3, k3, n3⟩, -, X3, ⟨Lc3, hQ3, l3, y3, z3⟩, st3⟩ := X2.virtualBack hx (y := y10) (z := y10) hown (mvT hZ (wq hw 59 rfl)) (mvT hZ (wq hw 60 rfl)) (notFace_of_selects (args := #[]) (mvT hZ (wq hw 62 rfl))) (mvT hZ (wq hw 62 rfl)) (mvT hZ (wq hw 61 rfl)) (by decide) (backOf (W := 1) (rm10n1 l Z a0 hw [] sn b0 fF cs h0 n0 Z0 ha2 ha3 ha4 ha5 ha6 hcs) hZ (wq hw 63 rfl) (wq hw 7 rfl) (by decide) (by decide)) q3a q3c (g := (mkF m 10 #[sR o0] [(.int 46), (.ref sn), (.ref sn)])) rfl (by rw [hml]; rfl) (Steps.refl _) (argsL := [(.int 46)]) (rest := [(.ref sn)]) (lenOf pd_8 rfl) rfl (leW rfl) (hb hby d9_10) (fun _ _ => ⟨rfl, e2, (by decide : 0 + 0 ≤ _), (by decide : 0 + 0 ≤ _)⟩)
  dsimp only [Pt.U, Pt.locs, Pt.cells, Pt.slots] at X3 l3 y3 z3 st3 hQ3
  subst l3 y3 z3
  obtain ⟨rfl, N3q, e3⟩ := hQ3
  have N3 := Fr.app N0 N3q
  refine Go.via (fun t k => st3.trans k) ?_
  refine Vi (T3.setTop (mkF m 15 #[sR o0] [(.int ((f10n1 sn b0 fF cs) + (1 : Int32))), (.ref sn)])) (fun tZ kZ => ?_) ?_
  · refine XS.iconst X3.here hx rfl (hb hby d9_13) ?_
    refine XS.iadd X3.here hx rfl (hb hby d9_14) rfl ?_
    exact kZ
  rw [hld]
  show Go p e below _ (T3.setTop (mkF m 15 #[sR o0] [(.int (Int32.ofNat lN)), (.ref sn)]))
  obtain ⟨cq4, kq4, q4a, q4b, q4c⟩ := isOf hZ e3 ha2
  obtain ⟨_, _, ⟨T4, L4, k4, n4⟩, -, X4, hS4, -, ⟨Lc4, hQ4, l4, y4, z4, A4⟩, st4⟩ := virtualBackS (s := s.setVm s.vm) X3 hx (y := y18) (z := y18) hown (mvT hZ (wq hw 96 rfl)) (mvT hZ (wq hw 97 rfl)) (notFace_of_selects (args := #[]) (mvT hZ (wq hw 99 rfl))) (mvT hZ (wq hw 99 rfl)) (mvT hZ (wq hw 98 rfl)) (by decide) (backOfSH (s := s) (vm0 := s.vm) (W := 0) (rm18B l Z a0 hw [] sn b0 1 fF cs sv lN h0 n0 Z0 ha2 ha3 ha4 ha5 ha6 ha7 hcs hsv hq0 hq1 hq2 hlo hk0) hZ (wq hw 100 rfl) (wq hw 7 rfl) (by decide) (by decide) (own_EW hw) hCH) q4a q4c (g := (mkF m 15 #[sR o0] [(.int (Int32.ofNat lN)), (.ref sn)])) rfl (by rw [hml]; rfl) (Steps.refl _) (argsL := [(.int (Int32.ofNat lN))]) (rest := []) (lenOf pd_15 rfl) rfl (leW rfl) (hb hby d9_15) (fun _ _ => ⟨rfl, e3, (by decide : 0 + 0 + 2 ≤ _), (by decide : 0 + 0 + 68 ≤ _)⟩)
  dsimp only [Pt.U, Pt.locs, Pt.cells, Pt.slots] at X4 hS4 l4 y4 z4 A4 st4 hQ4
  subst l4 y4 z4
  obtain ⟨b4_0, b4_1, rfl, N4q, Kq4, f4_0, f4_1, f4_2, f4_3, f4_4, f4_5, f4_6, f4_7, f4_8, f4_9⟩ := hQ4
  have CR5c := CHr.trans (CHr.refl hCH) A4
  have c6_0 := ha0.keep Kq4
  have c6_1 := ha1.keep Kq4 nin0
  have K4 : Keep h0 T4.heap [] := (Keep.refl h0 []).trans Kq4 all0
  have Z4 : n0 ≤ T4.heap.size := Nat.le_trans Z0 Kq4.1
  have ne_b4_1_o0 := AV.neExa f4_9 c6_0 (wq hw 15 rfl)
  have ne_b4_1_sn := AV.neExa f4_9 f4_0 (wq hw 8 rfl)
  have ne_b4_1_b4_0 := AV.neExa f4_9 f4_6 (wq hw 8 rfl)
  have N4 := Fr.app N3 N4q
  have hS4c : s.Since T4.vm T4.heap.size := State.Since.trans hS0 hS4 (Nat.le_trans (Nat.zero_le _) Kq4.1)
  replace hZ : Z.Warmed39 (s.setVm T4.vm).vm := State.Warmed39.trans (t := s.setVm s.vm) hZ hS4.1
  replace hown : (s.setVm T4.vm).vm.findClass "com/example/bindery/bindery/compiler/JavaType" = some m.cls := by rw [show (s.setVm T4.vm).vm = T4.vm from rfl, hS4.1.alike.findClass]; exact hown
  refine Go.via (fun t k => st4.trans k) ?_
  refine Go.finW (h := T4.heap) (h0 := h0) (s := s) (vm₁ := T4.vm) X4 hS4c rfl (Nat.le_refl _) Bd.notSynchronized (v := some (.ref b4_0)) (fun h => by rw [Bd.returns] at h; cases h) (fun fs hr => retOut X4 hx Bd.returns rfl (Or.inr (Or.inr (Or.inr (Or.inr ⟨rfl, rfl, rfl⟩)))) (hb hby d9_18) hr) (by decide) (by decide) hh hZ (own_EW hw) CR5c ?_
  exact ⟨b4_0, b4_1, rfl, N4, K4, c6_0, c6_1, f4_0, f4_1, f4_2, f4_3, f4_4, f4_5, f4_6, f4_7, f4_8, f4_9⟩
def Q9n2B (Z : State) (o0 : Addr) (sn : Addr) (b0 : Addr) (fF : Nat → Int32) (cs : Int32) (sv : Value) (lN : Nat) (h0 : Heap) (n0 : Nat) (v : Option Value) (h : Heap) (L : List Loc) : Prop := ∃ b4_0 : Addr, ∃ b4_1 : Addr, v = some (.ref b4_0) ∧ Fr n0 L ∧ Keep h0 h [] ∧ Exa Z h o0 "com/example/bindery/bindery/compiler/JavaType" ∧ Fld Z h o0 "com/example/bindery/bindery/compiler/JavaType" "name" "Ljava/lang/String;" (.ref sn) ∧ Exa Z h sn "java/lang/String" ∧ Fld Z h sn "java/lang/String" "coder" "B" (.int 0) ∧ Fld Z h sn "java/lang/String" "value" "[B" (.ref b0) ∧ AV Z h b0 .byte 2 (fun k => .int (fF k)) ∧ Sta Z h "java/lang/String" "COMPACT_STRINGS" "Z" (.int cs) ∧ Sta Z h "jdk/internal/util/Preconditions" "SIOOBE_FORMATTER" "Ljava/util/function/BiFunction;" sv ∧ Exa Z h b4_0 "java/lang/String" ∧ Fld Z h b4_0 "java/lang/String" "coder" "B" (.int 0) ∧ Fld Z h b4_0 "java/lang/String" "value" "[B" (.ref b4_1) ∧ AV Z h b4_1 .byte 0 (fun k => .int ((own_t []) k))
theorem rm9n2B (l : Launch) (Z : State) (a0 : Array Value) (hw : ∀ d ∈ tables_1, d.before a0 Z = true) (ws : List Jvm.Cond) (o0 : Addr) (sn : Addr) (b0 : Addr) (fF : Nat → Int32) (cs : Int32) (sv : Value) (lN : Nat) (h0 : Heap) (n0 : Nat) (Z0 : n0 ≤ h0.size) (ha0 : Exa Z h0 o0 "com/example/bindery/bindery/compiler/JavaType") (ha1 : Fld Z h0 o0 "com/example/bindery/bindery/compiler/JavaType" "name" "Ljava/lang/String;" (.ref sn)) (ha2 : Exa Z h0 sn "java/lang/String") (ha3 : Fld Z h0 sn "java/lang/String" "coder" "B" (.int 0)) (ha4 : Fld Z h0 sn "java/lang/String" "value" "[B" (.ref b0)) (ha5 : AV Z h0 b0 .byte 2 (fun k => .int (fF k))) (ha6 : Sta Z h0 "java/lang/String" "COMPACT_STRINGS" "Z" (.int cs)) (ha7 : Sta Z h0 "jdk/internal/util/Preconditions" "SIOOBE_FORMATTER" "Ljava/util/function/BiFunction;" sv) (hcs : ¬ cs = 0) (hsv : sv.isRef = true) (hq0 : ¬ (Int32.ofNat lN) < 0) (hq1 : ¬ (2 : Int32) < (Int32.ofNat lN)) (hq2 : ¬ (2 : Int32) < (2 : Int32)) (hlo : ¬ (Int32.ofNat lN) = (0 : Int32)) (hk0 : ((2 : Int32) - (Int32.ofNat lN)) = (0 : Int32)) (hld : ((f10n2 sn b0 fF cs) + (1 : Int32)) = (Int32.ofNat lN)) :
    MetFree l y9 (head1 (Jvm.Cond.code y9 prog_5_method_8_code 1 (some (.object "java/lang/String")) :: ws) RM_4_2_68_58) (fun a U => a = #[(.ref o0)] ∧ Z.Warmed39 U.vm ∧ U.heap = h0 ∧ CHv Z own_EL U.vm h0) (fun _ _ _ _ _ => True) (fun _ U o U' => ∃ v L, o = .returned v ∧ Q9n2B Z o0 sn b0 fF cs sv lN h0 n0 v U'.heap L ∧ CHr Z own_EL U.vm U.heap U'.vm U'.heap ∧ ReturnedEndW U o U' L RM_4_2_68_58.cells RM_4_2_68_58.slots) := by
  refine MetFree.of_bodySF (plainFor_of_name pn_5) hisR ?_
  intro p e s m args below meth c s₁ Bd hml0 hP hK
  obtain ⟨rfl, hZ, hh, hCH⟩ := hP
  have hx := Bd.exec
  have hby := Bd.bytes
  have hml : c.maxLocals = 1 := hml0
  have hown : s.vm.findClass "com/example/bindery/bindery/compiler/JavaType" = some m.cls := findClass_of_methodNamed Bd.named
  have X0 : Stand p l e RM_4_2_68_58 s m _ below meth c s₁ [] 0 0 := Stand.of_body Bd
  have e0 : s₁.heap = h0 := by rw [← hh, Bd.state]; rfl
  have N0 := Fr.nil n0
  refine Go.into (P := fun oo uu => ∃ v L, oo = .returned v ∧ Q9n2B Z o0 sn b0 fF cs sv lN h0 n0 v uu.heap L ∧ CHr Z own_EL s.vm s.heap uu.vm uu.heap ∧ ReturnedEndW s oo uu L RM_4_2_68_58.cells RM_4_2_68_58.slots) (ef_9_a m o0) ?_
  show Go p e below _ (s₁.setTop (mkF m 0 #[sR o0] []))
  have hS0 : s.Since s.vm 0 := (State.WarmedH.refl s).since 0
  have wS : ∀ a ∈ Bundle.stringAtoms, a.before a0 Z = true := by
    intro d hd
    simp only [Bundle.stringAtoms, List.mem_cons, List.not_mem_nil, or_false] at hd
    rcases hd with rfl | rfl | rfl | rfl | rfl | rfl | rfl
    · exact (wq hw 7 rfl)
    · exact (wq hw 8 rfl)
    · exact (wq hw 9 rfl)
    · exact (wq hw 10 rfl)
    · exact (wq hw 11 rfl)
    · exact (wq hw 12 rfl)
    · exact (wq hw 13 rfl)
  refine Vi (s₁.setTop (mkF m 1 #[sR o0] [(.ref o0)])) (fun tZ kZ => ?_) ?_
  · refine XS.aloadN X0.here hx rfl (hb hby d9_0) rfl rfl ?_
    exact kZ
  obtain ⟨T1, X1, e1, st1⟩ := getF X0 hx hZ hown (host := "") (Or.inl (wq hw 50 rfl)) Via.refl e0 ha1 (g := (mkF m 1 #[sR o0] [(.ref o0)])) rfl rfl (hb hby d9_1)
  refine Go.via st1 ?_
  refine Vi (T1.setTop (mkF m 5 #[sR o0] [(.ref o0), (.ref sn)])) (fun tZ kZ => ?_) ?_
  · refine XS.aloadN X1.here hx rfl (hb hby d9_4) rfl rfl ?_
    exact kZ
  obtain ⟨T2, X2, e2, st2⟩ := getF X1 hx hZ hown (host := "") (Or.inl (wq hw 50 rfl)) Via.refl e1 ha1 (g := (mkF m 5 #[sR o0] [(.ref o0), (.ref sn)])) rfl rfl (hb hby d9_5)
  refine Go.via st2 ?_
  refine Vi (T2.setTop (mkF m 10 #[sR o0] [(.int 46), (.ref sn), (.ref sn)])) (fun tZ kZ => ?_) ?_
  · refine XS.bipush X2.here hx rfl (hb hby d9_8) ?_
    exact kZ
  obtain ⟨cq3, kq3, q3a, q3b, q3c⟩ := isOf hZ e2 ha2
  obtain ⟨_, _, ⟨T3, L3, k3, n3⟩, -, X3, ⟨Lc3, hQ3, l3, y3, z3⟩, st3⟩ := X2.virtualBack hx (y := y10) (z := y10) hown (mvT hZ (wq hw 59 rfl)) (mvT hZ (wq hw 60 rfl)) (notFace_of_selects (args := #[]) (mvT hZ (wq hw 62 rfl))) (mvT hZ (wq hw 62 rfl)) (mvT hZ (wq hw 61 rfl)) (by decide) (backOf (W := 1) (rm10n2 l Z a0 hw [] sn b0 fF cs h0 n0 Z0 ha2 ha3 ha4 ha5 ha6 hcs) hZ (wq hw 63 rfl) (wq hw 7 rfl) (by decide) (by decide)) q3a q3c (g := (mkF m 10 #[sR o0] [(.int 46), (.ref sn), (.ref sn)])) rfl (by rw [hml]; rfl) (Steps.refl _) (argsL := [(.int 46)]) (rest := [(.ref sn)]) (lenOf pd_8 rfl) rfl (leW rfl) (hb hby d9_10) (fun _ _ => ⟨rfl, e2, (by decide : 0 + 0 ≤ _), (by decide : 0 + 0 ≤ _)⟩)
  dsimp only [Pt.U, Pt.locs, Pt.cells, Pt.slots] at X3 l3 y3 z3 st3 hQ3
  subst l3 y3 z3
  obtain ⟨rfl, N3q, e3⟩ := hQ3
  have N3 := Fr.app N0 N3q
  refine Go.via (fun t k => st3.trans k) ?_
  refine Vi (T3.setTop (mkF m 15 #[sR o0] [(.int ((f10n2 sn b0 fF cs) + (1 : Int32))), (.ref sn)])) (fun tZ kZ => ?_) ?_
  · refine XS.iconst X3.here hx rfl (hb hby d9_13) ?_
    refine XS.iadd X3.here hx rfl (hb hby d9_14) rfl ?_
    exact kZ
  rw [hld]
  show Go p e below _ (T3.setTop (mkF m 15 #[sR o0] [(.int (Int32.ofNat lN)), (.ref sn)]))
  obtain ⟨cq4, kq4, q4a, q4b, q4c⟩ := isOf hZ e3 ha2
  obtain ⟨_, _, ⟨T4, L4, k4, n4⟩, -, X4, hS4, -, ⟨Lc4, hQ4, l4, y4, z4, A4⟩, st4⟩ := virtualBackS (s := s.setVm s.vm) X3 hx (y := y18) (z := y18) hown (mvT hZ (wq hw 96 rfl)) (mvT hZ (wq hw 97 rfl)) (notFace_of_selects (args := #[]) (mvT hZ (wq hw 99 rfl))) (mvT hZ (wq hw 99 rfl)) (mvT hZ (wq hw 98 rfl)) (by decide) (backOfSH (s := s) (vm0 := s.vm) (W := 0) (rm18B l Z a0 hw [] sn b0 2 fF cs sv lN h0 n0 Z0 ha2 ha3 ha4 ha5 ha6 ha7 hcs hsv hq0 hq1 hq2 hlo hk0) hZ (wq hw 100 rfl) (wq hw 7 rfl) (by decide) (by decide) (own_EW hw) hCH) q4a q4c (g := (mkF m 15 #[sR o0] [(.int (Int32.ofNat lN)), (.ref sn)])) rfl (by rw [hml]; rfl) (Steps.refl _) (argsL := [(.int (Int32.ofNat lN))]) (rest := []) (lenOf pd_15 rfl) rfl (leW rfl) (hb hby d9_15) (fun _ _ => ⟨rfl, e3, (by decide : 0 + 0 + 2 ≤ _), (by decide : 0 + 0 + 68 ≤ _)⟩)
  dsimp only [Pt.U, Pt.locs, Pt.cells, Pt.slots] at X4 hS4 l4 y4 z4 A4 st4 hQ4
  subst l4 y4 z4
  obtain ⟨b4_0, b4_1, rfl, N4q, Kq4, f4_0, f4_1, f4_2, f4_3, f4_4, f4_5, f4_6, f4_7, f4_8, f4_9⟩ := hQ4
  have CR5c := CHr.trans (CHr.refl hCH) A4
  have c6_0 := ha0.keep Kq4
  have c6_1 := ha1.keep Kq4 nin0
  have K4 : Keep h0 T4.heap [] := (Keep.refl h0 []).trans Kq4 all0
  have Z4 : n0 ≤ T4.heap.size := Nat.le_trans Z0 Kq4.1
  have ne_b4_1_o0 := AV.neExa f4_9 c6_0 (wq hw 15 rfl)
  have ne_b4_1_sn := AV.neExa f4_9 f4_0 (wq hw 8 rfl)
  have ne_b4_1_b4_0 := AV.neExa f4_9 f4_6 (wq hw 8 rfl)
  have N4 := Fr.app N3 N4q
  have hS4c : s.Since T4.vm T4.heap.size := State.Since.trans hS0 hS4 (Nat.le_trans (Nat.zero_le _) Kq4.1)
  replace hZ : Z.Warmed39 (s.setVm T4.vm).vm := State.Warmed39.trans (t := s.setVm s.vm) hZ hS4.1
  replace hown : (s.setVm T4.vm).vm.findClass "com/example/bindery/bindery/compiler/JavaType" = some m.cls := by rw [show (s.setVm T4.vm).vm = T4.vm from rfl, hS4.1.alike.findClass]; exact hown
  refine Go.via (fun t k => st4.trans k) ?_
  refine Go.finW (h := T4.heap) (h0 := h0) (s := s) (vm₁ := T4.vm) X4 hS4c rfl (Nat.le_refl _) Bd.notSynchronized (v := some (.ref b4_0)) (fun h => by rw [Bd.returns] at h; cases h) (fun fs hr => retOut X4 hx Bd.returns rfl (Or.inr (Or.inr (Or.inr (Or.inr ⟨rfl, rfl, rfl⟩)))) (hb hby d9_18) hr) (by decide) (by decide) hh hZ (own_EW hw) CR5c ?_
  exact ⟨b4_0, b4_1, rfl, N4, K4, c6_0, c6_1, f4_0, f4_1, f4_2, f4_3, f4_4, f4_5, f4_6, f4_7, f4_8, f4_9⟩
def Q9n3B (Z : State) (o0 : Addr) (sn : Addr) (b0 : Addr) (fF : Nat → Int32) (cs : Int32) (sv : Value) (lN : Nat) (h0 : Heap) (n0 : Nat) (v : Option Value) (h : Heap) (L : List Loc) : Prop := ∃ b4_0 : Addr, ∃ b4_1 : Addr, v = some (.ref b4_0) ∧ Fr n0 L ∧ Keep h0 h [] ∧ Exa Z h o0 "com/example/bindery/bindery/compiler/JavaType" ∧ Fld Z h o0 "com/example/bindery/bindery/compiler/JavaType" "name" "Ljava/lang/String;" (.ref sn) ∧ Exa Z h sn "java/lang/String" ∧ Fld Z h sn "java/lang/String" "coder" "B" (.int 0) ∧ Fld Z h sn "java/lang/String" "value" "[B" (.ref b0) ∧ AV Z h b0 .byte 3 (fun k => .int (fF k)) ∧ Sta Z h "java/lang/String" "COMPACT_STRINGS" "Z" (.int cs) ∧ Sta Z h "jdk/internal/util/Preconditions" "SIOOBE_FORMATTER" "Ljava/util/function/BiFunction;" sv ∧ Exa Z h b4_0 "java/lang/String" ∧ Fld Z h b4_0 "java/lang/String" "coder" "B" (.int 0) ∧ Fld Z h b4_0 "java/lang/String" "value" "[B" (.ref b4_1) ∧ AV Z h b4_1 .byte 0 (fun k => .int ((own_t []) k))
theorem rm9n3B (l : Launch) (Z : State) (a0 : Array Value) (hw : ∀ d ∈ tables_1, d.before a0 Z = true) (ws : List Jvm.Cond) (o0 : Addr) (sn : Addr) (b0 : Addr) (fF : Nat → Int32) (cs : Int32) (sv : Value) (lN : Nat) (h0 : Heap) (n0 : Nat) (Z0 : n0 ≤ h0.size) (ha0 : Exa Z h0 o0 "com/example/bindery/bindery/compiler/JavaType") (ha1 : Fld Z h0 o0 "com/example/bindery/bindery/compiler/JavaType" "name" "Ljava/lang/String;" (.ref sn)) (ha2 : Exa Z h0 sn "java/lang/String") (ha3 : Fld Z h0 sn "java/lang/String" "coder" "B" (.int 0)) (ha4 : Fld Z h0 sn "java/lang/String" "value" "[B" (.ref b0)) (ha5 : AV Z h0 b0 .byte 3 (fun k => .int (fF k))) (ha6 : Sta Z h0 "java/lang/String" "COMPACT_STRINGS" "Z" (.int cs)) (ha7 : Sta Z h0 "jdk/internal/util/Preconditions" "SIOOBE_FORMATTER" "Ljava/util/function/BiFunction;" sv) (hcs : ¬ cs = 0) (hsv : sv.isRef = true) (hq0 : ¬ (Int32.ofNat lN) < 0) (hq1 : ¬ (3 : Int32) < (Int32.ofNat lN)) (hq2 : ¬ (3 : Int32) < (3 : Int32)) (hlo : ¬ (Int32.ofNat lN) = (0 : Int32)) (hk0 : ((3 : Int32) - (Int32.ofNat lN)) = (0 : Int32)) (hld : ((f10n3 sn b0 fF cs) + (1 : Int32)) = (Int32.ofNat lN)) :
    MetFree l y9 (head1 (Jvm.Cond.code y9 prog_5_method_8_code 1 (some (.object "java/lang/String")) :: ws) RM_4_2_68_58) (fun a U => a = #[(.ref o0)] ∧ Z.Warmed39 U.vm ∧ U.heap = h0 ∧ CHv Z own_EL U.vm h0) (fun _ _ _ _ _ => True) (fun _ U o U' => ∃ v L, o = .returned v ∧ Q9n3B Z o0 sn b0 fF cs sv lN h0 n0 v U'.heap L ∧ CHr Z own_EL U.vm U.heap U'.vm U'.heap ∧ ReturnedEndW U o U' L RM_4_2_68_58.cells RM_4_2_68_58.slots) := by
  refine MetFree.of_bodySF (plainFor_of_name pn_5) hisR ?_
  intro p e s m args below meth c s₁ Bd hml0 hP hK
  obtain ⟨rfl, hZ, hh, hCH⟩ := hP
  have hx := Bd.exec
  have hby := Bd.bytes
  have hml : c.maxLocals = 1 := hml0
  have hown : s.vm.findClass "com/example/bindery/bindery/compiler/JavaType" = some m.cls := findClass_of_methodNamed Bd.named
  have X0 : Stand p l e RM_4_2_68_58 s m _ below meth c s₁ [] 0 0 := Stand.of_body Bd
  have e0 : s₁.heap = h0 := by rw [← hh, Bd.state]; rfl
  have N0 := Fr.nil n0
  refine Go.into (P := fun oo uu => ∃ v L, oo = .returned v ∧ Q9n3B Z o0 sn b0 fF cs sv lN h0 n0 v uu.heap L ∧ CHr Z own_EL s.vm s.heap uu.vm uu.heap ∧ ReturnedEndW s oo uu L RM_4_2_68_58.cells RM_4_2_68_58.slots) (ef_9_a m o0) ?_
  show Go p e below _ (s₁.setTop (mkF m 0 #[sR o0] []))
  have hS0 : s.Since s.vm 0 := (State.WarmedH.refl s).since 0
  have wS : ∀ a ∈ Bundle.stringAtoms, a.before a0 Z = true := by
    intro d hd
    simp only [Bundle.stringAtoms, List.mem_cons, List.not_mem_nil, or_false] at hd
    rcases hd with rfl | rfl | rfl | rfl | rfl | rfl | rfl
    · exact (wq hw 7 rfl)
    · exact (wq hw 8 rfl)
    · exact (wq hw 9 rfl)
    · exact (wq hw 10 rfl)
    · exact (wq hw 11 rfl)
    · exact (wq hw 12 rfl)
    · exact (wq hw 13 rfl)
  refine Vi (s₁.setTop (mkF m 1 #[sR o0] [(.ref o0)])) (fun tZ kZ => ?_) ?_
  · refine XS.aloadN X0.here hx rfl (hb hby d9_0) rfl rfl ?_
    exact kZ
  obtain ⟨T1, X1, e1, st1⟩ := getF X0 hx hZ hown (host := "") (Or.inl (wq hw 50 rfl)) Via.refl e0 ha1 (g := (mkF m 1 #[sR o0] [(.ref o0)])) rfl rfl (hb hby d9_1)
  refine Go.via st1 ?_
  refine Vi (T1.setTop (mkF m 5 #[sR o0] [(.ref o0), (.ref sn)])) (fun tZ kZ => ?_) ?_
  · refine XS.aloadN X1.here hx rfl (hb hby d9_4) rfl rfl ?_
    exact kZ
  obtain ⟨T2, X2, e2, st2⟩ := getF X1 hx hZ hown (host := "") (Or.inl (wq hw 50 rfl)) Via.refl e1 ha1 (g := (mkF m 5 #[sR o0] [(.ref o0), (.ref sn)])) rfl rfl (hb hby d9_5)
  refine Go.via st2 ?_
  refine Vi (T2.setTop (mkF m 10 #[sR o0] [(.int 46), (.ref sn), (.ref sn)])) (fun tZ kZ => ?_) ?_
  · refine XS.bipush X2.here hx rfl (hb hby d9_8) ?_
    exact kZ
  obtain ⟨cq3, kq3, q3a, q3b, q3c⟩ := isOf hZ e2 ha2
  obtain ⟨_, _, ⟨T3, L3, k3, n3⟩, -, X3, ⟨Lc3, hQ3, l3, y3, z3⟩, st3⟩ := X2.virtualBack hx (y := y10) (z := y10) hown (mvT hZ (wq hw 59 rfl)) (mvT hZ (wq hw 60 rfl)) (notFace_of_selects (args := #[]) (mvT hZ (wq hw 62 rfl))) (mvT hZ (wq hw 62 rfl)) (mvT hZ (wq hw 61 rfl)) (by decide) (backOf (W := 1) (rm10n3 l Z a0 hw [] sn b0 fF cs h0 n0 Z0 ha2 ha3 ha4 ha5 ha6 hcs) hZ (wq hw 63 rfl) (wq hw 7 rfl) (by decide) (by decide)) q3a q3c (g := (mkF m 10 #[sR o0] [(.int 46), (.ref sn), (.ref sn)])) rfl (by rw [hml]; rfl) (Steps.refl _) (argsL := [(.int 46)]) (rest := [(.ref sn)]) (lenOf pd_8 rfl) rfl (leW rfl) (hb hby d9_10) (fun _ _ => ⟨rfl, e2, (by decide : 0 + 0 ≤ _), (by decide : 0 + 0 ≤ _)⟩)
  dsimp only [Pt.U, Pt.locs, Pt.cells, Pt.slots] at X3 l3 y3 z3 st3 hQ3
  subst l3 y3 z3
  obtain ⟨rfl, N3q, e3⟩ := hQ3
  have N3 := Fr.app N0 N3q
  refine Go.via (fun t k => st3.trans k) ?_
  refine Vi (T3.setTop (mkF m 15 #[sR o0] [(.int ((f10n3 sn b0 fF cs) + (1 : Int32))), (.ref sn)])) (fun tZ kZ => ?_) ?_
  · refine XS.iconst X3.here hx rfl (hb hby d9_13) ?_
    refine XS.iadd X3.here hx rfl (hb hby d9_14) rfl ?_
    exact kZ
  rw [hld]
  show Go p e below _ (T3.setTop (mkF m 15 #[sR o0] [(.int (Int32.ofNat lN)), (.ref sn)]))
  obtain ⟨cq4, kq4, q4a, q4b, q4c⟩ := isOf hZ e3 ha2
  obtain ⟨_, _, ⟨T4, L4, k4, n4⟩, -, X4, hS4, -, ⟨Lc4, hQ4, l4, y4, z4, A4⟩, st4⟩ := virtualBackS (s := s.setVm s.vm) X3 hx (y := y18) (z := y18) hown (mvT hZ (wq hw 96 rfl)) (mvT hZ (wq hw 97 rfl)) (notFace_of_selects (args := #[]) (mvT hZ (wq hw 99 rfl))) (mvT hZ (wq hw 99 rfl)) (mvT hZ (wq hw 98 rfl)) (by decide) (backOfSH (s := s) (vm0 := s.vm) (W := 0) (rm18B l Z a0 hw [] sn b0 3 fF cs sv lN h0 n0 Z0 ha2 ha3 ha4 ha5 ha6 ha7 hcs hsv hq0 hq1 hq2 hlo hk0) hZ (wq hw 100 rfl) (wq hw 7 rfl) (by decide) (by decide) (own_EW hw) hCH) q4a q4c (g := (mkF m 15 #[sR o0] [(.int (Int32.ofNat lN)), (.ref sn)])) rfl (by rw [hml]; rfl) (Steps.refl _) (argsL := [(.int (Int32.ofNat lN))]) (rest := []) (lenOf pd_15 rfl) rfl (leW rfl) (hb hby d9_15) (fun _ _ => ⟨rfl, e3, (by decide : 0 + 0 + 2 ≤ _), (by decide : 0 + 0 + 68 ≤ _)⟩)
  dsimp only [Pt.U, Pt.locs, Pt.cells, Pt.slots] at X4 hS4 l4 y4 z4 A4 st4 hQ4
  subst l4 y4 z4
  obtain ⟨b4_0, b4_1, rfl, N4q, Kq4, f4_0, f4_1, f4_2, f4_3, f4_4, f4_5, f4_6, f4_7, f4_8, f4_9⟩ := hQ4
  have CR5c := CHr.trans (CHr.refl hCH) A4
  have c6_0 := ha0.keep Kq4
  have c6_1 := ha1.keep Kq4 nin0
  have K4 : Keep h0 T4.heap [] := (Keep.refl h0 []).trans Kq4 all0
  have Z4 : n0 ≤ T4.heap.size := Nat.le_trans Z0 Kq4.1
  have ne_b4_1_o0 := AV.neExa f4_9 c6_0 (wq hw 15 rfl)
  have ne_b4_1_sn := AV.neExa f4_9 f4_0 (wq hw 8 rfl)
  have ne_b4_1_b4_0 := AV.neExa f4_9 f4_6 (wq hw 8 rfl)
  have N4 := Fr.app N3 N4q
  have hS4c : s.Since T4.vm T4.heap.size := State.Since.trans hS0 hS4 (Nat.le_trans (Nat.zero_le _) Kq4.1)
  replace hZ : Z.Warmed39 (s.setVm T4.vm).vm := State.Warmed39.trans (t := s.setVm s.vm) hZ hS4.1
  replace hown : (s.setVm T4.vm).vm.findClass "com/example/bindery/bindery/compiler/JavaType" = some m.cls := by rw [show (s.setVm T4.vm).vm = T4.vm from rfl, hS4.1.alike.findClass]; exact hown
  refine Go.via (fun t k => st4.trans k) ?_
  refine Go.finW (h := T4.heap) (h0 := h0) (s := s) (vm₁ := T4.vm) X4 hS4c rfl (Nat.le_refl _) Bd.notSynchronized (v := some (.ref b4_0)) (fun h => by rw [Bd.returns] at h; cases h) (fun fs hr => retOut X4 hx Bd.returns rfl (Or.inr (Or.inr (Or.inr (Or.inr ⟨rfl, rfl, rfl⟩)))) (hb hby d9_18) hr) (by decide) (by decide) hh hZ (own_EW hw) CR5c ?_
  exact ⟨b4_0, b4_1, rfl, N4, K4, c6_0, c6_1, f4_0, f4_1, f4_2, f4_3, f4_4, f4_5, f4_6, f4_7, f4_8, f4_9⟩
def Q9n4B (Z : State) (o0 : Addr) (sn : Addr) (b0 : Addr) (fF : Nat → Int32) (cs : Int32) (sv : Value) (lN : Nat) (h0 : Heap) (n0 : Nat) (v : Option Value) (h : Heap) (L : List Loc) : Prop := ∃ b4_0 : Addr, ∃ b4_1 : Addr, v = some (.ref b4_0) ∧ Fr n0 L ∧ Keep h0 h [] ∧ Exa Z h o0 "com/example/bindery/bindery/compiler/JavaType" ∧ Fld Z h o0 "com/example/bindery/bindery/compiler/JavaType" "name" "Ljava/lang/String;" (.ref sn) ∧ Exa Z h sn "java/lang/String" ∧ Fld Z h sn "java/lang/String" "coder" "B" (.int 0) ∧ Fld Z h sn "java/lang/String" "value" "[B" (.ref b0) ∧ AV Z h b0 .byte 4 (fun k => .int (fF k)) ∧ Sta Z h "java/lang/String" "COMPACT_STRINGS" "Z" (.int cs) ∧ Sta Z h "jdk/internal/util/Preconditions" "SIOOBE_FORMATTER" "Ljava/util/function/BiFunction;" sv ∧ Exa Z h b4_0 "java/lang/String" ∧ Fld Z h b4_0 "java/lang/String" "coder" "B" (.int 0) ∧ Fld Z h b4_0 "java/lang/String" "value" "[B" (.ref b4_1) ∧ AV Z h b4_1 .byte 0 (fun k => .int ((own_t []) k))
theorem rm9n4B (l : Launch) (Z : State) (a0 : Array Value) (hw : ∀ d ∈ tables_1, d.before a0 Z = true) (ws : List Jvm.Cond) (o0 : Addr) (sn : Addr) (b0 : Addr) (fF : Nat → Int32) (cs : Int32) (sv : Value) (lN : Nat) (h0 : Heap) (n0 : Nat) (Z0 : n0 ≤ h0.size) (ha0 : Exa Z h0 o0 "com/example/bindery/bindery/compiler/JavaType") (ha1 : Fld Z h0 o0 "com/example/bindery/bindery/compiler/JavaType" "name" "Ljava/lang/String;" (.ref sn)) (ha2 : Exa Z h0 sn "java/lang/String") (ha3 : Fld Z h0 sn "java/lang/String" "coder" "B" (.int 0)) (ha4 : Fld Z h0 sn "java/lang/String" "value" "[B" (.ref b0)) (ha5 : AV Z h0 b0 .byte 4 (fun k => .int (fF k))) (ha6 : Sta Z h0 "java/lang/String" "COMPACT_STRINGS" "Z" (.int cs)) (ha7 : Sta Z h0 "jdk/internal/util/Preconditions" "SIOOBE_FORMATTER" "Ljava/util/function/BiFunction;" sv) (hcs : ¬ cs = 0) (hsv : sv.isRef = true) (hq0 : ¬ (Int32.ofNat lN) < 0) (hq1 : ¬ (4 : Int32) < (Int32.ofNat lN)) (hq2 : ¬ (4 : Int32) < (4 : Int32)) (hlo : ¬ (Int32.ofNat lN) = (0 : Int32)) (hk0 : ((4 : Int32) - (Int32.ofNat lN)) = (0 : Int32)) (hld : ((f10n4 sn b0 fF cs) + (1 : Int32)) = (Int32.ofNat lN)) :
    MetFree l y9 (head1 (Jvm.Cond.code y9 prog_5_method_8_code 1 (some (.object "java/lang/String")) :: ws) RM_4_2_68_58) (fun a U => a = #[(.ref o0)] ∧ Z.Warmed39 U.vm ∧ U.heap = h0 ∧ CHv Z own_EL U.vm h0) (fun _ _ _ _ _ => True) (fun _ U o U' => ∃ v L, o = .returned v ∧ Q9n4B Z o0 sn b0 fF cs sv lN h0 n0 v U'.heap L ∧ CHr Z own_EL U.vm U.heap U'.vm U'.heap ∧ ReturnedEndW U o U' L RM_4_2_68_58.cells RM_4_2_68_58.slots) := by
  refine MetFree.of_bodySF (plainFor_of_name pn_5) hisR ?_
  intro p e s m args below meth c s₁ Bd hml0 hP hK
  obtain ⟨rfl, hZ, hh, hCH⟩ := hP
  have hx := Bd.exec
  have hby := Bd.bytes
  have hml : c.maxLocals = 1 := hml0
  have hown : s.vm.findClass "com/example/bindery/bindery/compiler/JavaType" = some m.cls := findClass_of_methodNamed Bd.named
  have X0 : Stand p l e RM_4_2_68_58 s m _ below meth c s₁ [] 0 0 := Stand.of_body Bd
  have e0 : s₁.heap = h0 := by rw [← hh, Bd.state]; rfl
  have N0 := Fr.nil n0
  refine Go.into (P := fun oo uu => ∃ v L, oo = .returned v ∧ Q9n4B Z o0 sn b0 fF cs sv lN h0 n0 v uu.heap L ∧ CHr Z own_EL s.vm s.heap uu.vm uu.heap ∧ ReturnedEndW s oo uu L RM_4_2_68_58.cells RM_4_2_68_58.slots) (ef_9_a m o0) ?_
  show Go p e below _ (s₁.setTop (mkF m 0 #[sR o0] []))
  have hS0 : s.Since s.vm 0 := (State.WarmedH.refl s).since 0
  have wS : ∀ a ∈ Bundle.stringAtoms, a.before a0 Z = true := by
    intro d hd
    simp only [Bundle.stringAtoms, List.mem_cons, List.not_mem_nil, or_false] at hd
    rcases hd with rfl | rfl | rfl | rfl | rfl | rfl | rfl
    · exact (wq hw 7 rfl)
    · exact (wq hw 8 rfl)
    · exact (wq hw 9 rfl)
    · exact (wq hw 10 rfl)
    · exact (wq hw 11 rfl)
    · exact (wq hw 12 rfl)
    · exact (wq hw 13 rfl)
  refine Vi (s₁.setTop (mkF m 1 #[sR o0] [(.ref o0)])) (fun tZ kZ => ?_) ?_
  · refine XS.aloadN X0.here hx rfl (hb hby d9_0) rfl rfl ?_
    exact kZ
  obtain ⟨T1, X1, e1, st1⟩ := getF X0 hx hZ hown (host := "") (Or.inl (wq hw 50 rfl)) Via.refl e0 ha1 (g := (mkF m 1 #[sR o0] [(.ref o0)])) rfl rfl (hb hby d9_1)
  refine Go.via st1 ?_
  refine Vi (T1.setTop (mkF m 5 #[sR o0] [(.ref o0), (.ref sn)])) (fun tZ kZ => ?_) ?_
  · refine XS.aloadN X1.here hx rfl (hb hby d9_4) rfl rfl ?_
    exact kZ
  obtain ⟨T2, X2, e2, st2⟩ := getF X1 hx hZ hown (host := "") (Or.inl (wq hw 50 rfl)) Via.refl e1 ha1 (g := (mkF m 5 #[sR o0] [(.ref o0), (.ref sn)])) rfl rfl (hb hby d9_5)
  refine Go.via st2 ?_
  refine Vi (T2.setTop (mkF m 10 #[sR o0] [(.int 46), (.ref sn), (.ref sn)])) (fun tZ kZ => ?_) ?_
  · refine XS.bipush X2.here hx rfl (hb hby d9_8) ?_
    exact kZ
  obtain ⟨cq3, kq3, q3a, q3b, q3c⟩ := isOf hZ e2 ha2
  obtain ⟨_, _, ⟨T3, L3, k3, n3⟩, -, X3, ⟨Lc3, hQ3, l3, y3, z3⟩, st3⟩ := X2.virtualBack hx (y := y10) (z := y10) hown (mvT hZ (wq hw 59 rfl)) (mvT hZ (wq hw 60 rfl)) (notFace_of_selects (args := #[]) (mvT hZ (wq hw 62 rfl))) (mvT hZ (wq hw 62 rfl)) (mvT hZ (wq hw 61 rfl)) (by decide) (backOf (W := 1) (rm10n4 l Z a0 hw [] sn b0 fF cs h0 n0 Z0 ha2 ha3 ha4 ha5 ha6 hcs) hZ (wq hw 63 rfl) (wq hw 7 rfl) (by decide) (by decide)) q3a q3c (g := (mkF m 10 #[sR o0] [(.int 46), (.ref sn), (.ref sn)])) rfl (by rw [hml]; rfl) (Steps.refl _) (argsL := [(.int 46)]) (rest := [(.ref sn)]) (lenOf pd_8 rfl) rfl (leW rfl) (hb hby d9_10) (fun _ _ => ⟨rfl, e2, (by decide : 0 + 0 ≤ _), (by decide : 0 + 0 ≤ _)⟩)
  dsimp only [Pt.U, Pt.locs, Pt.cells, Pt.slots] at X3 l3 y3 z3 st3 hQ3
  subst l3 y3 z3
  obtain ⟨rfl, N3q, e3⟩ := hQ3
  have N3 := Fr.app N0 N3q
  refine Go.via (fun t k => st3.trans k) ?_
  refine Vi (T3.setTop (mkF m 15 #[sR o0] [(.int ((f10n4 sn b0 fF cs) + (1 : Int32))), (.ref sn)])) (fun tZ kZ => ?_) ?_
  · refine XS.iconst X3.here hx rfl (hb hby d9_13) ?_
    refine XS.iadd X3.here hx rfl (hb hby d9_14) rfl ?_
    exact kZ
  rw [hld]
  show Go p e below _ (T3.setTop (mkF m 15 #[sR o0] [(.int (Int32.ofNat lN)), (.ref sn)]))
  obtain ⟨cq4, kq4, q4a, q4b, q4c⟩ := isOf hZ e3 ha2
  obtain ⟨_, _, ⟨T4, L4, k4, n4⟩, -, X4, hS4, -, ⟨Lc4, hQ4, l4, y4, z4, A4⟩, st4⟩ := virtualBackS (s := s.setVm s.vm) X3 hx (y := y18) (z := y18) hown (mvT hZ (wq hw 96 rfl)) (mvT hZ (wq hw 97 rfl)) (notFace_of_selects (args := #[]) (mvT hZ (wq hw 99 rfl))) (mvT hZ (wq hw 99 rfl)) (mvT hZ (wq hw 98 rfl)) (by decide) (backOfSH (s := s) (vm0 := s.vm) (W := 0) (rm18B l Z a0 hw [] sn b0 4 fF cs sv lN h0 n0 Z0 ha2 ha3 ha4 ha5 ha6 ha7 hcs hsv hq0 hq1 hq2 hlo hk0) hZ (wq hw 100 rfl) (wq hw 7 rfl) (by decide) (by decide) (own_EW hw) hCH) q4a q4c (g := (mkF m 15 #[sR o0] [(.int (Int32.ofNat lN)), (.ref sn)])) rfl (by rw [hml]; rfl) (Steps.refl _) (argsL := [(.int (Int32.ofNat lN))]) (rest := []) (lenOf pd_15 rfl) rfl (leW rfl) (hb hby d9_15) (fun _ _ => ⟨rfl, e3, (by decide : 0 + 0 + 2 ≤ _), (by decide : 0 + 0 + 68 ≤ _)⟩)
  dsimp only [Pt.U, Pt.locs, Pt.cells, Pt.slots] at X4 hS4 l4 y4 z4 A4 st4 hQ4
  subst l4 y4 z4
  obtain ⟨b4_0, b4_1, rfl, N4q, Kq4, f4_0, f4_1, f4_2, f4_3, f4_4, f4_5, f4_6, f4_7, f4_8, f4_9⟩ := hQ4
  have CR5c := CHr.trans (CHr.refl hCH) A4
  have c6_0 := ha0.keep Kq4
  have c6_1 := ha1.keep Kq4 nin0
  have K4 : Keep h0 T4.heap [] := (Keep.refl h0 []).trans Kq4 all0
  have Z4 : n0 ≤ T4.heap.size := Nat.le_trans Z0 Kq4.1
  have ne_b4_1_o0 := AV.neExa f4_9 c6_0 (wq hw 15 rfl)
  have ne_b4_1_sn := AV.neExa f4_9 f4_0 (wq hw 8 rfl)
  have ne_b4_1_b4_0 := AV.neExa f4_9 f4_6 (wq hw 8 rfl)
  have N4 := Fr.app N3 N4q
  have hS4c : s.Since T4.vm T4.heap.size := State.Since.trans hS0 hS4 (Nat.le_trans (Nat.zero_le _) Kq4.1)
  replace hZ : Z.Warmed39 (s.setVm T4.vm).vm := State.Warmed39.trans (t := s.setVm s.vm) hZ hS4.1
  replace hown : (s.setVm T4.vm).vm.findClass "com/example/bindery/bindery/compiler/JavaType" = some m.cls := by rw [show (s.setVm T4.vm).vm = T4.vm from rfl, hS4.1.alike.findClass]; exact hown
  refine Go.via (fun t k => st4.trans k) ?_
  refine Go.finW (h := T4.heap) (h0 := h0) (s := s) (vm₁ := T4.vm) X4 hS4c rfl (Nat.le_refl _) Bd.notSynchronized (v := some (.ref b4_0)) (fun h => by rw [Bd.returns] at h; cases h) (fun fs hr => retOut X4 hx Bd.returns rfl (Or.inr (Or.inr (Or.inr (Or.inr ⟨rfl, rfl, rfl⟩)))) (hb hby d9_18) hr) (by decide) (by decide) hh hZ (own_EW hw) CR5c ?_
  exact ⟨b4_0, b4_1, rfl, N4, K4, c6_0, c6_1, f4_0, f4_1, f4_2, f4_3, f4_4, f4_5, f4_6, f4_7, f4_8, f4_9⟩
theorem d28_0 : decode B28 0 = .ok (.iload_n 1, 1) := by decide +kernel
theorem d28_1 : decode B28 1 = .ok (.iload_n 0, 1) := by decide +kernel
theorem d28_2 : decode B28 2 = .ok (.if_icmp .ge 35, 3) := by decide +kernel
theorem d28_37 : decode B28 37 = .ok (.return_, 1) := by decide +kernel
def Q28C (Z : State) (nN : Nat) (lN : Nat) (h0 : Heap) (n0 : Nat) (v : Option Value) (h : Heap) (L : List Loc) : Prop := v = none ∧ Fr n0 L ∧ h = h0
theorem pn_8 : plainName "java/util/Arrays" = true := by first | (simp [plainName, overriddenIn]; done) | decide +kernel
theorem ef_28_aa (m : MethodId) (x0 : Int32) (x1 : Int32) : entryFrame m #[(.int x0), (.int x1)] 2 = mkF m 0 #[.val (.int x0), .val (.int x1)] [] := by first | (simp [entryFrame, mkF, argsToLocals, Value.category]; done) | rfl
theorem rm28C (l : Launch) (Z : State) (a0 : Array Value) (hw : ∀ d ∈ tables_1, d.before a0 Z = true) (ws : List Jvm.Cond) (nN : Nat) (lN : Nat) (h0 : Heap) (n0 : Nat) (Z0 : n0 ≤ h0.size) (hz0 : ¬ ((Int32.ofNat lN) + ((Int32.ofNat nN) - (Int32.ofNat lN))) < (Int32.ofNat lN)) :
    MetFree l y28 (head1 (Jvm.Cond.code y28 jdk_65_method_131_code 2 none :: ws) RM_0_0_0_0) (fun a U => a = #[(.int (Int32.ofNat lN)), (.int ((Int32.ofNat lN) + ((Int32.ofNat nN) - (Int32.ofNat lN))))] ∧ Z.Warmed39 U.vm ∧ U.heap = h0) (fun _ _ _ _ _ => True) (fun _ U o U' => ∃ v L, o = .returned v ∧ Q28C Z nN lN h0 n0 v U'.heap L ∧ FrameEnd U o U' L RM_0_0_0_0.cells RM_0_0_0_0.slots) := by
  refine MetFree.of_bodySF (plainFor_of_name pn_8) hisR ?_
  intro p e s m args below meth c s₁ Bd hml0 hP hK
  obtain ⟨rfl, hZ, hh⟩ := hP
  have hx := Bd.exec
  have hby := Bd.bytes
  have hml : c.maxLocals = 2 := hml0
  have hown : s.vm.findClass "java/util/Arrays" = some m.cls := findClass_of_methodNamed Bd.named
  have X0 : Stand p l e RM_0_0_0_0 s m _ below meth c s₁ [] 0 0 := Stand.of_body Bd
  have e0 : s₁.heap = h0 := by rw [← hh, Bd.state]; rfl
  have N0 := Fr.nil n0
  refine Go.into (P := fun oo uu => ∃ v L, oo = .returned v ∧ Q28C Z nN lN h0 n0 v uu.heap L ∧ FrameEnd s oo uu L RM_0_0_0_0.cells RM_0_0_0_0.slots) (ef_28_aa m (Int32.ofNat lN) ((Int32.ofNat lN) + ((Int32.ofNat nN) - (Int32.ofNat lN)))) ?_
  show Go p e below _ (s₁.setTop (mkF m 0 #[sI (Int32.ofNat lN), sI ((Int32.ofNat lN) + ((Int32.ofNat nN) - (Int32.ofNat lN)))] []))
  refine Vi (s₁.setTop (mkF m 37 #[sI (Int32.ofNat lN), sI ((Int32.ofNat lN) + ((Int32.ofNat nN) - (Int32.ofNat lN)))] [])) (fun tZ kZ => ?_) ?_
  · refine XS.iloadN X0.here hx rfl (hb hby d28_0) rfl ?_
    refine XS.iloadN X0.here hx rfl (hb hby d28_1) rfl ?_
    refine XS.icmpYes X0.here hx rfl (pc0 := 2) (pc' := 37) rfl (hb hby d28_2) rfl (flt hz0).2.1 (by decide) (by decide) ?_
    exact kZ
  refine Go.retV X0 hx Bd.notSynchronized Bd.returns (hb hby d28_37) (by decide) (by decide) ?_
  rw [e0]
  exact ⟨rfl, N0, rfl⟩
theorem d27_0 : decode B27 0 = .ok (.iload_n 1, 1) := by decide +kernel
theorem d27_1 : decode B27 1 = .ok (.iload_n 2, 1) := by decide +kernel
theorem d27_2 : decode B27 2 = .ok (.invokestatic 343, 3) := by decide +kernel
theorem d27_5 : decode B27 5 = .ok (.iload_n 2, 1) := by decide +kernel
theorem d27_6 : decode B27 6 = .ok (.iload_n 1, 1) := by decide +kernel
theorem d27_7 : decode B27 7 = .ok (.isub, 1) := by decide +kernel
theorem d27_8 : decode B27 8 = .ok (.istore_n 3, 1) := by decide +kernel
theorem d27_9 : decode B27 9 = .ok (.iload_n 3, 1) := by decide +kernel
theorem d27_10 : decode B27 10 = .ok (.newarray .byte, 2) := by decide +kernel
theorem d27_12 : decode B27 12 = .ok (.astore 4, 2) := by decide +kernel
theorem d27_14 : decode B27 14 = .ok (.aload_n 0, 1) := by decide +kernel
theorem d27_15 : decode B27 15 = .ok (.iload_n 1, 1) := by decide +kernel
theorem d27_16 : decode B27 16 = .ok (.aload 4, 2) := by decide +kernel
theorem d27_18 : decode B27 18 = .ok (.iconst 0, 1) := by decide +kernel
theorem d27_19 : decode B27 19 = .ok (.aload_n 0, 1) := by decide +kernel
theorem d27_20 : decode B27 20 = .ok (.arraylength, 1) := by decide +kernel
theorem d27_21 : decode B27 21 = .ok (.iload_n 1, 1) := by decide +kernel
theorem d27_22 : decode B27 22 = .ok (.isub, 1) := by decide +kernel
theorem d27_23 : decode B27 23 = .ok (.iload_n 3, 1) := by decide +kernel
theorem d27_24 : decode B27 24 = .ok (.invokestatic 304, 3) := by decide +kernel
theorem d27_27 : decode B27 27 = .ok (.invokestatic 150, 3) := by decide +kernel
theorem d27_30 : decode B27 30 = .ok (.aload 4, 2) := by decide +kernel
theorem d27_32 : decode B27 32 = .ok (.areturn, 1) := by decide +kernel
def Q27C (Z : State) (o0 : Addr) (nN : Nat) (fF : Nat → Int32) (lN : Nat) (h0 : Heap) (n0 : Nat) (v : Option Value) (h : Heap) (L : List Loc) : Prop := ∃ b2 : Addr, v = some (.ref b2) ∧ Fr n0 L ∧ Keep h0 h [] ∧ h0.size ≤ b2 ∧ AV Z h o0 .byte nN (fun k => .int (fF k)) ∧ AV Z h b2 .byte (nN - lN) (fun k => .int ((own_sh fF lN) k))
abbrev RM_1_1_4_40 : Room := { frames := 1, cells := 1, slots := 4, locals := 40 }
theorem ef_27_aaa (m : MethodId) (x0 : Addr) (x1 : Int32) (x2 : Int32) : entryFrame m #[(.ref x0), (.int x1), (.int x2)] 5 = mkF m 0 #[.val (.ref x0), .val (.int x1), .val (.int x2), .unset, .unset] [] := by first | (simp [entryFrame, mkF, argsToLocals, Value.category]; done) | rfl
theorem rm27C (l : Launch) (Z : State) (a0 : Array Value) (hw : ∀ d ∈ tables_1, d.before a0 Z = true) (ws : List Jvm.Cond) (o0 : Addr) (nN : Nat) (fF : Nat → Int32) (lN : Nat) (h0 : Heap) (n0 : Nat) (Z0 : n0 ≤ h0.size) (ha0 : AV Z h0 o0 .byte nN (fun k => .int (fF k))) (hz0 : ¬ ((Int32.ofNat lN) + ((Int32.ofNat nN) - (Int32.ofNat lN))) < (Int32.ofNat lN)) (hz1 : ¬ (((Int32.ofNat lN) + ((Int32.ofNat nN) - (Int32.ofNat lN))) - (Int32.ofNat lN)) < 0) (hz2 : (((Int32.ofNat lN) + ((Int32.ofNat nN) - (Int32.ofNat lN))) - (Int32.ofNat lN)).toNatClampNeg ≤ 4) (hz3 : (((Int32.ofNat lN) + ((Int32.ofNat nN) - (Int32.ofNat lN))) - (Int32.ofNat lN)).toNatClampNeg = (nN - lN)) (hz4 : f17 ((Int32.ofNat nN) - (Int32.ofNat lN)) (((Int32.ofNat lN) + ((Int32.ofNat nN) - (Int32.ofNat lN))) - (Int32.ofNat lN)) = Int32.ofNat (nN - lN)) (hz5 : lN + (nN - lN) ≤ nN) (hfit : ∀ k, k < nN → fits .byte (.int (fF k)) = true) :
    MetFree l y27 (head1 (Jvm.Cond.code y27 jdk_65_method_133_code 5 (some (.array .byte)) :: ws) RM_1_1_4_40) (fun a U => a = #[(.ref o0), (.int (Int32.ofNat lN)), (.int ((Int32.ofNat lN) + ((Int32.ofNat nN) - (Int32.ofNat lN))))] ∧ Z.Warmed39 U.vm ∧ U.heap = h0) (fun _ _ _ _ _ => True) (fun _ U o U' => ∃ v L, o = .returned v ∧ Q27C Z o0 nN fF lN h0 n0 v U'.heap L ∧ FrameEnd U o U' L RM_1_1_4_40.cells RM_1_1_4_40.slots) := by
  refine MetFree.of_bodySF (plainFor_of_name pn_8) hisR ?_
  intro p e s m args below meth c s₁ Bd hml0 hP hK
  obtain ⟨rfl, hZ, hh⟩ := hP
  have hx := Bd.exec
  have hby := Bd.bytes
  have hml : c.maxLocals = 5 := hml0
  have hown : s.vm.findClass "java/util/Arrays" = some m.cls := findClass_of_methodNamed Bd.named
  have X0 : Stand p l e RM_1_1_4_40 s m _ below meth c s₁ [] 0 0 := Stand.of_body Bd
  have e0 : s₁.heap = h0 := by rw [← hh, Bd.state]; rfl
  have N0 := Fr.nil n0
  refine Go.into (P := fun oo uu => ∃ v L, oo = .returned v ∧ Q27C Z o0 nN fF lN h0 n0 v uu.heap L ∧ FrameEnd s oo uu L RM_1_1_4_40.cells RM_1_1_4_40.slots) (ef_27_aaa m o0 (Int32.ofNat lN) ((Int32.ofNat lN) + ((Int32.ofNat nN) - (Int32.ofNat lN)))) ?_
  show Go p e below _ (s₁.setTop (mkF m 0 #[sR o0, sI (Int32.ofNat lN), sI ((Int32.ofNat lN) + ((Int32.ofNat nN) - (Int32.ofNat lN))), .unset, .unset] []))
  refine Vi (s₁.setTop (mkF m 2 #[sR o0, sI (Int32.ofNat lN), sI ((Int32.ofNat lN) + ((Int32.ofNat nN) - (Int32.ofNat lN))), .unset, .unset] [(.int ((Int32.ofNat lN) + ((Int32.ofNat nN) - (Int32.ofNat lN)))), (.int (Int32.ofNat lN))])) (fun tZ kZ => ?_) ?_
  · refine XS.iloadN X0.here hx rfl (hb hby d27_0) rfl ?_
    refine XS.iloadN X0.here hx rfl (hb hby d27_1) rfl ?_
    exact kZ
  obtain ⟨_, _, ⟨T1, L1, k1, n1⟩, -, X1, ⟨Lc1, hQ1, l1, y1, z1⟩, st1⟩ := Jvm.LawKit.callS X0 hx (y := y28) hown (mvT hZ (wq hw 136 rfl)) (mvT hZ (wq hw 137 rfl)) (mvT hZ (wq hw 131 rfl)) (mvT hZ (wq hw 138 rfl)) (by decide) (backOf (W := 0) (rm28C l Z a0 hw [] nN lN h0 n0 Z0 hz0) hZ (wq hw 138 rfl) (wq hw 131 rfl) (by decide) (by decide)) (g := (mkF m 2 #[sR o0, sI (Int32.ofNat lN), sI ((Int32.ofNat lN) + ((Int32.ofNat nN) - (Int32.ofNat lN))), .unset, .unset] [(.int ((Int32.ofNat lN) + ((Int32.ofNat nN) - (Int32.ofNat lN)))), (.int (Int32.ofNat lN))])) rfl (by rw [hml]; rfl) (argsL := [(.int (Int32.ofNat lN)), (.int ((Int32.ofNat lN) + ((Int32.ofNat nN) - (Int32.ofNat lN))))]) (rest := []) (lenOf pd_24 rfl) rfl (leW rfl) (hb hby d27_2) (fun _ _ => ⟨rfl, e0, (by decide : 0 + 0 ≤ _), (by decide : 0 + 0 ≤ _)⟩)
  dsimp only [Pt.U, Pt.locs, Pt.cells, Pt.slots] at X1 l1 y1 z1 st1 hQ1
  subst l1 y1 z1
  obtain ⟨rfl, N1q, e1⟩ := hQ1
  have N1 := Fr.app N0 N1q
  refine Go.via st1 ?_
  refine Vi (T1.setTop (mkF m 10 #[sR o0, sI (Int32.ofNat lN), sI ((Int32.ofNat lN) + ((Int32.ofNat nN) - (Int32.ofNat lN))), sI (((Int32.ofNat lN) + ((Int32.ofNat nN) - (Int32.ofNat lN))) - (Int32.ofNat lN)), .unset] [(.int (((Int32.ofNat lN) + ((Int32.ofNat nN) - (Int32.ofNat lN))) - (Int32.ofNat lN)))])) (fun tZ kZ => ?_) ?_
  · refine XS.iloadN X1.here hx rfl (hb hby d27_5) rfl ?_
    refine XS.iloadN X1.here hx rfl (hb hby d27_6) rfl ?_
    refine XS.isub X1.here hx rfl (hb hby d27_7) rfl ?_
    refine XS.istoreN X1.here hx rfl (hb hby d27_8) rfl (l' := #[sR o0, sI (Int32.ofNat lN), sI ((Int32.ofNat lN) + ((Int32.ofNat nN) - (Int32.ofNat lN))), sI (((Int32.ofNat lN) + ((Int32.ofNat nN) - (Int32.ofNat lN))) - (Int32.ofNat lN)), .unset]) rfl ?_
    refine XS.iloadN X1.here hx rfl (hb hby d27_9) rfl ?_
    exact kZ
  obtain ⟨T2, h2, k2, X2, e2, E2, A2, B2, st2⟩ := newPE X1 hx hZ (wq hw 9 rfl) e1 (g := (mkF m 10 #[sR o0, sI (Int32.ofNat lN), sI ((Int32.ofNat lN) + ((Int32.ofNat nN) - (Int32.ofNat lN))), sI (((Int32.ofNat lN) + ((Int32.ofNat nN) - (Int32.ofNat lN))) - (Int32.ofNat lN)), .unset] [(.int (((Int32.ofNat lN) + ((Int32.ofNat nN) - (Int32.ofNat lN))) - (Int32.ofNat lN)))])) rfl (hb hby d27_10) rfl hz1 (cap := 4) hz2 (by decide) (by decide) (by decide) (ad := "[B") rfl
  obtain ⟨b2, g2⟩ : ∃ z, z = h0.size := ⟨_, rfl⟩
  rw [← g2] at A2 B2 st2
  have g_b2 : n0 ≤ b2 := Nat.le_trans Z0 (Nat.le_of_eq g2.symm)
  have sz_b2 : h0.size ≤ b2 := Nat.le_trans ((Keep.refl h0 [])).1 (Nat.le_of_eq g2.symm)
  have ne_o0_b2 : o0 ≠ b2 := Nat.ne_of_lt (Nat.lt_of_lt_of_le ha0.lt (Nat.le_of_eq g2.symm))
  have c3_0 := ha0.ext E2
  have K2 : Keep h0 h2 [] := (Keep.refl h0 []).ext E2
  have Z2 : n0 ≤ h2.size := Nat.le_trans Z0 E2.1
  have V2 : AV Z h2 b2 .byte (nN - lN) (fun k => .int ((fun _ => (0 : Int32)) k)) := by have q := AV.new A2; rw [hz3] at q; exact q
  refine Go.via st2 ?_
  refine Vi (T2.setTop (mkF m 24 #[sR o0, sI (Int32.ofNat lN), sI ((Int32.ofNat lN) + ((Int32.ofNat nN) - (Int32.ofNat lN))), sI (((Int32.ofNat lN) + ((Int32.ofNat nN) - (Int32.ofNat lN))) - (Int32.ofNat lN)), sR b2] [(.int (((Int32.ofNat lN) + ((Int32.ofNat nN) - (Int32.ofNat lN))) - (Int32.ofNat lN))), (.int ((Int32.ofNat nN) - (Int32.ofNat lN))), (.int 0), (.ref b2), (.int (Int32.ofNat lN)), (.ref o0)])) (fun tZ kZ => ?_) ?_
  · refine XS.astore X2.here hx rfl (hb hby d27_12) rfl rfl (l' := #[sR o0, sI (Int32.ofNat lN), sI ((Int32.ofNat lN) + ((Int32.ofNat nN) - (Int32.ofNat lN))), sI (((Int32.ofNat lN) + ((Int32.ofNat nN) - (Int32.ofNat lN))) - (Int32.ofNat lN)), sR b2]) rfl ?_
    refine XS.aloadN X2.here hx rfl (hb hby d27_14) rfl rfl ?_
    refine XS.iloadN X2.here hx rfl (hb hby d27_15) rfl ?_
    refine XS.aload X2.here hx rfl (hb hby d27_16) rfl rfl ?_
    refine XS.iconst X2.here hx rfl (hb hby d27_18) ?_
    refine XS.aloadN X2.here hx rfl (hb hby d27_19) rfl rfl ?_
    refine AV.len c3_0 X2 hx hZ e2 (hb hby d27_20) ?_
    refine XS.iloadN X2.here hx rfl (hb hby d27_21) rfl ?_
    refine XS.isub X2.here hx rfl (hb hby d27_22) rfl ?_
    refine XS.iloadN X2.here hx rfl (hb hby d27_23) rfl ?_
    exact kZ
  obtain ⟨_, _, ⟨T4, L4, k4, n4⟩, -, X4, ⟨Lc4, hQ4, l4, y4, z4⟩, st4⟩ := Jvm.LawKit.callS X2 hx (y := y17) hown (mvT hZ (wq hw 139 rfl)) (mvT hZ (wq hw 93 rfl)) (mvT hZ (wq hw 94 rfl)) (mvT hZ (wq hw 95 rfl)) (by decide) (backOf (W := 4) (rm17 l Z a0 hw [] ((Int32.ofNat nN) - (Int32.ofNat lN)) (((Int32.ofNat lN) + ((Int32.ofNat nN) - (Int32.ofNat lN))) - (Int32.ofNat lN)) h2 n0 Z2 ) hZ (wq hw 95 rfl) (wq hw 94 rfl) (by decide) (by decide)) (g := (mkF m 24 #[sR o0, sI (Int32.ofNat lN), sI ((Int32.ofNat lN) + ((Int32.ofNat nN) - (Int32.ofNat lN))), sI (((Int32.ofNat lN) + ((Int32.ofNat nN) - (Int32.ofNat lN))) - (Int32.ofNat lN)), sR b2] [(.int (((Int32.ofNat lN) + ((Int32.ofNat nN) - (Int32.ofNat lN))) - (Int32.ofNat lN))), (.int ((Int32.ofNat nN) - (Int32.ofNat lN))), (.int 0), (.ref b2), (.int (Int32.ofNat lN)), (.ref o0)])) rfl (by rw [hml]; rfl) (argsL := [(.int ((Int32.ofNat nN) - (Int32.ofNat lN))), (.int (((Int32.ofNat lN) + ((Int32.ofNat nN) - (Int32.ofNat lN))) - (Int32.ofNat lN)))]) (rest := [(.int 0), (.ref b2), (.int (Int32.ofNat lN)), (.ref o0)]) (lenOf pd_11 rfl) rfl (leW rfl) (hb hby d27_24) (fun _ _ => ⟨rfl, e2, (by decide : 0 + 0 + 1 + 0 ≤ _), (by decide : 0 + 0 + 4 + 0 ≤ _)⟩)
  dsimp only [Pt.U, Pt.locs, Pt.cells, Pt.slots] at X4 l4 y4 z4 st4 hQ4
  subst l4 y4 z4
  obtain ⟨rfl, N4q, e4⟩ := hQ4
  rw [hz4] at st4
  have N4 := Fr.app N1 N4q
  refine Go.via st4 ?_
  obtain ⟨T5, h5, L5, X5, e5, N5, Kq5, V5, st5⟩ := AV.copyB (sp' := lN) c3_0 V2 hfit (fun _ _ => by decide) rfl hz5 X4 hx hZ hown (wq hw 140 rfl) (wq hw 143 rfl) (wq hw 141 rfl) (wq hw 142 rfl) e4 N4 g_b2 (g := (mkF m 27 #[sR o0, sI (Int32.ofNat lN), sI ((Int32.ofNat lN) + ((Int32.ofNat nN) - (Int32.ofNat lN))), sI (((Int32.ofNat lN) + ((Int32.ofNat nN) - (Int32.ofNat lN))) - (Int32.ofNat lN)), sR b2] [(.int (Int32.ofNat (nN - lN))), (.int 0), (.ref b2), (.int (Int32.ofNat lN)), (.ref o0)])) rfl (by rw [hml]; rfl) rfl (hb hby d27_27) (by decide) (W := 0) (by show 2 * 0 + _ ≤ _; exact Nat.le_of_eq rfl) (by decide)
  have c6_0 := c3_0.keep Kq5 (ninS ne_o0_b2 nin0)
  have K5 : Keep h0 h5 [] := K2.trans Kq5 (allS (Or.inr sz_b2) all0)
  have Z5 : n0 ≤ h5.size := Nat.le_trans Z2 Kq5.1
  refine Go.via st5 ?_
  refine Vi (T5.setTop (mkF m 32 #[sR o0, sI (Int32.ofNat lN), sI ((Int32.ofNat lN) + ((Int32.ofNat nN) - (Int32.ofNat lN))), sI (((Int32.ofNat lN) + ((Int32.ofNat nN) - (Int32.ofNat lN))) - (Int32.ofNat lN)), sR b2] [(.ref b2)])) (fun tZ kZ => ?_) ?_
  · refine XS.aload X5.here hx rfl (hb hby d27_30) rfl rfl ?_
    exact kZ
  refine Go.retR X5 hx Bd.notSynchronized Bd.returns rfl rfl (hb hby d27_32) (by decide) (by decide) ?_
  rw [e5]
  exact ⟨b2, rfl, N5, K5, sz_b2, c6_0, V5⟩
theorem d26_0 : decode B26 0 = .ok (.iload_n 1, 1) := by decide +kernel
theorem d26_1 : decode B26 1 = .ok (.ifCond .ne 9, 3) := by decide +kernel
theorem d26_10 : decode B26 10 = .ok (.aload_n 0, 1) := by decide +kernel
theorem d26_11 : decode B26 11 = .ok (.iload_n 1, 1) := by decide +kernel
theorem d26_12 : decode B26 12 = .ok (.iload_n 2, 1) := by decide +kernel
theorem pd_23 : parseMethodDescriptor "([BII)[B" = some ⟨[(.array .byte), .int, .int], some (.array .byte)⟩ := by decide +kernel
theorem d26_13 : decode B26 13 = .ok (.invokestatic 339, 3) := by decide +kernel
theorem d26_16 : decode B26 16 = .ok (.areturn, 1) := by decide +kernel
def Q26C (Z : State) (o0 : Addr) (nN : Nat) (fF : Nat → Int32) (lN : Nat) (h0 : Heap) (n0 : Nat) (v : Option Value) (h : Heap) (L : List Loc) : Prop := ∃ b1_0 : Addr, v = some (.ref b1_0) ∧ Fr n0 L ∧ Keep h0 h [] ∧ h0.size ≤ b1_0 ∧ AV Z h o0 .byte nN (fun k => .int (fF k)) ∧ AV Z h b1_0 .byte (nN - lN) (fun k => .int ((own_sh fF lN) k))
abbrev RM_2_1_4_56 : Room := { frames := 2, cells := 1, slots := 4, locals := 56 }
theorem ef_26_aaa (m : MethodId) (x0 : Addr) (x1 : Int32) (x2 : Int32) : entryFrame m #[(.ref x0), (.int x1), (.int x2)] 3 = mkF m 0 #[.val (.ref x0), .val (.int x1), .val (.int x2)] [] := by first | (simp [entryFrame, mkF, argsToLocals, Value.category]; done) | rfl
theorem rm26C (l : Launch) (Z : State) (a0 : Array Value) (hw : ∀ d ∈ tables_1, d.before a0 Z = true) (ws : List Jvm.Cond) (o0 : Addr) (nN : Nat) (fF : Nat → Int32) (lN : Nat) (h0 : Heap) (n0 : Nat) (Z0 : n0 ≤ h0.size) (ha0 : AV Z h0 o0 .byte nN (fun k => .int (fF k))) (hlo : ¬ (Int32.ofNat lN) = (0 : Int32)) (hz0 : ¬ ((Int32.ofNat lN) + ((Int32.ofNat nN) - (Int32.ofNat lN))) < (Int32.ofNat lN)) (hz1 : ¬ (((Int32.ofNat lN) + ((Int32.ofNat nN) - (Int32.ofNat lN))) - (Int32.ofNat lN)) < 0) (hz2 : (((Int32.ofNat lN) + ((Int32.ofNat nN) - (Int32.ofNat lN))) - (Int32.ofNat lN)).toNatClampNeg ≤ 4) (hz3 : (((Int32.ofNat lN) + ((Int32.ofNat nN) - (Int32.ofNat lN))) - (Int32.ofNat lN)).toNatClampNeg = (nN - lN)) (hz4 : f17 ((Int32.ofNat nN) - (Int32.ofNat lN)) (((Int32.ofNat lN) + ((Int32.ofNat nN) - (Int32.ofNat lN))) - (Int32.ofNat lN)) = Int32.ofNat (nN - lN)) (hz5 : lN + (nN - lN) ≤ nN) (hfit : ∀ k, k < nN → fits .byte (.int (fF k)) = true) :
    MetFree l y26 (head1 (Jvm.Cond.code y26 jdk_65_method_132_code 3 (some (.array .byte)) :: ws) RM_2_1_4_56) (fun a U => a = #[(.ref o0), (.int (Int32.ofNat lN)), (.int ((Int32.ofNat lN) + ((Int32.ofNat nN) - (Int32.ofNat lN))))] ∧ Z.Warmed39 U.vm ∧ U.heap = h0) (fun _ _ _ _ _ => True) (fun _ U o U' => ∃ v L, o = .returned v ∧ Q26C Z o0 nN fF lN h0 n0 v U'.heap L ∧ FrameEnd U o U' L RM_2_1_4_56.cells RM_2_1_4_56.slots) := by
  refine MetFree.of_bodySF (plainFor_of_name pn_8) hisR ?_
  intro p e s m args below meth c s₁ Bd hml0 hP hK
  obtain ⟨rfl, hZ, hh⟩ := hP
  have hx := Bd.exec
  have hby := Bd.bytes
  have hml : c.maxLocals = 3 := hml0
  have hown : s.vm.findClass "java/util/Arrays" = some m.cls := findClass_of_methodNamed Bd.named
  have X0 : Stand p l e RM_2_1_4_56 s m _ below meth c s₁ [] 0 0 := Stand.of_body Bd
  have e0 : s₁.heap = h0 := by rw [← hh, Bd.state]; rfl
  have N0 := Fr.nil n0
  refine Go.into (P := fun oo uu => ∃ v L, oo = .returned v ∧ Q26C Z o0 nN fF lN h0 n0 v uu.heap L ∧ FrameEnd s oo uu L RM_2_1_4_56.cells RM_2_1_4_56.slots) (ef_26_aaa m o0 (Int32.ofNat lN) ((Int32.ofNat lN) + ((Int32.ofNat nN) - (Int32.ofNat lN)))) ?_
  show Go p e below _ (s₁.setTop (mkF m 0 #[sR o0, sI (Int32.ofNat lN), sI ((Int32.ofNat lN) + ((Int32.ofNat nN) - (Int32.ofNat lN)))] []))
  refine Vi (s₁.setTop (mkF m 13 #[sR o0, sI (Int32.ofNat lN), sI ((Int32.ofNat lN) + ((Int32.ofNat nN) - (Int32.ofNat lN)))] [(.int ((Int32.ofNat lN) + ((Int32.ofNat nN) - (Int32.ofNat lN)))), (.int (Int32.ofNat lN)), (.ref o0)])) (fun tZ kZ => ?_) ?_
  · refine XS.iloadN X0.here hx rfl (hb hby d26_0) rfl ?_
    refine XS.ifYes X0.here hx rfl (pc0 := 1) (pc' := 10) rfl (hb hby d26_1) rfl ((if0 _ _).trans (feq hlo).2) (by decide) (by decide) ?_
    refine XS.aloadN X0.here hx rfl (hb hby d26_10) rfl rfl ?_
    refine XS.iloadN X0.here hx rfl (hb hby d26_11) rfl ?_
    refine XS.iloadN X0.here hx rfl (hb hby d26_12) rfl ?_
    exact kZ
  obtain ⟨_, _, ⟨T1, L1, k1, n1⟩, -, X1, ⟨Lc1, hQ1, l1, y1, z1⟩, st1⟩ := Jvm.LawKit.callS X0 hx (y := y27) hown (mvT hZ (wq hw 133 rfl)) (mvT hZ (wq hw 134 rfl)) (mvT hZ (wq hw 131 rfl)) (mvT hZ (wq hw 135 rfl)) (by decide) (backOf (W := 0) (rm27C l Z a0 hw [] o0 nN fF lN h0 n0 Z0 ha0 hz0 hz1 hz2 hz3 hz4 hz5 hfit) hZ (wq hw 135 rfl) (wq hw 131 rfl) (by decide) (by decide)) (g := (mkF m 13 #[sR o0, sI (Int32.ofNat lN), sI ((Int32.ofNat lN) + ((Int32.ofNat nN) - (Int32.ofNat lN)))] [(.int ((Int32.ofNat lN) + ((Int32.ofNat nN) - (Int32.ofNat lN)))), (.int (Int32.ofNat lN)), (.ref o0)])) rfl (by rw [hml]; rfl) (argsL := [(.ref o0), (.int (Int32.ofNat lN)), (.int ((Int32.ofNat lN) + ((Int32.ofNat nN) - (Int32.ofNat lN))))]) (rest := []) (lenOf pd_23 rfl) rfl (leW rfl) (hb hby d26_13) (fun _ _ => ⟨rfl, e0, (by decide : 0 + 1 ≤ _), (by decide : 0 + 4 ≤ _)⟩)
  dsimp only [Pt.U, Pt.locs, Pt.cells, Pt.slots] at X1 l1 y1 z1 st1 hQ1
  subst l1 y1 z1
  obtain ⟨b1_0, rfl, N1q, Kq1, hz_b1_0, f1_0, f1_1⟩ := hQ1
  have g_b1_0 : n0 ≤ b1_0 := Nat.le_trans Z0 hz_b1_0
  have sz_b1_0 : h0.size ≤ b1_0 := Nat.le_trans ((Keep.refl h0 [])).1 hz_b1_0
  have ne_o0_b1_0 : o0 ≠ b1_0 := Nat.ne_of_lt (Nat.lt_of_lt_of_le ha0.lt hz_b1_0)
  have K1 : Keep h0 T1.heap [] := (Keep.refl h0 []).trans Kq1 all0
  have Z1 : n0 ≤ T1.heap.size := Nat.le_trans Z0 Kq1.1
  have N1 := Fr.app N0 N1q
  refine Go.via st1 ?_
  refine Go.retR X1 hx Bd.notSynchronized Bd.returns rfl rfl (hb hby d26_16) (by decide) (by decide) ?_
  exact ⟨b1_0, rfl, N1, K1, sz_b1_0, f1_0, f1_1⟩
theorem d29_0 : decode B29 0 = .ok (.aload_n 0, 1) := by decide +kernel
theorem d29_1 : decode B29 1 = .ok (.invokespecial 1, 3) := by decide +kernel
theorem d29_4 : decode B29 4 = .ok (.aload_n 0, 1) := by decide +kernel
theorem d29_5 : decode B29 5 = .ok (.aload_n 1, 1) := by decide +kernel
theorem d29_6 : decode B29 6 = .ok (.putfield 9, 3) := by decide +kernel
theorem d29_9 : decode B29 9 = .ok (.aload_n 0, 1) := by decide +kernel
theorem d29_10 : decode B29 10 = .ok (.iload_n 2, 1) := by decide +kernel
theorem d29_11 : decode B29 11 = .ok (.putfield 15, 3) := by decide +kernel
theorem d29_14 : decode B29 14 = .ok (.return_, 1) := by decide +kernel
def Q29 (Z : State) (o0 : Addr) (o1 : Addr) (h0 : Heap) (n0 : Nat) (v : Option Value) (h : Heap) (L : List Loc) : Prop := v = none ∧ Fr n0 L ∧ Keep h0 h [o0] ∧ Exa Z h o0 "java/lang/String" ∧ Fld Z h o0 "java/lang/String" "value" "[B" (.ref o1) ∧ Fld Z h o0 "java/lang/String" "coder" "B" (.int 0)
theorem ef_29_aaa (m : MethodId) (x0 : Addr) (x1 : Addr) (x2 : Int32) : entryFrame m #[(.ref x0), (.ref x1), (.int x2)] 3 = mkF m 0 #[.val (.ref x0), .val (.ref x1), .val (.int x2)] [] := by first | (simp [entryFrame, mkF, argsToLocals, Value.category]; done) | rfl
theorem rm29 (l : Launch) (Z : State) (a0 : Array Value) (hw : ∀ d ∈ tables_1, d.before a0 Z = true) (ws : List Jvm.Cond) (o0 : Addr) (o1 : Addr) (h0 : Heap) (n0 : Nat) (Z0 : n0 ≤ h0.size) (ha0 : Exa Z h0 o0 "java/lang/String") (ha1 : Fld Z h0 o0 "java/lang/String" "value" "[B" .null) (ha2 : Fld Z h0 o0 "java/lang/String" "coder" "B" (.int 0)) (ha3 : n0 ≤ o0) :
    MetFree l y29 (head1 (Jvm.Cond.code y29 jdk_42_method_151_code 3 none :: ws) RM_1_0_0_12) (fun a U => a = #[(.ref o0), (.ref o1), (.int 0)] ∧ Z.Warmed39 U.vm ∧ U.heap = h0) (fun _ _ _ _ _ => True) (fun _ U o U' => ∃ v L, o = .returned v ∧ Q29 Z o0 o1 h0 n0 v U'.heap L ∧ FrameEnd U o U' L RM_1_0_0_12.cells RM_1_0_0_12.slots) := by
  refine MetFree.of_bodySF (plainFor_of_name pn_0) hisR ?_
  intro p e s m args below meth c s₁ Bd hml0 hP hK
  obtain ⟨rfl, hZ, hh⟩ := hP
  have hx := Bd.exec
  have hby := Bd.bytes
  have hml : c.maxLocals = 3 := hml0
  have hown : s.vm.findClass "java/lang/String" = some m.cls := findClass_of_methodNamed Bd.named
  have hnm := (name_of_methodNamed Bd.named Bd.method).1
  have X0 : Stand p l e RM_1_0_0_12 s m _ below meth c s₁ [] 0 0 := Stand.of_body Bd
  have e0 : s₁.heap = h0 := by rw [← hh, Bd.state]; rfl
  have N0 := Fr.nil n0
  refine Go.into (P := fun oo uu => ∃ v L, oo = .returned v ∧ Q29 Z o0 o1 h0 n0 v uu.heap L ∧ FrameEnd s oo uu L RM_1_0_0_12.cells RM_1_0_0_12.slots) (ef_29_aaa m o0 o1 (0 : Int32)) ?_
  show Go p e below _ (s₁.setTop (mkF m 0 #[sR o0, sR o1, sI 0] []))
  refine Vi (s₁.setTop (mkF m 1 #[sR o0, sR o1, sI 0] [(.ref o0)])) (fun tZ kZ => ?_) ?_
  · refine XS.aloadN X0.here hx rfl (hb hby d29_0) rfl rfl ?_
    exact kZ
  obtain ⟨T1, X1, e1, st1⟩ := initO X0 hx hZ hown (wq hw 25 rfl) (wq hw 26 rfl) (wq hw 27 rfl) e0 (g := (mkF m 1 #[sR o0, sR o1, sI 0] [(.ref o0)])) rfl (by rw [hml]; rfl) rfl (hb hby d29_1) (by decide) (W := 0) (by show 2 * 0 + _ ≤ _; exact Nat.le_of_eq rfl) (by decide)
  refine Go.via st1 ?_
  refine Vi (T1.setTop (mkF m 6 #[sR o0, sR o1, sI 0] [(.ref o1), (.ref o0)])) (fun tZ kZ => ?_) ?_
  · refine XS.aloadN X1.here hx rfl (hb hby d29_4) rfl rfl ?_
    refine XS.aloadN X1.here hx rfl (hb hby d29_5) rfl rfl ?_
    exact kZ
  obtain ⟨T2, h2, X2, e2, W2, st2⟩ := putF X1 hx hZ hown (host := "") (Or.inl (wq hw 29 rfl)) Via.refl e1 ha1 ha0 (Or.inr ⟨(wq hw 10 rfl), rfl, hnm⟩) (wq hw 8 rfl) (ty := (.array .byte)) (by decide) rfl rfl (g := (mkF m 6 #[sR o0, sR o1, sI 0] [(.ref o1), (.ref o0)])) rfl rfl (hb hby d29_6)
  have N2 := Fr.snoc X2 N0 ha3
  have c3_0 := ha0.wr W2
  have c3_2 := ha2.other W2 (Or.inr (slot_ne (Or.inr (wq hw 11 rfl)) (Or.inr (wq hw 10 rfl)) (by decide) (t := .byte) (t' := (.array .byte)) (by decide) (by decide)))
  have K2 : Keep h0 h2 [o0] := (Keep.refl h0 [o0]).wr W2 (Or.inl (by simp))
  have Z2 : n0 ≤ h2.size := Nat.le_trans Z0 (Keep.of_wr W2).1
  have Fw2 := ha1.same W2
  refine Go.via st2 ?_
  refine Vi (T2.setTop (mkF m 11 #[sR o0, sR o1, sI 0] [(.int 0), (.ref o0)])) (fun tZ kZ => ?_) ?_
  · refine XS.aloadN X2.here hx rfl (hb hby d29_9) rfl rfl ?_
    refine XS.iloadN X2.here hx rfl (hb hby d29_10) rfl ?_
    exact kZ
  obtain ⟨T4, h4, X4, e4, W4, st4⟩ := putFN X2 hx hZ hown (wq hw 30 rfl) Via.refl e2 c3_2 c3_0 (Or.inr ⟨(wq hw 11 rfl), rfl, hnm⟩) (wq hw 8 rfl) (ty := .byte) (v' := (.int (nar .byte (0 : Int32)))) (by decide) rfl (fits_nar_byte _) (g := (mkF m 11 #[sR o0, sR o1, sI 0] [(.int 0), (.ref o0)])) rfl rfl (hb hby d29_11)
  have N4 := Fr.snoc X4 N2 ha3
  have c5_0 := c3_0.wr W4
  have c5_1 := Fw2.other W4 (Or.inr (slot_ne (Or.inr (wq hw 10 rfl)) (Or.inr (wq hw 11 rfl)) (by decide) (t := (.array .byte)) (t' := .byte) (by decide) (by decide)))
  have K4 : Keep h0 h4 [o0] := K2.wr W4 (Or.inl (by simp))
  have Z4 : n0 ≤ h4.size := Nat.le_trans Z2 (Keep.of_wr W4).1
  have Fw4 : Fld Z h4 o0 "java/lang/String" "coder" "B" (.int 0) := c3_2.same W4
  refine Go.via st4 ?_
  refine Go.retV X4 hx Bd.notSynchronized Bd.returns (hb hby d29_14) (by decide) (by decide) ?_
  rw [e4]
  exact ⟨rfl, N4, K4, c5_0, c5_1, Fw4⟩
theorem d25_7 : decode B25 7 = .ok (.new 1, 3) := by decide +kernel
theorem d25_10 : decode B25 10 = .ok (.dup, 1) := by decide +kernel
theorem d25_11 : decode B25 11 = .ok (.aload_n 0, 1) := by decide +kernel
theorem d25_12 : decode B25 12 = .ok (.iload_n 1, 1) := by decide +kernel
theorem d25_13 : decode B25 13 = .ok (.iload_n 1, 1) := by decide +kernel
theorem d25_14 : decode B25 14 = .ok (.iload_n 2, 1) := by decide +kernel
theorem d25_15 : decode B25 15 = .ok (.iadd, 1) := by decide +kernel
theorem d25_16 : decode B25 16 = .ok (.invokestatic 232, 3) := by decide +kernel
theorem d25_19 : decode B25 19 = .ok (.iconst 0, 1) := by decide +kernel
theorem pd_26 : parseMethodDescriptor "([BB)V" = some ⟨[(.array .byte), .byte], none⟩ := by decide +kernel
theorem d25_20 : decode B25 20 = .ok (.invokespecial 112, 3) := by decide +kernel
theorem d25_23 : decode B25 23 = .ok (.areturn, 1) := by decide +kernel
def Q25C (Z : State) (o0 : Addr) (nN : Nat) (fF : Nat → Int32) (lN : Nat) (h0 : Heap) (n0 : Nat) (v : Option Value) (h : Heap) (L : List Loc) : Prop := ∃ b1 : Addr, ∃ b3_0 : Addr, v = some (.ref b1) ∧ Fr n0 L ∧ Keep h0 h [] ∧ h0.size ≤ b1 ∧ h0.size ≤ b3_0 ∧ AV Z h o0 .byte nN (fun k => .int (fF k)) ∧ Exa Z h b1 "java/lang/String" ∧ Fld Z h b1 "java/lang/String" "value" "[B" (.ref b3_0) ∧ Fld Z h b1 "java/lang/String" "coder" "B" (.int 0) ∧ AV Z h b3_0 .byte (nN - lN) (fun k => .int ((own_sh fF lN) k))
abbrev RM_3_2_8_72 : Room := { frames := 3, cells := 2, slots := 8, locals := 72 }
theorem rm25C (l : Launch) (Z : State) (a0 : Array Value) (hw : ∀ d ∈ tables_1, d.before a0 Z = true) (ws : List Jvm.Cond) (o0 : Addr) (nN : Nat) (fF : Nat → Int32) (lN : Nat) (h0 : Heap) (n0 : Nat) (Z0 : n0 ≤ h0.size) (ha0 : AV Z h0 o0 .byte nN (fun k => .int (fF k))) (hk : ¬ ((Int32.ofNat nN) - (Int32.ofNat lN)) = (0 : Int32)) (hlo : ¬ (Int32.ofNat lN) = (0 : Int32)) (hz0 : ¬ ((Int32.ofNat lN) + ((Int32.ofNat nN) - (Int32.ofNat lN))) < (Int32.ofNat lN)) (hz1 : ¬ (((Int32.ofNat lN) + ((Int32.ofNat nN) - (Int32.ofNat lN))) - (Int32.ofNat lN)) < 0) (hz2 : (((Int32.ofNat lN) + ((Int32.ofNat nN) - (Int32.ofNat lN))) - (Int32.ofNat lN)).toNatClampNeg ≤ 4) (hz3 : (((Int32.ofNat lN) + ((Int32.ofNat nN) - (Int32.ofNat lN))) - (Int32.ofNat lN)).toNatClampNeg = (nN - lN)) (hz4 : f17 ((Int32.ofNat nN) - (Int32.ofNat lN)) (((Int32.ofNat lN) + ((Int32.ofNat nN) - (Int32.ofNat lN))) - (Int32.ofNat lN)) = Int32.ofNat (nN - lN)) (hz5 : lN + (nN - lN) ≤ nN) (hfit : ∀ k, k < nN → fits .byte (.int (fF k)) = true) :
    MetFree l y25 (head1 (Jvm.Cond.code y25 jdk_43_method_47_code 3 (some (.object "java/lang/String")) :: ws) RM_3_2_8_72) (fun a U => a = #[(.ref o0), (.int (Int32.ofNat lN)), (.int ((Int32.ofNat nN) - (Int32.ofNat lN)))] ∧ Z.Warmed39 U.vm ∧ U.heap = h0) (fun _ _ _ _ _ => True) (fun _ U o U' => ∃ v L, o = .returned v ∧ Q25C Z o0 nN fF lN h0 n0 v U'.heap L ∧ FrameEnd U o U' L RM_3_2_8_72.cells RM_3_2_8_72.slots) := by
  refine MetFree.of_bodySF (plainFor_of_name pn_1) hisR ?_
  intro p e s m args below meth c s₁ Bd hml0 hP hK
  obtain ⟨rfl, hZ, hh⟩ := hP
  have hx := Bd.exec
  have hby := Bd.bytes
  have hml : c.maxLocals = 3 := hml0
  have hown : s.vm.findClass "java/lang/StringLatin1" = some m.cls := findClass_of_methodNamed Bd.named
  have X0 : Stand p l e RM_3_2_8_72 s m _ below meth c s₁ [] 0 0 := Stand.of_body Bd
  have e0 : s₁.heap = h0 := by rw [← hh, Bd.state]; rfl
  have N0 := Fr.nil n0
  refine Go.into (P := fun oo uu => ∃ v L, oo = .returned v ∧ Q25C Z o0 nN fF lN h0 n0 v uu.heap L ∧ FrameEnd s oo uu L RM_3_2_8_72.cells RM_3_2_8_72.slots) (ef_25_aaa m o0 (Int32.ofNat lN) ((Int32.ofNat nN) - (Int32.ofNat lN))) ?_
  show Go p e below _ (s₁.setTop (mkF m 0 #[sR o0, sI (Int32.ofNat lN), sI ((Int32.ofNat nN) - (Int32.ofNat lN))] []))
  refine Vi (s₁.setTop (mkF m 7 #[sR o0, sI (Int32.ofNat lN), sI ((Int32.ofNat nN) - (Int32.ofNat lN))] [])) (fun tZ kZ => ?_) ?_
  · refine XS.iloadN X0.here hx rfl (hb hby d25_0) rfl ?_
    refine XS.ifYes X0.here hx rfl (pc0 := 1) (pc' := 7) rfl (hb hby d25_1) rfl ((if0 _ _).trans (feq hk).2) (by decide) (by decide) ?_
    exact kZ
  obtain ⟨T1, h1, X1, e1, E1, A1, D1, -, st1⟩ := newO X0 hx hZ hown (wq hw 128 rfl) (wq hw 8 rfl) (wq hw 7 rfl) e0 (g := (mkF m 7 #[sR o0, sI (Int32.ofNat lN), sI ((Int32.ofNat nN) - (Int32.ofNat lN))] [])) rfl (hb hby d25_7) (by decide) (by decide)
  obtain ⟨b1, g1⟩ : ∃ z, z = h0.size := ⟨_, rfl⟩
  rw [← g1] at A1 D1 st1
  have g_b1 : n0 ≤ b1 := Nat.le_trans Z0 (Nat.le_of_eq g1.symm)
  have sz_b1 : h0.size ≤ b1 := Nat.le_trans ((Keep.refl h0 [])).1 (Nat.le_of_eq g1.symm)
  have ne_o0_b1 : o0 ≠ b1 := Nat.ne_of_lt (Nat.lt_of_lt_of_le ha0.lt (Nat.le_of_eq g1.symm))
  have c2_0 := ha0.ext E1
  have K1 : Keep h0 h1 [] := (Keep.refl h0 []).ext E1
  have Z1 : n0 ≤ h1.size := Nat.le_trans Z0 E1.1
  have F1_value : Fld Z h1 b1 "java/lang/String" "value" "[B" .null := D1 (Or.inr (wq hw 10 rfl)) (ty := (.array .byte)) (by decide)
  have F1_coder : Fld Z h1 b1 "java/lang/String" "coder" "B" (.int 0) := D1 (Or.inr (wq hw 11 rfl)) (ty := .byte) (by decide)
  refine Go.via st1 ?_
  refine Vi (T1.setTop (mkF m 16 #[sR o0, sI (Int32.ofNat lN), sI ((Int32.ofNat nN) - (Int32.ofNat lN))] [(.int ((Int32.ofNat lN) + ((Int32.ofNat nN) - (Int32.ofNat lN)))), (.int (Int32.ofNat lN)), (.ref o0), (.ref b1), (.ref b1)])) (fun tZ kZ => ?_) ?_
  · refine XS.dup X1.here hx rfl (hb hby d25_10) rfl rfl ?_
    refine XS.aloadN X1.here hx rfl (hb hby d25_11) rfl rfl ?_
    refine XS.iloadN X1.here hx rfl (hb hby d25_12) rfl ?_
    refine XS.iloadN X1.here hx rfl (hb hby d25_13) rfl ?_
    refine XS.iloadN X1.here hx rfl (hb hby d25_14) rfl ?_
    refine XS.iadd X1.here hx rfl (hb hby d25_15) rfl ?_
    exact kZ
  obtain ⟨_, _, ⟨T3, L3, k3, n3⟩, -, X3, ⟨Lc3, hQ3, l3, y3, z3⟩, st3⟩ := Jvm.LawKit.callS X1 hx (y := y26) hown (mvT hZ (wq hw 129 rfl)) (mvT hZ (wq hw 130 rfl)) (mvT hZ (wq hw 131 rfl)) (mvT hZ (wq hw 132 rfl)) (by decide) (backOf (W := 2) (rm26C l Z a0 hw [] o0 nN fF lN h1 n0 Z1 c2_0 hlo hz0 hz1 hz2 hz3 hz4 hz5 hfit) hZ (wq hw 132 rfl) (wq hw 131 rfl) (by decide) (by decide)) (g := (mkF m 16 #[sR o0, sI (Int32.ofNat lN), sI ((Int32.ofNat nN) - (Int32.ofNat lN))] [(.int ((Int32.ofNat lN) + ((Int32.ofNat nN) - (Int32.ofNat lN)))), (.int (Int32.ofNat lN)), (.ref o0), (.ref b1), (.ref b1)])) rfl (by rw [hml]; rfl) (argsL := [(.ref o0), (.int (Int32.ofNat lN)), (.int ((Int32.ofNat lN) + ((Int32.ofNat nN) - (Int32.ofNat lN))))]) (rest := [(.ref b1), (.ref b1)]) (lenOf pd_23 rfl) rfl (leW rfl) (hb hby d25_16) (fun _ _ => ⟨rfl, e1, (by decide : 0 + 1 + 1 ≤ _), (by decide : 0 + 4 + 4 ≤ _)⟩)
  dsimp only [Pt.U, Pt.locs, Pt.cells, Pt.slots] at X3 l3 y3 z3 st3 hQ3
  subst l3 y3 z3
  obtain ⟨b3_0, rfl, N3q, Kq3, hz_b3_0, f3_0, f3_1⟩ := hQ3
  have g_b3_0 : n0 ≤ b3_0 := Nat.le_trans Z1 hz_b3_0
  have sz_b3_0 : h0.size ≤ b3_0 := Nat.le_trans (K1).1 hz_b3_0
  have ne_o0_b3_0 : o0 ≠ b3_0 := Nat.ne_of_lt (Nat.lt_of_lt_of_le c2_0.lt hz_b3_0)
  have ne_b1_b3_0 : b1 ≠ b3_0 := Nat.ne_of_lt (Nat.lt_of_lt_of_le A1.lt hz_b3_0)
  have c4_2 := A1.keep Kq3
  have c4_3 := F1_value.keep Kq3 nin0
  have c4_4 := F1_coder.keep Kq3 nin0
  have K3 : Keep h0 T3.heap [] := K1.trans Kq3 all0
  have Z3 : n0 ≤ T3.heap.size := Nat.le_trans Z1 Kq3.1
  have N3 := Fr.app N0 N3q
  refine Go.via st3 ?_
  refine Vi (T3.setTop (mkF m 20 #[sR o0, sI (Int32.ofNat lN), sI ((Int32.ofNat nN) - (Int32.ofNat lN))] [(.int 0), (.ref b3_0), (.ref b1), (.ref b1)])) (fun tZ kZ => ?_) ?_
  · refine XS.iconst X3.here hx rfl (hb hby d25_19) ?_
    exact kZ
  obtain ⟨_, _, ⟨T5, L5, k5, n5⟩, -, X5, ⟨Lc5, hQ5, l5, y5, z5⟩, st5⟩ := X3.specialBack hx (y := y29) rfl hown (mvT hZ (wq hw 144 rfl)) (mvT hZ (wq hw 145 rfl)) (mvT hZ (wq hw 146 rfl)) (by decide) (backOf (W := 1) (rm29 l Z a0 hw [] b1 b3_0 T3.heap n0 Z3 c4_2 c4_3 c4_4 g_b1) hZ (wq hw 146 rfl) (wq hw 7 rfl) (by decide) (by decide)) (g := (mkF m 20 #[sR o0, sI (Int32.ofNat lN), sI ((Int32.ofNat nN) - (Int32.ofNat lN))] [(.int 0), (.ref b3_0), (.ref b1), (.ref b1)])) rfl (by rw [hml]; rfl) (Steps.refl _) (a := b1) (argsL := [(.ref b3_0), (.int 0)]) (rest := [(.ref b1)]) (lenOf pd_26 rfl) rfl (leW rfl) (hb hby d25_20) (fun _ _ => ⟨rfl, rfl, (by decide : 0 + 1 + 1 + 0 ≤ _), (by decide : 0 + 4 + 4 + 0 ≤ _)⟩)
  dsimp only [Pt.U, Pt.locs, Pt.cells, Pt.slots] at X5 l5 y5 z5 st5 hQ5
  subst l5 y5 z5
  obtain ⟨rfl, N5q, Kq5, f5_0, f5_1, f5_2⟩ := hQ5
  have c6_0 := f3_0.keep Kq5 (ninS ne_o0_b1 nin0)
  have c6_5 := f3_1.keep Kq5 (ninS (Ne.symm ne_b1_b3_0) nin0)
  have K5 : Keep h0 T5.heap [] := K3.trans Kq5 (allS (Or.inr sz_b1) all0)
  have Z5 : n0 ≤ T5.heap.size := Nat.le_trans Z3 Kq5.1
  have N5 := Fr.app N3 N5q
  refine Go.via (fun t k => st5.trans k) ?_
  refine Go.retR X5 hx Bd.notSynchronized Bd.returns rfl rfl (hb hby d25_23) (by decide) (by decide) ?_
  exact ⟨b1, b3_0, rfl, N5, K5, sz_b1, sz_b3_0, c6_0, f5_0, f5_1, f5_2, c6_5⟩
def Q19C (Z : State) (o0 : Addr) (b0 : Addr) (nN : Nat) (fF : Nat → Int32) (cs : Int32) (sv : Value) (lN : Nat) (h0 : Heap) (n0 : Nat) (v : Option Value) (h : Heap) (L : List Loc) : Prop := ∃ b5_0 : Addr, ∃ b5_1 : Addr, v = some (.ref b5_0) ∧ Fr n0 L ∧ Keep h0 h [] ∧ h0.size ≤ b5_0 ∧ h0.size ≤ b5_1 ∧ Exa Z h o0 "java/lang/String" ∧ Fld Z h o0 "java/lang/String" "coder" "B" (.int 0) ∧ Fld Z h o0 "java/lang/String" "value" "[B" (.ref b0) ∧ AV Z h b0 .byte nN (fun k => .int (fF k)) ∧ Sta Z h "java/lang/String" "COMPACT_STRINGS" "Z" (.int cs) ∧ Sta Z h "jdk/internal/util/Preconditions" "SIOOBE_FORMATTER" "Ljava/util/function/BiFunction;" sv ∧ Exa Z h b5_0 "java/lang/String" ∧ Fld Z h b5_0 "java/lang/String" "value" "[B" (.ref b5_1) ∧ Fld Z h b5_0 "java/lang/String" "coder" "B" (.int 0) ∧ AV Z h b5_1 .byte (nN - lN) (fun k => .int ((own_sh fF lN) k))
abbrev RM_4_2_8_86 : Room := { frames := 4, cells := 2, slots := 8, locals := 86 }
theorem rm19C (l : Launch) (Z : State) (a0 : Array Value) (hw : ∀ d ∈ tables_1, d.before a0 Z = true) (ws : List Jvm.Cond) (o0 : Addr) (b0 : Addr) (nN : Nat) (fF : Nat → Int32) (cs : Int32) (sv : Value) (lN : Nat) (h0 : Heap) (n0 : Nat) (Z0 : n0 ≤ h0.size) (ha0 : Exa Z h0 o0 "java/lang/String") (ha1 : Fld Z h0 o0 "java/lang/String" "coder" "B" (.int 0)) (ha2 : Fld Z h0 o0 "java/lang/String" "value" "[B" (.ref b0)) (ha3 : AV Z h0 b0 .byte nN (fun k => .int (fF k))) (ha4 : Sta Z h0 "java/lang/String" "COMPACT_STRINGS" "Z" (.int cs)) (ha5 : Sta Z h0 "jdk/internal/util/Preconditions" "SIOOBE_FORMATTER" "Ljava/util/function/BiFunction;" sv) (hcs : ¬ cs = 0) (hsv : sv.isRef = true) (hq0 : ¬ (Int32.ofNat lN) < 0) (hq1 : ¬ (Int32.ofNat nN) < (Int32.ofNat lN)) (hq2 : ¬ (Int32.ofNat nN) < (Int32.ofNat nN)) (hlo : ¬ (Int32.ofNat lN) = (0 : Int32)) (hk : ¬ ((Int32.ofNat nN) - (Int32.ofNat lN)) = (0 : Int32)) (hz0 : ¬ ((Int32.ofNat lN) + ((Int32.ofNat nN) - (Int32.ofNat lN))) < (Int32.ofNat lN)) (hz1 : ¬ (((Int32.ofNat lN) + ((Int32.ofNat nN) - (Int32.ofNat lN))) - (Int32.ofNat lN)) < 0) (hz2 : (((Int32.ofNat lN) + ((Int32.ofNat nN) - (Int32.ofNat lN))) - (Int32.ofNat lN)).toNatClampNeg ≤ 4) (hz3 : (((Int32.ofNat lN) + ((Int32.ofNat nN) - (Int32.ofNat lN))) - (Int32.ofNat lN)).toNatClampNeg = (nN - lN)) (hz4 : f17 ((Int32.ofNat nN) - (Int32.ofNat lN)) (((Int32.ofNat lN) + ((Int32.ofNat nN) - (Int32.ofNat lN))) - (Int32.ofNat lN)) = Int32.ofNat (nN - lN)) (hz5 : lN + (nN - lN) ≤ nN) (hfit : ∀ k, k < nN → fits .byte (.int (fF k)) = true) :
    MetFree l y19 (head1 (Jvm.Cond.code y19 jdk_42_method_92_code 5 (some (.object "java/lang/String")) :: ws) RM_4_2_8_86) (fun a U => a = #[(.ref o0), (.int (Int32.ofNat lN)), (.int (Int32.ofNat nN))] ∧ Z.Warmed39 U.vm ∧ U.heap = h0) (fun _ _ _ _ _ => True) (fun _ U o U' => ∃ v L, o = .returned v ∧ Q19C Z o0 b0 nN fF cs sv lN h0 n0 v U'.heap L ∧ FrameEnd U o U' L RM_4_2_8_86.cells RM_4_2_8_86.slots) := by
  refine MetFree.of_bodySF (plainFor_of_name pn_0) hisR ?_
  intro p e s m args below meth c s₁ Bd hml0 hP hK
  obtain ⟨rfl, hZ, hh⟩ := hP
  have hx := Bd.exec
  have hby := Bd.bytes
  have hml : c.maxLocals = 5 := hml0
  have hown : s.vm.findClass "java/lang/String" = some m.cls := findClass_of_methodNamed Bd.named
  have X0 : Stand p l e RM_4_2_8_86 s m _ below meth c s₁ [] 0 0 := Stand.of_body Bd
  have e0 : s₁.heap = h0 := by rw [← hh, Bd.state]; rfl
  have N0 := Fr.nil n0
  refine Go.into (P := fun oo uu => ∃ v L, oo = .returned v ∧ Q19C Z o0 b0 nN fF cs sv lN h0 n0 v uu.heap L ∧ FrameEnd s oo uu L RM_4_2_8_86.cells RM_4_2_8_86.slots) (ef_19_aaa m o0 (Int32.ofNat lN) (Int32.ofNat nN)) ?_
  show Go p e below _ (s₁.setTop (mkF m 0 #[sR o0, sI (Int32.ofNat lN), sI (Int32.ofNat nN), .unset, .unset] []))
  refine Vi (s₁.setTop (mkF m 1 #[sR o0, sI (Int32.ofNat lN), sI (Int32.ofNat nN), .unset, .unset] [(.ref o0)])) (fun tZ kZ => ?_) ?_
  · refine XS.aloadN X0.here hx rfl (hb hby d19_0) rfl rfl ?_
    exact kZ
  obtain ⟨cq1, kq1, q1a, q1b, q1c⟩ := isOf hZ e0 ha0
  obtain ⟨_, _, ⟨T1, L1, k1, n1⟩, -, X1, ⟨Lc1, hQ1, l1, y1, z1⟩, st1⟩ := X0.virtualBack hx (y := y11) (z := y11) hown (mvT hZ (wq hw 64 rfl)) (mvT hZ (wq hw 65 rfl)) (notFace_of_selects (args := #[]) (mvT hZ (wq hw 67 rfl))) (mvT hZ (wq hw 67 rfl)) (mvT hZ (wq hw 66 rfl)) (by decide) (backOf (W := 0) (rm11 l Z a0 hw [] o0 b0 nN fF cs h0 n0 Z0 ha0 ha1 ha2 ha3 ha4 hcs) hZ (wq hw 68 rfl) (wq hw 7 rfl) (by decide) (by decide)) q1a q1c (g := (mkF m 1 #[sR o0, sI (Int32.ofNat lN), sI (Int32.ofNat nN), .unset, .unset] [(.ref o0)])) rfl (by rw [hml]; rfl) (Steps.refl _) (argsL := []) (rest := []) (lenOf pd_9 rfl) rfl (leW rfl) (hb hby d19_1) (fun _ _ => ⟨rfl, e0, (by decide : 0 + 0 ≤ _), (by decide : 0 + 0 ≤ _)⟩)
  dsimp only [Pt.U, Pt.locs, Pt.cells, Pt.slots] at X1 l1 y1 z1 st1 hQ1
  subst l1 y1 z1
  obtain ⟨rfl, N1q, e1⟩ := hQ1
  have hv1 : (f11 o0 b0 nN fF cs) = (Int32.ofNat nN) := by unfold f11; exact own_sh0 _
  rw [hv1] at st1
  have N1 := Fr.app N0 N1q
  refine Go.via (fun t k => st1.trans k) ?_
  refine Vi (T1.setTop (mkF m 8 #[sR o0, sI (Int32.ofNat lN), sI (Int32.ofNat nN), sI (Int32.ofNat nN), .unset] [(.int (Int32.ofNat nN)), (.int (Int32.ofNat nN)), (.int (Int32.ofNat lN))])) (fun tZ kZ => ?_) ?_
  · refine XS.istoreN X1.here hx rfl (hb hby d19_4) rfl (l' := #[sR o0, sI (Int32.ofNat lN), sI (Int32.ofNat nN), sI (Int32.ofNat nN), .unset]) rfl ?_
    refine XS.iloadN X1.here hx rfl (hb hby d19_5) rfl ?_
    refine XS.iloadN X1.here hx rfl (hb hby d19_6) rfl ?_
    refine XS.iloadN X1.here hx rfl (hb hby d19_7) rfl ?_
    exact kZ
  obtain ⟨_, _, ⟨T2, L2, k2, n2⟩, -, X2, ⟨Lc2, hQ2, l2, y2, z2⟩, st2⟩ := Jvm.LawKit.callS X1 hx (y := y20) hown (mvT hZ (wq hw 106 rfl)) (mvT hZ (wq hw 107 rfl)) (mvT hZ (wq hw 7 rfl)) (mvT hZ (wq hw 108 rfl)) (by decide) (backOf (W := 0) (rm20 l Z a0 hw [] (Int32.ofNat lN) (Int32.ofNat nN) (Int32.ofNat nN) sv h0 n0 Z0 ha5 hq0 hq1 hq2 hsv) hZ (wq hw 108 rfl) (wq hw 7 rfl) (by decide) (by decide)) (g := (mkF m 8 #[sR o0, sI (Int32.ofNat lN), sI (Int32.ofNat nN), sI (Int32.ofNat nN), .unset] [(.int (Int32.ofNat nN)), (.int (Int32.ofNat nN)), (.int (Int32.ofNat lN))])) rfl (by rw [hml]; rfl) (argsL := [(.int (Int32.ofNat lN)), (.int (Int32.ofNat nN)), (.int (Int32.ofNat nN))]) (rest := []) (lenOf pd_17 rfl) rfl (leW rfl) (hb hby d19_8) (fun _ _ => ⟨rfl, e1, (by decide : 0 + 0 + 0 ≤ _), (by decide : 0 + 0 + 0 ≤ _)⟩)
  dsimp only [Pt.U, Pt.locs, Pt.cells, Pt.slots] at X2 l2 y2 z2 st2 hQ2
  subst l2 y2 z2
  obtain ⟨rfl, N2q, e2⟩ := hQ2
  have N2 := Fr.app N1 N2q
  refine Go.via st2 ?_
  refine Vi (T2.setTop (mkF m 28 #[sR o0, sI (Int32.ofNat lN), sI (Int32.ofNat nN), sI (Int32.ofNat nN), sI ((Int32.ofNat nN) - (Int32.ofNat lN))] [(.ref o0)])) (fun tZ kZ => ?_) ?_
  · refine XS.iloadN X2.here hx rfl (hb hby d19_11) rfl ?_
    refine XS.ifYes X2.here hx rfl (pc0 := 12) (pc' := 22) rfl (hb hby d19_12) rfl ((if0 _ _).trans (feq hlo).2) (by decide) (by decide) ?_
    refine XS.iloadN X2.here hx rfl (hb hby d19_22) rfl ?_
    refine XS.iloadN X2.here hx rfl (hb hby d19_23) rfl ?_
    refine XS.isub X2.here hx rfl (hb hby d19_24) rfl ?_
    refine XS.istore X2.here hx rfl (hb hby d19_25) rfl (l' := #[sR o0, sI (Int32.ofNat lN), sI (Int32.ofNat nN), sI (Int32.ofNat nN), sI ((Int32.ofNat nN) - (Int32.ofNat lN))]) rfl ?_
    refine XS.aloadN X2.here hx rfl (hb hby d19_27) rfl rfl ?_
    exact kZ
  obtain ⟨cq3, kq3, q3a, q3b, q3c⟩ := isOf hZ e2 ha0
  obtain ⟨_, _, ⟨T3, L3, k3, n3⟩, -, X3, ⟨Lc3, hQ3, l3, y3, z3⟩, st3⟩ := X2.virtualBack hx (y := y14) (z := y14) hown (mvT hZ (wq hw 80 rfl)) (mvT hZ (wq hw 81 rfl)) (notFace_of_selects (args := #[]) (mvT hZ (wq hw 83 rfl))) (mvT hZ (wq hw 83 rfl)) (mvT hZ (wq hw 82 rfl)) (by decide) (backOf (W := 0) (rm14 l Z a0 hw [] o0 cs h0 n0 Z0 ha1 ha4 hcs) hZ (wq hw 84 rfl) (wq hw 7 rfl) (by decide) (by decide)) q3a q3c (g := (mkF m 28 #[sR o0, sI (Int32.ofNat lN), sI (Int32.ofNat nN), sI (Int32.ofNat nN), sI ((Int32.ofNat nN) - (Int32.ofNat lN))] [(.ref o0)])) rfl (by rw [hml]; rfl) (Steps.refl _) (argsL := []) (rest := []) (lenOf pd_12 rfl) rfl (leW rfl) (hb hby d19_28) (fun _ _ => ⟨rfl, e2, (by decide : 0 + 0 + 0 + 0 ≤ _), (by decide : 0 + 0 + 0 + 0 ≤ _)⟩)
  dsimp only [Pt.U, Pt.locs, Pt.cells, Pt.slots] at X3 l3 y3 z3 st3 hQ3
  subst l3 y3 z3
  obtain ⟨rfl, N3q, e3⟩ := hQ3
  have hv3 : (f14 o0 cs) = (1 : Int32) := by unfold f14; decide
  rw [hv3] at st3
  have N3 := Fr.app N2 N3q
  refine Go.via (fun t k => st3.trans k) ?_
  refine Vi (T3.setTop (mkF m 35 #[sR o0, sI (Int32.ofNat lN), sI (Int32.ofNat nN), sI (Int32.ofNat nN), sI ((Int32.ofNat nN) - (Int32.ofNat lN))] [(.ref o0)])) (fun tZ kZ => ?_) ?_
  · refine XS.ifNo X3.here hx rfl (hb hby d19_31) rfl ((if0 _ _).trans (feq (by decide)).1) ?_
    refine XS.aloadN X3.here hx rfl (hb hby d19_34) rfl rfl ?_
    exact kZ
  obtain ⟨T4, X4, e4, st4⟩ := getF X3 hx hZ hown (host := "") (Or.inl (wq hw 29 rfl)) Via.refl e3 ha2 (g := (mkF m 35 #[sR o0, sI (Int32.ofNat lN), sI (Int32.ofNat nN), sI (Int32.ofNat nN), sI ((Int32.ofNat nN) - (Int32.ofNat lN))] [(.ref o0)])) rfl rfl (hb hby d19_35)
  refine Go.via st4 ?_
  refine Vi (T4.setTop (mkF m 41 #[sR o0, sI (Int32.ofNat lN), sI (Int32.ofNat nN), sI (Int32.ofNat nN), sI ((Int32.ofNat nN) - (Int32.ofNat lN))] [(.int ((Int32.ofNat nN) - (Int32.ofNat lN))), (.int (Int32.ofNat lN)), (.ref b0)])) (fun tZ kZ => ?_) ?_
  · refine XS.iloadN X4.here hx rfl (hb hby d19_38) rfl ?_
    refine XS.iload X4.here hx rfl (hb hby d19_39) rfl ?_
    exact kZ
  obtain ⟨_, _, ⟨T5, L5, k5, n5⟩, -, X5, ⟨Lc5, hQ5, l5, y5, z5⟩, st5⟩ := Jvm.LawKit.callS X4 hx (y := y25) hown (mvT hZ (wq hw 125 rfl)) (mvT hZ (wq hw 126 rfl)) (mvT hZ (wq hw 87 rfl)) (mvT hZ (wq hw 127 rfl)) (by decide) (backOf (W := 0) (rm25C l Z a0 hw [] b0 nN fF lN h0 n0 Z0 ha3 hk hlo hz0 hz1 hz2 hz3 hz4 hz5 hfit) hZ (wq hw 127 rfl) (wq hw 87 rfl) (by decide) (by decide)) (g := (mkF m 41 #[sR o0, sI (Int32.ofNat lN), sI (Int32.ofNat nN), sI (Int32.ofNat nN), sI ((Int32.ofNat nN) - (Int32.ofNat lN))] [(.int ((Int32.ofNat nN) - (Int32.ofNat lN))), (.int (Int32.ofNat lN)), (.ref b0)])) rfl (by rw [hml]; rfl) (argsL := [(.ref b0), (.int (Int32.ofNat lN)), (.int ((Int32.ofNat nN) - (Int32.ofNat lN)))]) (rest := []) (lenOf pd_22 rfl) rfl (leW rfl) (hb hby d19_41) (fun _ _ => ⟨rfl, e4, (by decide : 0 + 0 + 0 + 0 + 2 ≤ _), (by decide : 0 + 0 + 0 + 0 + 8 ≤ _)⟩)
  dsimp only [Pt.U, Pt.locs, Pt.cells, Pt.slots] at X5 l5 y5 z5 st5 hQ5
  subst l5 y5 z5
  obtain ⟨b5_0, b5_1, rfl, N5q, Kq5, hz_b5_0, hz_b5_1, f5_0, f5_1, f5_2, f5_3, f5_4⟩ := hQ5
  have g_b5_0 : n0 ≤ b5_0 := Nat.le_trans Z0 hz_b5_0
  have sz_b5_0 : h0.size ≤ b5_0 := Nat.le_trans ((Keep.refl h0 [])).1 hz_b5_0
  have ne_o0_b5_0 : o0 ≠ b5_0 := Nat.ne_of_lt (Nat.lt_of_lt_of_le ha0.lt hz_b5_0)
  have ne_b0_b5_0 : b0 ≠ b5_0 := Nat.ne_of_lt (Nat.lt_of_lt_of_le ha3.lt hz_b5_0)
  have g_b5_1 : n0 ≤ b5_1 := Nat.le_trans Z0 hz_b5_1
  have sz_b5_1 : h0.size ≤ b5_1 := Nat.le_trans ((Keep.refl h0 [])).1 hz_b5_1
  have ne_o0_b5_1 : o0 ≠ b5_1 := Nat.ne_of_lt (Nat.lt_of_lt_of_le ha0.lt hz_b5_1)
  have ne_b0_b5_1 : b0 ≠ b5_1 := Nat.ne_of_lt (Nat.lt_of_lt_of_le ha3.lt hz_b5_1)
  have c6_0 := ha0.keep Kq5
  have c6_1 := ha1.keep Kq5 nin0
  have c6_2 := ha2.keep Kq5 nin0
  have c6_4 := own_sk ha4 Kq5 (fun _ _ _ _ => nin0)
  have c6_5 := own_sk ha5 Kq5 (fun _ _ _ _ => nin0)
  have K5 : Keep h0 T5.heap [] := (Keep.refl h0 []).trans Kq5 all0
  have Z5 : n0 ≤ T5.heap.size := Nat.le_trans Z0 Kq5.1
  have N5 := Fr.app N3 N5q
  refine Go.via st5 ?_
  refine Vi (T5.setTop (mkF m 57 #[sR o0, sI (Int32.ofNat lN), sI (Int32.ofNat nN), sI (Int32.ofNat nN), sI ((Int32.ofNat nN) - (Int32.ofNat lN))] [(.ref b5_0)])) (fun tZ kZ => ?_) ?_
  · refine XS.goto X5.here hx rfl (pc0 := 44) (pc' := 57) rfl (hb hby d19_44) (by decide) (by decide) ?_
    exact kZ
  refine Go.retR X5 hx Bd.notSynchronized Bd.returns rfl rfl (hb hby d19_57) (by decide) (by decide) ?_
  exact ⟨b5_0, b5_1, rfl, N5, K5, sz_b5_0, sz_b5_1, c6_0, c6_1, c6_2, f5_0, c6_4, c6_5, f5_1, f5_2, f5_3, f5_4⟩
def Q18C (Z : State) (o0 : Addr) (b0 : Addr) (nN : Nat) (fF : Nat → Int32) (cs : Int32) (sv : Value) (lN : Nat) (h0 : Heap) (n0 : Nat) (v : Option Value) (h : Heap) (L : List Loc) : Prop := ∃ b2_0 : Addr, ∃ b2_1 : Addr, v = some (.ref b2_0) ∧ Fr n0 L ∧ Keep h0 h [] ∧ h0.size ≤ b2_0 ∧ h0.size ≤ b2_1 ∧ Exa Z h o0 "java/lang/String" ∧ Fld Z h o0 "java/lang/String" "coder" "B" (.int 0) ∧ Fld Z h o0 "java/lang/String" "value" "[B" (.ref b0) ∧ AV Z h b0 .byte nN (fun k => .int (fF k)) ∧ Sta Z h "java/lang/String" "COMPACT_STRINGS" "Z" (.int cs) ∧ Sta Z h "jdk/internal/util/Preconditions" "SIOOBE_FORMATTER" "Ljava/util/function/BiFunction;" sv ∧ Exa Z h b2_0 "java/lang/String" ∧ Fld Z h b2_0 "java/lang/String" "value" "[B" (.ref b2_1) ∧ Fld Z h b2_0 "java/lang/String" "coder" "B" (.int 0) ∧ AV Z h b2_1 .byte (nN - lN) (fun k => .int ((own_sh fF lN) k))
abbrev RM_5_2_8_102 : Room := { frames := 5, cells := 2, slots := 8, locals := 102 }
theorem rm18C (l : Launch) (Z : State) (a0 : Array Value) (hw : ∀ d ∈ tables_1, d.before a0 Z = true) (ws : List Jvm.Cond) (o0 : Addr) (b0 : Addr) (nN : Nat) (fF : Nat → Int32) (cs : Int32) (sv : Value) (lN : Nat) (h0 : Heap) (n0 : Nat) (Z0 : n0 ≤ h0.size) (ha0 : Exa Z h0 o0 "java/lang/String") (ha1 : Fld Z h0 o0 "java/lang/String" "coder" "B" (.int 0)) (ha2 : Fld Z h0 o0 "java/lang/String" "value" "[B" (.ref b0)) (ha3 : AV Z h0 b0 .byte nN (fun k => .int (fF k))) (ha4 : Sta Z h0 "java/lang/String" "COMPACT_STRINGS" "Z" (.int cs)) (ha5 : Sta Z h0 "jdk/internal/util/Preconditions" "SIOOBE_FORMATTER" "Ljava/util/function/BiFunction;" sv) (hcs : ¬ cs = 0) (hsv : sv.isRef = true) (hq0 : ¬ (Int32.ofNat lN) < 0) (hq1 : ¬ (Int32.ofNat nN) < (Int32.ofNat lN)) (hq2 : ¬ (Int32.ofNat nN) < (Int32.ofNat nN)) (hlo : ¬ (Int32.ofNat lN) = (0 : Int32)) (hk : ¬ ((Int32.ofNat nN) - (Int32.ofNat lN)) = (0 : Int32)) (hz0 : ¬ ((Int32.ofNat lN) + ((Int32.ofNat nN) - (Int32.ofNat lN))) < (Int32.ofNat lN)) (hz1 : ¬ (((Int32.ofNat lN) + ((Int32.ofNat nN) - (Int32.ofNat lN))) - (Int32.ofNat lN)) < 0) (hz2 : (((Int32.ofNat lN) + ((Int32.ofNat nN) - (Int32.ofNat lN))) - (Int32.ofNat lN)).toNatClampNeg ≤ 4) (hz3 : (((Int32.ofNat lN) + ((Int32.ofNat nN) - (Int32.ofNat lN))) - (Int32.ofNat lN)).toNatClampNeg = (nN - lN)) (hz4 : f17 ((Int32.ofNat nN) - (Int32.ofNat lN)) (((Int32.ofNat lN) + ((Int32.ofNat nN) - (Int32.ofNat lN))) - (Int32.ofNat lN)) = Int32.ofNat (nN - lN)) (hz5 : lN + (nN - lN) ≤ nN) (hfit : ∀ k, k < nN → fits .byte (.int (fF k)) = true) :
    MetFree l y18 (head1 (Jvm.Cond.code y18 jdk_42_method_91_code 2 (some (.object "java/lang/String")) :: ws) RM_5_2_8_102) (fun a U => a = #[(.ref o0), (.int (Int32.ofNat lN))] ∧ Z.Warmed39 U.vm ∧ U.heap = h0) (fun _ _ _ _ _ => True) (fun _ U o U' => ∃ v L, o = .returned v ∧ Q18C Z o0 b0 nN fF cs sv lN h0 n0 v U'.heap L ∧ FrameEnd U o U' L RM_5_2_8_102.cells RM_5_2_8_102.slots) := by
  refine MetFree.of_bodySF (plainFor_of_name pn_0) hisR ?_
  intro p e s m args below meth c s₁ Bd hml0 hP hK
  obtain ⟨rfl, hZ, hh⟩ := hP
  have hx := Bd.exec
  have hby := Bd.bytes
  have hml : c.maxLocals = 2 := hml0
  have hown : s.vm.findClass "java/lang/String" = some m.cls := findClass_of_methodNamed Bd.named
  have X0 : Stand p l e RM_5_2_8_102 s m _ below meth c s₁ [] 0 0 := Stand.of_body Bd
  have e0 : s₁.heap = h0 := by rw [← hh, Bd.state]; rfl
  have N0 := Fr.nil n0
  refine Go.into (P := fun oo uu => ∃ v L, oo = .returned v ∧ Q18C Z o0 b0 nN fF cs sv lN h0 n0 v uu.heap L ∧ FrameEnd s oo uu L RM_5_2_8_102.cells RM_5_2_8_102.slots) (ef_18_aa m o0 (Int32.ofNat lN)) ?_
  show Go p e below _ (s₁.setTop (mkF m 0 #[sR o0, sI (Int32.ofNat lN)] []))
  refine Vi (s₁.setTop (mkF m 3 #[sR o0, sI (Int32.ofNat lN)] [(.ref o0), (.int (Int32.ofNat lN)), (.ref o0)])) (fun tZ kZ => ?_) ?_
  · refine XS.aloadN X0.here hx rfl (hb hby d18_0) rfl rfl ?_
    refine XS.iloadN X0.here hx rfl (hb hby d18_1) rfl ?_
    refine XS.aloadN X0.here hx rfl (hb hby d18_2) rfl rfl ?_
    exact kZ
  obtain ⟨cq1, kq1, q1a, q1b, q1c⟩ := isOf hZ e0 ha0
  obtain ⟨_, _, ⟨T1, L1, k1, n1⟩, -, X1, ⟨Lc1, hQ1, l1, y1, z1⟩, st1⟩ := X0.virtualBack hx (y := y11) (z := y11) hown (mvT hZ (wq hw 64 rfl)) (mvT hZ (wq hw 65 rfl)) (notFace_of_selects (args := #[]) (mvT hZ (wq hw 67 rfl))) (mvT hZ (wq hw 67 rfl)) (mvT hZ (wq hw 66 rfl)) (by decide) (backOf (W := 2) (rm11 l Z a0 hw [] o0 b0 nN fF cs h0 n0 Z0 ha0 ha1 ha2 ha3 ha4 hcs) hZ (wq hw 68 rfl) (wq hw 7 rfl) (by decide) (by decide)) q1a q1c (g := (mkF m 3 #[sR o0, sI (Int32.ofNat lN)] [(.ref o0), (.int (Int32.ofNat lN)), (.ref o0)])) rfl (by rw [hml]; rfl) (Steps.refl _) (argsL := []) (rest := [(.int (Int32.ofNat lN)), (.ref o0)]) (lenOf pd_9 rfl) rfl (leW rfl) (hb hby d18_3) (fun _ _ => ⟨rfl, e0, (by decide : 0 + 0 ≤ _), (by decide : 0 + 0 ≤ _)⟩)
  dsimp only [Pt.U, Pt.locs, Pt.cells, Pt.slots] at X1 l1 y1 z1 st1 hQ1
  subst l1 y1 z1
  obtain ⟨rfl, N1q, e1⟩ := hQ1
  have hv1 : (f11 o0 b0 nN fF cs) = (Int32.ofNat nN) := by unfold f11; exact own_sh0 _
  rw [hv1] at st1
  have N1 := Fr.app N0 N1q
  refine Go.via (fun t k => st1.trans k) ?_
  obtain ⟨cq2, kq2, q2a, q2b, q2c⟩ := isOf hZ e1 ha0
  obtain ⟨_, _, ⟨T2, L2, k2, n2⟩, -, X2, ⟨Lc2, hQ2, l2, y2, z2⟩, st2⟩ := X1.virtualBack hx (y := y19) (z := y19) hown (mvT hZ (wq hw 101 rfl)) (mvT hZ (wq hw 102 rfl)) (notFace_of_selects (args := #[]) (mvT hZ (wq hw 104 rfl))) (mvT hZ (wq hw 104 rfl)) (mvT hZ (wq hw 103 rfl)) (by decide) (backOf (W := 0) (rm19C l Z a0 hw [] o0 b0 nN fF cs sv lN h0 n0 Z0 ha0 ha1 ha2 ha3 ha4 ha5 hcs hsv hq0 hq1 hq2 hlo hk hz0 hz1 hz2 hz3 hz4 hz5 hfit) hZ (wq hw 105 rfl) (wq hw 7 rfl) (by decide) (by decide)) q2a q2c (g := (mkF m 6 #[sR o0, sI (Int32.ofNat lN)] [(.int (Int32.ofNat nN)), (.int (Int32.ofNat lN)), (.ref o0)])) rfl (by rw [hml]; rfl) (Steps.refl _) (argsL := [(.int (Int32.ofNat lN)), (.int (Int32.ofNat nN))]) (rest := []) (lenOf pd_16 rfl) rfl (leW rfl) (hb hby d18_6) (fun _ _ => ⟨rfl, e1, (by decide : 0 + 0 + 2 ≤ _), (by decide : 0 + 0 + 8 ≤ _)⟩)
  dsimp only [Pt.U, Pt.locs, Pt.cells, Pt.slots] at X2 l2 y2 z2 st2 hQ2
  subst l2 y2 z2
  obtain ⟨b2_0, b2_1, rfl, N2q, Kq2, hz_b2_0, hz_b2_1, f2_0, f2_1, f2_2, f2_3, f2_4, f2_5, f2_6, f2_7, f2_8, f2_9⟩ := hQ2
  have g_b2_0 : n0 ≤ b2_0 := Nat.le_trans Z0 hz_b2_0
  have sz_b2_0 : h0.size ≤ b2_0 := Nat.le_trans ((Keep.refl h0 [])).1 hz_b2_0
  have ne_o0_b2_0 : o0 ≠ b2_0 := Nat.ne_of_lt (Nat.lt_of_lt_of_le ha0.lt hz_b2_0)
  have ne_b0_b2_0 : b0 ≠ b2_0 := Nat.ne_of_lt (Nat.lt_of_lt_of_le ha3.lt hz_b2_0)
  have g_b2_1 : n0 ≤ b2_1 := Nat.le_trans Z0 hz_b2_1
  have sz_b2_1 : h0.size ≤ b2_1 := Nat.le_trans ((Keep.refl h0 [])).1 hz_b2_1
  have ne_o0_b2_1 : o0 ≠ b2_1 := Nat.ne_of_lt (Nat.lt_of_lt_of_le ha0.lt hz_b2_1)
  have ne_b0_b2_1 : b0 ≠ b2_1 := Nat.ne_of_lt (Nat.lt_of_lt_of_le ha3.lt hz_b2_1)
  have K2 : Keep h0 T2.heap [] := (Keep.refl h0 []).trans Kq2 all0
  have Z2 : n0 ≤ T2.heap.size := Nat.le_trans Z0 Kq2.1
  have N2 := Fr.app N1 N2q
  refine Go.via (fun t k => st2.trans k) ?_
  refine Go.retR X2 hx Bd.notSynchronized Bd.returns rfl rfl (hb hby d18_9) (by decide) (by decide) ?_
  exact ⟨b2_0, b2_1, rfl, N2, K2, sz_b2_0, sz_b2_1, f2_0, f2_1, f2_2, f2_3, f2_4, f2_5, f2_6, f2_7, f2_8, f2_9⟩
def Q9n2C (Z : State) (o0 : Addr) (sn : Addr) (b0 : Addr) (fF : Nat → Int32) (cs : Int32) (sv : Value) (lN : Nat) (h0 : Heap) (n0 : Nat) (v : Option Value) (h : Heap) (L : List Loc) : Prop := ∃ b4_0 : Addr, ∃ b4_1 : Addr, v = some (.ref b4_0) ∧ Fr n0 L ∧ Keep h0 h [] ∧ h0.size ≤ b4_0 ∧ h0.size ≤ b4_1 ∧ Exa Z h o0 "com/example/bindery/bindery/compiler/JavaType" ∧ Fld Z h o0 "com/example/bindery/bindery/compiler/JavaType" "name" "Ljava/lang/String;" (.ref sn) ∧ Exa Z h sn "java/lang/String" ∧ Fld Z h sn "java/lang/String" "coder" "B" (.int 0) ∧ Fld Z h sn "java/lang/String" "value" "[B" (.ref b0) ∧ AV Z h b0 .byte 2 (fun k => .int (fF k)) ∧ Sta Z h "java/lang/String" "COMPACT_STRINGS" "Z" (.int cs) ∧ Sta Z h "jdk/internal/util/Preconditions" "SIOOBE_FORMATTER" "Ljava/util/function/BiFunction;" sv ∧ Exa Z h b4_0 "java/lang/String" ∧ Fld Z h b4_0 "java/lang/String" "value" "[B" (.ref b4_1) ∧ Fld Z h b4_0 "java/lang/String" "coder" "B" (.int 0) ∧ AV Z h b4_1 .byte (2 - lN) (fun k => .int ((own_sh fF lN) k))
abbrev RM_6_2_8_115 : Room := { frames := 6, cells := 2, slots := 8, locals := 115 }
theorem rm9n2C (l : Launch) (Z : State) (a0 : Array Value) (hw : ∀ d ∈ tables_1, d.before a0 Z = true) (ws : List Jvm.Cond) (o0 : Addr) (sn : Addr) (b0 : Addr) (fF : Nat → Int32) (cs : Int32) (sv : Value) (lN : Nat) (h0 : Heap) (n0 : Nat) (Z0 : n0 ≤ h0.size) (ha0 : Exa Z h0 o0 "com/example/bindery/bindery/compiler/JavaType") (ha1 : Fld Z h0 o0 "com/example/bindery/bindery/compiler/JavaType" "name" "Ljava/lang/String;" (.ref sn)) (ha2 : Exa Z h0 sn "java/lang/String") (ha3 : Fld Z h0 sn "java/lang/String" "coder" "B" (.int 0)) (ha4 : Fld Z h0 sn "java/lang/String" "value" "[B" (.ref b0)) (ha5 : AV Z h0 b0 .byte 2 (fun k => .int (fF k))) (ha6 : Sta Z h0 "java/lang/String" "COMPACT_STRINGS" "Z" (.int cs)) (ha7 : Sta Z h0 "jdk/internal/util/Preconditions" "SIOOBE_FORMATTER" "Ljava/util/function/BiFunction;" sv) (hcs : ¬ cs = 0) (hsv : sv.isRef = true) (hq0 : ¬ (Int32.ofNat lN) < 0) (hq1 : ¬ (2 : Int32) < (Int32.ofNat lN)) (hq2 : ¬ (2 : Int32) < (2 : Int32)) (hlo : ¬ (Int32.ofNat lN) = (0 : Int32)) (hk : ¬ ((2 : Int32) - (Int32.ofNat lN)) = (0 : Int32)) (hz0 : ¬ ((Int32.ofNat lN) + ((2 : Int32) - (Int32.ofNat lN))) < (Int32.ofNat lN)) (hz1 : ¬ (((Int32.ofNat lN) + ((2 : Int32) - (Int32.ofNat lN))) - (Int32.ofNat lN)) < 0) (hz2 : (((Int32.ofNat lN) + ((2 : Int32) - (Int32.ofNat lN))) - (Int32.ofNat lN)).toNatClampNeg ≤ 4) (hz3 : (((Int32.ofNat lN) + ((2 : Int32) - (Int32.ofNat lN))) - (Int32.ofNat lN)).toNatClampNeg = (2 - lN)) (hz4 : f17 ((2 : Int32) - (Int32.ofNat lN)) (((Int32.ofNat lN) + ((2 : Int32) - (Int32.ofNat lN))) - (Int32.ofNat lN)) = Int32.ofNat (2 - lN)) (hz5 : lN + (2 - lN) ≤ 2) (hfit : ∀ k, k < 2 → fits .byte (.int (fF k)) = true) (hld : ((f10n2 sn b0 fF cs) + (1 : Int32)) = (Int32.ofNat lN)) :
    MetFree l y9 (head1 (Jvm.Cond.code y9 prog_5_method_8_code 1 (some (.object "java/lang/String")) :: ws) RM_6_2_8_115) (fun a U => a = #[(.ref o0)] ∧ Z.Warmed39 U.vm ∧ U.heap = h0) (fun _ _ _ _ _ => True) (fun _ U o U' => ∃ v L, o = .returned v ∧ Q9n2C Z o0 sn b0 fF cs sv lN h0 n0 v U'.heap L ∧ FrameEnd U o U' L RM_6_2_8_115.cells RM_6_2_8_115.slots) := by
  refine MetFree.of_bodySF (plainFor_of_name pn_5) hisR ?_
  intro p e s m args below meth c s₁ Bd hml0 hP hK
  obtain ⟨rfl, hZ, hh⟩ := hP
  have hx := Bd.exec
  have hby := Bd.bytes
  have hml : c.maxLocals = 1 := hml0
  have hown : s.vm.findClass "com/example/bindery/bindery/compiler/JavaType" = some m.cls := findClass_of_methodNamed Bd.named
  have X0 : Stand p l e RM_6_2_8_115 s m _ below meth c s₁ [] 0 0 := Stand.of_body Bd
  have e0 : s₁.heap = h0 := by rw [← hh, Bd.state]; rfl
  have N0 := Fr.nil n0
  refine Go.into (P := fun oo uu => ∃ v L, oo = .returned v ∧ Q9n2C Z o0 sn b0 fF cs sv lN h0 n0 v uu.heap L ∧ FrameEnd s oo uu L RM_6_2_8_115.cells RM_6_2_8_115.slots) (ef_9_a m o0) ?_
  show Go p e below _ (s₁.setTop (mkF m 0 #[sR o0] []))
  refine Vi (s₁.setTop (mkF m 1 #[sR o0] [(.ref o0)])) (fun tZ kZ => ?_) ?_
  · refine XS.aloadN X0.here hx rfl (hb hby d9_0) rfl rfl ?_
    exact kZ
  obtain ⟨T1, X1, e1, st1⟩ := getF X0 hx hZ hown (host := "") (Or.inl (wq hw 50 rfl)) Via.refl e0 ha1 (g := (mkF m 1 #[sR o0] [(.ref o0)])) rfl rfl (hb hby d9_1)
  refine Go.via st1 ?_
  refine Vi (T1.setTop (mkF m 5 #[sR o0] [(.ref o0), (.ref sn)])) (fun tZ kZ => ?_) ?_
  · refine XS.aloadN X1.here hx rfl (hb hby d9_4) rfl rfl ?_
    exact kZ
  obtain ⟨T2, X2, e2, st2⟩ := getF X1 hx hZ hown (host := "") (Or.inl (wq hw 50 rfl)) Via.refl e1 ha1 (g := (mkF m 5 #[sR o0] [(.ref o0), (.ref sn)])) rfl rfl (hb hby d9_5)
  refine Go.via st2 ?_
  refine Vi (T2.setTop (mkF m 10 #[sR o0] [(.int 46), (.ref sn), (.ref sn)])) (fun tZ kZ => ?_) ?_
  · refine XS.bipush X2.here hx rfl (hb hby d9_8) ?_
    exact kZ
  obtain ⟨cq3, kq3, q3a, q3b, q3c⟩ := isOf hZ e2 ha2
  obtain ⟨_, _, ⟨T3, L3, k3, n3⟩, -, X3, ⟨Lc3, hQ3, l3, y3, z3⟩, st3⟩ := X2.virtualBack hx (y := y10) (z := y10) hown (mvT hZ (wq hw 59 rfl)) (mvT hZ (wq hw 60 rfl)) (notFace_of_selects (args := #[]) (mvT hZ (wq hw 62 rfl))) (mvT hZ (wq hw 62 rfl)) (mvT hZ (wq hw 61 rfl)) (by decide) (backOf (W := 1) (rm10n2 l Z a0 hw [] sn b0 fF cs h0 n0 Z0 ha2 ha3 ha4 ha5 ha6 hcs) hZ (wq hw 63 rfl) (wq hw 7 rfl) (by decide) (by decide)) q3a q3c (g := (mkF m 10 #[sR o0] [(.int 46), (.ref sn), (.ref sn)])) rfl (by rw [hml]; rfl) (Steps.refl _) (argsL := [(.int 46)]) (rest := [(.ref sn)]) (lenOf pd_8 rfl) rfl (leW rfl) (hb hby d9_10) (fun _ _ => ⟨rfl, e2, (by decide : 0 + 0 ≤ _), (by decide : 0 + 0 ≤ _)⟩)
  dsimp only [Pt.U, Pt.locs, Pt.cells, Pt.slots] at X3 l3 y3 z3 st3 hQ3
  subst l3 y3 z3
  obtain ⟨rfl, N3q, e3⟩ := hQ3
  have N3 := Fr.app N0 N3q
  refine Go.via (fun t k => st3.trans k) ?_
  refine Vi (T3.setTop (mkF m 15 #[sR o0] [(.int ((f10n2 sn b0 fF cs) + (1 : Int32))), (.ref sn)])) (fun tZ kZ => ?_) ?_
  · refine XS.iconst X3.here hx rfl (hb hby d9_13) ?_
    refine XS.iadd X3.here hx rfl (hb hby d9_14) rfl ?_
    exact kZ
  rw [hld]
  show Go p e below _ (T3.setTop (mkF m 15 #[sR o0] [(.int (Int32.ofNat lN)), (.ref sn)]))
  obtain ⟨cq4, kq4, q4a, q4b, q4c⟩ := isOf hZ e3 ha2
  obtain ⟨_, _, ⟨T4, L4, k4, n4⟩, -, X4, ⟨Lc4, hQ4, l4, y4, z4⟩, st4⟩ := X3.virtualBack hx (y := y18) (z := y18) hown (mvT hZ (wq hw 96 rfl)) (mvT hZ (wq hw 97 rfl)) (notFace_of_selects (args := #[]) (mvT hZ (wq hw 99 rfl))) (mvT hZ (wq hw 99 rfl)) (mvT hZ (wq hw 98 rfl)) (by decide) (backOf (W := 0) (rm18C l Z a0 hw [] sn b0 2 fF cs sv lN h0 n0 Z0 ha2 ha3 ha4 ha5 ha6 ha7 hcs hsv hq0 hq1 hq2 hlo hk hz0 hz1 hz2 hz3 hz4 hz5 hfit) hZ (wq hw 100 rfl) (wq hw 7 rfl) (by decide) (by decide)) q4a q4c (g := (mkF m 15 #[sR o0] [(.int (Int32.ofNat lN)), (.ref sn)])) rfl (by rw [hml]; rfl) (Steps.refl _) (argsL := [(.int (Int32.ofNat lN))]) (rest := []) (lenOf pd_15 rfl) rfl (leW rfl) (hb hby d9_15) (fun _ _ => ⟨rfl, e3, (by decide : 0 + 0 + 2 ≤ _), (by decide : 0 + 0 + 8 ≤ _)⟩)
  dsimp only [Pt.U, Pt.locs, Pt.cells, Pt.slots] at X4 l4 y4 z4 st4 hQ4
  subst l4 y4 z4
  obtain ⟨b4_0, b4_1, rfl, N4q, Kq4, hz_b4_0, hz_b4_1, f4_0, f4_1, f4_2, f4_3, f4_4, f4_5, f4_6, f4_7, f4_8, f4_9⟩ := hQ4
  have g_b4_0 : n0 ≤ b4_0 := Nat.le_trans Z0 hz_b4_0
  have sz_b4_0 : h0.size ≤ b4_0 := Nat.le_trans ((Keep.refl h0 [])).1 hz_b4_0
  have ne_o0_b4_0 : o0 ≠ b4_0 := Nat.ne_of_lt (Nat.lt_of_lt_of_le ha0.lt hz_b4_0)
  have ne_sn_b4_0 : sn ≠ b4_0 := Nat.ne_of_lt (Nat.lt_of_lt_of_le ha2.lt hz_b4_0)
  have ne_b0_b4_0 : b0 ≠ b4_0 := Nat.ne_of_lt (Nat.lt_of_lt_of_le ha5.lt hz_b4_0)
  have g_b4_1 : n0 ≤ b4_1 := Nat.le_trans Z0 hz_b4_1
  have sz_b4_1 : h0.size ≤ b4_1 := Nat.le_trans ((Keep.refl h0 [])).1 hz_b4_1
  have ne_o0_b4_1 : o0 ≠ b4_1 := Nat.ne_of_lt (Nat.lt_of_lt_of_le ha0.lt hz_b4_1)
  have ne_sn_b4_1 : sn ≠ b4_1 := Nat.ne_of_lt (Nat.lt_of_lt_of_le ha2.lt hz_b4_1)
  have ne_b0_b4_1 : b0 ≠ b4_1 := Nat.ne_of_lt (Nat.lt_of_lt_of_le ha5.lt hz_b4_1)
  have c5_0 := ha0.keep Kq4
  have c5_1 := ha1.keep Kq4 nin0
  have K4 : Keep h0 T4.heap [] := (Keep.refl h0 []).trans Kq4 all0
  have Z4 : n0 ≤ T4.heap.size := Nat.le_trans Z0 Kq4.1
  have N4 := Fr.app N3 N4q
  refine Go.via (fun t k => st4.trans k) ?_
  refine Go.retR X4 hx Bd.notSynchronized Bd.returns rfl rfl (hb hby d9_18) (by decide) (by decide) ?_
  exact ⟨b4_0, b4_1, rfl, N4, K4, sz_b4_0, sz_b4_1, c5_0, c5_1, f4_0, f4_1, f4_2, f4_3, f4_4, f4_5, f4_6, f4_7, f4_8, f4_9⟩
def Q9n3C (Z : State) (o0 : Addr) (sn : Addr) (b0 : Addr) (fF : Nat → Int32) (cs : Int32) (sv : Value) (lN : Nat) (h0 : Heap) (n0 : Nat) (v : Option Value) (h : Heap) (L : List Loc) : Prop := ∃ b4_0 : Addr, ∃ b4_1 : Addr, v = some (.ref b4_0) ∧ Fr n0 L ∧ Keep h0 h [] ∧ h0.size ≤ b4_0 ∧ h0.size ≤ b4_1 ∧ Exa Z h o0 "com/example/bindery/bindery/compiler/JavaType" ∧ Fld Z h o0 "com/example/bindery/bindery/compiler/JavaType" "name" "Ljava/lang/String;" (.ref sn) ∧ Exa Z h sn "java/lang/String" ∧ Fld Z h sn "java/lang/String" "coder" "B" (.int 0) ∧ Fld Z h sn "java/lang/String" "value" "[B" (.ref b0) ∧ AV Z h b0 .byte 3 (fun k => .int (fF k)) ∧ Sta Z h "java/lang/String" "COMPACT_STRINGS" "Z" (.int cs) ∧ Sta Z h "jdk/internal/util/Preconditions" "SIOOBE_FORMATTER" "Ljava/util/function/BiFunction;" sv ∧ Exa Z h b4_0 "java/lang/String" ∧ Fld Z h b4_0 "java/lang/String" "value" "[B" (.ref b4_1) ∧ Fld Z h b4_0 "java/lang/String" "coder" "B" (.int 0) ∧ AV Z h b4_1 .byte (3 - lN) (fun k => .int ((own_sh fF lN) k))
theorem rm9n3C (l : Launch) (Z : State) (a0 : Array Value) (hw : ∀ d ∈ tables_1, d.before a0 Z = true) (ws : List Jvm.Cond) (o0 : Addr) (sn : Addr) (b0 : Addr) (fF : Nat → Int32) (cs : Int32) (sv : Value) (lN : Nat) (h0 : Heap) (n0 : Nat) (Z0 : n0 ≤ h0.size) (ha0 : Exa Z h0 o0 "com/example/bindery/bindery/compiler/JavaType") (ha1 : Fld Z h0 o0 "com/example/bindery/bindery/compiler/JavaType" "name" "Ljava/lang/String;" (.ref sn)) (ha2 : Exa Z h0 sn "java/lang/String") (ha3 : Fld Z h0 sn "java/lang/String" "coder" "B" (.int 0)) (ha4 : Fld Z h0 sn "java/lang/String" "value" "[B" (.ref b0)) (ha5 : AV Z h0 b0 .byte 3 (fun k => .int (fF k))) (ha6 : Sta Z h0 "java/lang/String" "COMPACT_STRINGS" "Z" (.int cs)) (ha7 : Sta Z h0 "jdk/internal/util/Preconditions" "SIOOBE_FORMATTER" "Ljava/util/function/BiFunction;" sv) (hcs : ¬ cs = 0) (hsv : sv.isRef = true) (hq0 : ¬ (Int32.ofNat lN) < 0) (hq1 : ¬ (3 : Int32) < (Int32.ofNat lN)) (hq2 : ¬ (3 : Int32) < (3 : Int32)) (hlo : ¬ (Int32.ofNat lN) = (0 : Int32)) (hk : ¬ ((3 : Int32) - (Int32.ofNat lN)) = (0 : Int32)) (hz0 : ¬ ((Int32.ofNat lN) + ((3 : Int32) - (Int32.ofNat lN))) < (Int32.ofNat lN)) (hz1 : ¬ (((Int32.ofNat lN) + ((3 : Int32) - (Int32.ofNat lN))) - (Int32.ofNat lN)) < 0) (hz2 : (((Int32.ofNat lN) + ((3 : Int32) - (Int32.ofNat lN))) - (Int32.ofNat lN)).toNatClampNeg ≤ 4) (hz3 : (((Int32.ofNat lN) + ((3 : Int32) - (Int32.ofNat lN))) - (Int32.ofNat lN)).toNatClampNeg = (3 - lN)) (hz4 : f17 ((3 : Int32) - (Int32.ofNat lN)) (((Int32.ofNat lN) + ((3 : Int32) - (Int32.ofNat lN))) - (Int32.ofNat lN)) = Int32.ofNat (3 - lN)) (hz5 : lN + (3 - lN) ≤ 3) (hfit : ∀ k, k < 3 → fits .byte (.int (fF k)) = true) (hld : ((f10n3 sn b0 fF cs) + (1 : Int32)) = (Int32.ofNat lN)) :
    MetFree l y9 (head1 (Jvm.Cond.code y9 prog_5_method_8_code 1 (some (.object "java/lang/String")) :: ws) RM_6_2_8_115) (fun a U => a = #[(.ref o0)] ∧ Z.Warmed39 U.vm ∧ U.heap = h0) (fun _ _ _ _ _ => True) (fun _ U o U' => ∃ v L, o = .returned v ∧ Q9n3C Z o0 sn b0 fF cs sv lN h0 n0 v U'.heap L ∧ FrameEnd U o U' L RM_6_2_8_115.cells RM_6_2_8_115.slots) := by
  refine MetFree.of_bodySF (plainFor_of_name pn_5) hisR ?_
  intro p e s m args below meth c s₁ Bd hml0 hP hK
  obtain ⟨rfl, hZ, hh⟩ := hP
  have hx := Bd.exec
  have hby := Bd.bytes
  have hml : c.maxLocals = 1 := hml0
  have hown : s.vm.findClass "com/example/bindery/bindery/compiler/JavaType" = some m.cls := findClass_of_methodNamed Bd.named
  have X0 : Stand p l e RM_6_2_8_115 s m _ below meth c s₁ [] 0 0 := Stand.of_body Bd
  have e0 : s₁.heap = h0 := by rw [← hh, Bd.state]; rfl
  have N0 := Fr.nil n0
  refine Go.into (P := fun oo uu => ∃ v L, oo = .returned v ∧ Q9n3C Z o0 sn b0 fF cs sv lN h0 n0 v uu.heap L ∧ FrameEnd s oo uu L RM_6_2_8_115.cells RM_6_2_8_115.slots) (ef_9_a m o0) ?_
  show Go p e below _ (s₁.setTop (mkF m 0 #[sR o0] []))
  refine Vi (s₁.setTop (mkF m 1 #[sR o0] [(.ref o0)])) (fun tZ kZ => ?_) ?_
  · refine XS.aloadN X0.here hx rfl (hb hby d9_0) rfl rfl ?_
    exact kZ
  obtain ⟨T1, X1, e1, st1⟩ := getF X0 hx hZ hown (host := "") (Or.inl (wq hw 50 rfl)) Via.refl e0 ha1 (g := (mkF m 1 #[sR o0] [(.ref o0)])) rfl rfl (hb hby d9_1)
  refine Go.via st1 ?_
  refine Vi (T1.setTop (mkF m 5 #[sR o0] [(.ref o0), (.ref sn)])) (fun tZ kZ => ?_) ?_
  · refine XS.aloadN X1.here hx rfl (hb hby d9_4) rfl rfl ?_
    exact kZ
  obtain ⟨T2, X2, e2, st2⟩ := getF X1 hx hZ hown (host := "") (Or.inl (wq hw 50 rfl)) Via.refl e1 ha1 (g := (mkF m 5 #[sR o0] [(.ref o0), (.ref sn)])) rfl rfl (hb hby d9_5)
  refine Go.via st2 ?_
  refine Vi (T2.setTop (mkF m 10 #[sR o0] [(.int 46), (.ref sn), (.ref sn)])) (fun tZ kZ => ?_) ?_
  · refine XS.bipush X2.here hx rfl (hb hby d9_8) ?_
    exact kZ
  obtain ⟨cq3, kq3, q3a, q3b, q3c⟩ := isOf hZ e2 ha2
  obtain ⟨_, _, ⟨T3, L3, k3, n3⟩, -, X3, ⟨Lc3, hQ3, l3, y3, z3⟩, st3⟩ := X2.virtualBack hx (y := y10) (z := y10) hown (mvT hZ (wq hw 59 rfl)) (mvT hZ (wq hw 60 rfl)) (notFace_of_selects (args := #[]) (mvT hZ (wq hw 62 rfl))) (mvT hZ (wq hw 62 rfl)) (mvT hZ (wq hw 61 rfl)) (by decide) (backOf (W := 1) (rm10n3 l Z a0 hw [] sn b0 fF cs h0 n0 Z0 ha2 ha3 ha4 ha5 ha6 hcs) hZ (wq hw 63 rfl) (wq hw 7 rfl) (by decide) (by decide)) q3a q3c (g := (mkF m 10 #[sR o0] [(.int 46), (.ref sn), (.ref sn)])) rfl (by rw [hml]; rfl) (Steps.refl _) (argsL := [(.int 46)]) (rest := [(.ref sn)]) (lenOf pd_8 rfl) rfl (leW rfl) (hb hby d9_10) (fun _ _ => ⟨rfl, e2, (by decide : 0 + 0 ≤ _), (by decide : 0 + 0 ≤ _)⟩)
  dsimp only [Pt.U, Pt.locs, Pt.cells, Pt.slots] at X3 l3 y3 z3 st3 hQ3
  subst l3 y3 z3
  obtain ⟨rfl, N3q, e3⟩ := hQ3
  have N3 := Fr.app N0 N3q
  refine Go.via (fun t k => st3.trans k) ?_
  refine Vi (T3.setTop (mkF m 15 #[sR o0] [(.int ((f10n3 sn b0 fF cs) + (1 : Int32))), (.ref sn)])) (fun tZ kZ => ?_) ?_
  · refine XS.iconst X3.here hx rfl (hb hby d9_13) ?_
    refine XS.iadd X3.here hx rfl (hb hby d9_14) rfl ?_
    exact kZ
  rw [hld]
  show Go p e below _ (T3.setTop (mkF m 15 #[sR o0] [(.int (Int32.ofNat lN)), (.ref sn)]))
  obtain ⟨cq4, kq4, q4a, q4b, q4c⟩ := isOf hZ e3 ha2
  obtain ⟨_, _, ⟨T4, L4, k4, n4⟩, -, X4, ⟨Lc4, hQ4, l4, y4, z4⟩, st4⟩ := X3.virtualBack hx (y := y18) (z := y18) hown (mvT hZ (wq hw 96 rfl)) (mvT hZ (wq hw 97 rfl)) (notFace_of_selects (args := #[]) (mvT hZ (wq hw 99 rfl))) (mvT hZ (wq hw 99 rfl)) (mvT hZ (wq hw 98 rfl)) (by decide) (backOf (W := 0) (rm18C l Z a0 hw [] sn b0 3 fF cs sv lN h0 n0 Z0 ha2 ha3 ha4 ha5 ha6 ha7 hcs hsv hq0 hq1 hq2 hlo hk hz0 hz1 hz2 hz3 hz4 hz5 hfit) hZ (wq hw 100 rfl) (wq hw 7 rfl) (by decide) (by decide)) q4a q4c (g := (mkF m 15 #[sR o0] [(.int (Int32.ofNat lN)), (.ref sn)])) rfl (by rw [hml]; rfl) (Steps.refl _) (argsL := [(.int (Int32.ofNat lN))]) (rest := []) (lenOf pd_15 rfl) rfl (leW rfl) (hb hby d9_15) (fun _ _ => ⟨rfl, e3, (by decide : 0 + 0 + 2 ≤ _), (by decide : 0 + 0 + 8 ≤ _)⟩)
  dsimp only [Pt.U, Pt.locs, Pt.cells, Pt.slots] at X4 l4 y4 z4 st4 hQ4
  subst l4 y4 z4
  obtain ⟨b4_0, b4_1, rfl, N4q, Kq4, hz_b4_0, hz_b4_1, f4_0, f4_1, f4_2, f4_3, f4_4, f4_5, f4_6, f4_7, f4_8, f4_9⟩ := hQ4
  have g_b4_0 : n0 ≤ b4_0 := Nat.le_trans Z0 hz_b4_0
  have sz_b4_0 : h0.size ≤ b4_0 := Nat.le_trans ((Keep.refl h0 [])).1 hz_b4_0
  have ne_o0_b4_0 : o0 ≠ b4_0 := Nat.ne_of_lt (Nat.lt_of_lt_of_le ha0.lt hz_b4_0)
  have ne_sn_b4_0 : sn ≠ b4_0 := Nat.ne_of_lt (Nat.lt_of_lt_of_le ha2.lt hz_b4_0)
  have ne_b0_b4_0 : b0 ≠ b4_0 := Nat.ne_of_lt (Nat.lt_of_lt_of_le ha5.lt hz_b4_0)
  have g_b4_1 : n0 ≤ b4_1 := Nat.le_trans Z0 hz_b4_1
  have sz_b4_1 : h0.size ≤ b4_1 := Nat.le_trans ((Keep.refl h0 [])).1 hz_b4_1
  have ne_o0_b4_1 : o0 ≠ b4_1 := Nat.ne_of_lt (Nat.lt_of_lt_of_le ha0.lt hz_b4_1)
  have ne_sn_b4_1 : sn ≠ b4_1 := Nat.ne_of_lt (Nat.lt_of_lt_of_le ha2.lt hz_b4_1)
  have ne_b0_b4_1 : b0 ≠ b4_1 := Nat.ne_of_lt (Nat.lt_of_lt_of_le ha5.lt hz_b4_1)
  have c5_0 := ha0.keep Kq4
  have c5_1 := ha1.keep Kq4 nin0
  have K4 : Keep h0 T4.heap [] := (Keep.refl h0 []).trans Kq4 all0
  have Z4 : n0 ≤ T4.heap.size := Nat.le_trans Z0 Kq4.1
  have N4 := Fr.app N3 N4q
  refine Go.via (fun t k => st4.trans k) ?_
  refine Go.retR X4 hx Bd.notSynchronized Bd.returns rfl rfl (hb hby d9_18) (by decide) (by decide) ?_
  exact ⟨b4_0, b4_1, rfl, N4, K4, sz_b4_0, sz_b4_1, c5_0, c5_1, f4_0, f4_1, f4_2, f4_3, f4_4, f4_5, f4_6, f4_7, f4_8, f4_9⟩
def Q9n4C (Z : State) (o0 : Addr) (sn : Addr) (b0 : Addr) (fF : Nat → Int32) (cs : Int32) (sv : Value) (lN : Nat) (h0 : Heap) (n0 : Nat) (v : Option Value) (h : Heap) (L : List Loc) : Prop := ∃ b4_0 : Addr, ∃ b4_1 : Addr, v = some (.ref b4_0) ∧ Fr n0 L ∧ Keep h0 h [] ∧ h0.size ≤ b4_0 ∧ h0.size ≤ b4_1 ∧ Exa Z h o0 "com/example/bindery/bindery/compiler/JavaType" ∧ Fld Z h o0 "com/example/bindery/bindery/compiler/JavaType" "name" "Ljava/lang/String;" (.ref sn) ∧ Exa Z h sn "java/lang/String" ∧ Fld Z h sn "java/lang/String" "coder" "B" (.int 0) ∧ Fld Z h sn "java/lang/String" "value" "[B" (.ref b0) ∧ AV Z h b0 .byte 4 (fun k => .int (fF k)) ∧ Sta Z h "java/lang/String" "COMPACT_STRINGS" "Z" (.int cs) ∧ Sta Z h "jdk/internal/util/Preconditions" "SIOOBE_FORMATTER" "Ljava/util/function/BiFunction;" sv ∧ Exa Z h b4_0 "java/lang/String" ∧ Fld Z h b4_0 "java/lang/String" "value" "[B" (.ref b4_1) ∧ Fld Z h b4_0 "java/lang/String" "coder" "B" (.int 0) ∧ AV Z h b4_1 .byte (4 - lN) (fun k => .int ((own_sh fF lN) k))
theorem rm9n4C (l : Launch) (Z : State) (a0 : Array Value) (hw : ∀ d ∈ tables_1, d.before a0 Z = true) (ws : List Jvm.Cond) (o0 : Addr) (sn : Addr) (b0 : Addr) (fF : Nat → Int32) (cs : Int32) (sv : Value) (lN : Nat) (h0 : Heap) (n0 : Nat) (Z0 : n0 ≤ h0.size) (ha0 : Exa Z h0 o0 "com/example/bindery/bindery/compiler/JavaType") (ha1 : Fld Z h0 o0 "com/example/bindery/bindery/compiler/JavaType" "name" "Ljava/lang/String;" (.ref sn)) (ha2 : Exa Z h0 sn "java/lang/String") (ha3 : Fld Z h0 sn "java/lang/String" "coder" "B" (.int 0)) (ha4 : Fld Z h0 sn "java/lang/String" "value" "[B" (.ref b0)) (ha5 : AV Z h0 b0 .byte 4 (fun k => .int (fF k))) (ha6 : Sta Z h0 "java/lang/String" "COMPACT_STRINGS" "Z" (.int cs)) (ha7 : Sta Z h0 "jdk/internal/util/Preconditions" "SIOOBE_FORMATTER" "Ljava/util/function/BiFunction;" sv) (hcs : ¬ cs = 0) (hsv : sv.isRef = true) (hq0 : ¬ (Int32.ofNat lN) < 0) (hq1 : ¬ (4 : Int32) < (Int32.ofNat lN)) (hq2 : ¬ (4 : Int32) < (4 : Int32)) (hlo : ¬ (Int32.ofNat lN) = (0 : Int32)) (hk : ¬ ((4 : Int32) - (Int32.ofNat lN)) = (0 : Int32)) (hz0 : ¬ ((Int32.ofNat lN) + ((4 : Int32) - (Int32.ofNat lN))) < (Int32.ofNat lN)) (hz1 : ¬ (((Int32.ofNat lN) + ((4 : Int32) - (Int32.ofNat lN))) - (Int32.ofNat lN)) < 0) (hz2 : (((Int32.ofNat lN) + ((4 : Int32) - (Int32.ofNat lN))) - (Int32.ofNat lN)).toNatClampNeg ≤ 4) (hz3 : (((Int32.ofNat lN) + ((4 : Int32) - (Int32.ofNat lN))) - (Int32.ofNat lN)).toNatClampNeg = (4 - lN)) (hz4 : f17 ((4 : Int32) - (Int32.ofNat lN)) (((Int32.ofNat lN) + ((4 : Int32) - (Int32.ofNat lN))) - (Int32.ofNat lN)) = Int32.ofNat (4 - lN)) (hz5 : lN + (4 - lN) ≤ 4) (hfit : ∀ k, k < 4 → fits .byte (.int (fF k)) = true) (hld : ((f10n4 sn b0 fF cs) + (1 : Int32)) = (Int32.ofNat lN)) :
    MetFree l y9 (head1 (Jvm.Cond.code y9 prog_5_method_8_code 1 (some (.object "java/lang/String")) :: ws) RM_6_2_8_115) (fun a U => a = #[(.ref o0)] ∧ Z.Warmed39 U.vm ∧ U.heap = h0) (fun _ _ _ _ _ => True) (fun _ U o U' => ∃ v L, o = .returned v ∧ Q9n4C Z o0 sn b0 fF cs sv lN h0 n0 v U'.heap L ∧ FrameEnd U o U' L RM_6_2_8_115.cells RM_6_2_8_115.slots) := by
  refine MetFree.of_bodySF (plainFor_of_name pn_5) hisR ?_
  intro p e s m args below meth c s₁ Bd hml0 hP hK
  obtain ⟨rfl, hZ, hh⟩ := hP
  have hx := Bd.exec
  have hby := Bd.bytes
  have hml : c.maxLocals = 1 := hml0
  have hown : s.vm.findClass "com/example/bindery/bindery/compiler/JavaType" = some m.cls := findClass_of_methodNamed Bd.named
  have X0 : Stand p l e RM_6_2_8_115 s m _ below meth c s₁ [] 0 0 := Stand.of_body Bd
  have e0 : s₁.heap = h0 := by rw [← hh, Bd.state]; rfl
  have N0 := Fr.nil n0
  refine Go.into (P := fun oo uu => ∃ v L, oo = .returned v ∧ Q9n4C Z o0 sn b0 fF cs sv lN h0 n0 v uu.heap L ∧ FrameEnd s oo uu L RM_6_2_8_115.cells RM_6_2_8_115.slots) (ef_9_a m o0) ?_
  show Go p e below _ (s₁.setTop (mkF m 0 #[sR o0] []))
  refine Vi (s₁.setTop (mkF m 1 #[sR o0] [(.ref o0)])) (fun tZ kZ => ?_) ?_
  · refine XS.aloadN X0.here hx rfl (hb hby d9_0) rfl rfl ?_
    exact kZ
  obtain ⟨T1, X1, e1, st1⟩ := getF X0 hx hZ hown (host := "") (Or.inl (wq hw 50 rfl)) Via.refl e0 ha1 (g := (mkF m 1 #[sR o0] [(.ref o0)])) rfl rfl (hb hby d9_1)
  refine Go.via st1 ?_
  refine Vi (T1.setTop (mkF m 5 #[sR o0] [(.ref o0), (.ref sn)])) (fun tZ kZ => ?_) ?_
  · refine XS.aloadN X1.here hx rfl (hb hby d9_4) rfl rfl ?_
    exact kZ
  obtain ⟨T2, X2, e2, st2⟩ := getF X1 hx hZ hown (host := "") (Or.inl (wq hw 50 rfl)) Via.refl e1 ha1 (g := (mkF m 5 #[sR o0] [(.ref o0), (.ref sn)])) rfl rfl (hb hby d9_5)
  refine Go.via st2 ?_
  refine Vi (T2.setTop (mkF m 10 #[sR o0] [(.int 46), (.ref sn), (.ref sn)])) (fun tZ kZ => ?_) ?_
  · refine XS.bipush X2.here hx rfl (hb hby d9_8) ?_
    exact kZ
  obtain ⟨cq3, kq3, q3a, q3b, q3c⟩ := isOf hZ e2 ha2
  obtain ⟨_, _, ⟨T3, L3, k3, n3⟩, -, X3, ⟨Lc3, hQ3, l3, y3, z3⟩, st3⟩ := X2.virtualBack hx (y := y10) (z := y10) hown (mvT hZ (wq hw 59 rfl)) (mvT hZ (wq hw 60 rfl)) (notFace_of_selects (args := #[]) (mvT hZ (wq hw 62 rfl))) (mvT hZ (wq hw 62 rfl)) (mvT hZ (wq hw 61 rfl)) (by decide) (backOf (W := 1) (rm10n4 l Z a0 hw [] sn b0 fF cs h0 n0 Z0 ha2 ha3 ha4 ha5 ha6 hcs) hZ (wq hw 63 rfl) (wq hw 7 rfl) (by decide) (by decide)) q3a q3c (g := (mkF m 10 #[sR o0] [(.int 46), (.ref sn), (.ref sn)])) rfl (by rw [hml]; rfl) (Steps.refl _) (argsL := [(.int 46)]) (rest := [(.ref sn)]) (lenOf pd_8 rfl) rfl (leW rfl) (hb hby d9_10) (fun _ _ => ⟨rfl, e2, (by decide : 0 + 0 ≤ _), (by decide : 0 + 0 ≤ _)⟩)
  dsimp only [Pt.U, Pt.locs, Pt.cells, Pt.slots] at X3 l3 y3 z3 st3 hQ3
  subst l3 y3 z3
  obtain ⟨rfl, N3q, e3⟩ := hQ3
  have N3 := Fr.app N0 N3q
  refine Go.via (fun t k => st3.trans k) ?_
  refine Vi (T3.setTop (mkF m 15 #[sR o0] [(.int ((f10n4 sn b0 fF cs) + (1 : Int32))), (.ref sn)])) (fun tZ kZ => ?_) ?_
  · refine XS.iconst X3.here hx rfl (hb hby d9_13) ?_
    refine XS.iadd X3.here hx rfl (hb hby d9_14) rfl ?_
    exact kZ
  rw [hld]
  show Go p e below _ (T3.setTop (mkF m 15 #[sR o0] [(.int (Int32.ofNat lN)), (.ref sn)]))
  obtain ⟨cq4, kq4, q4a, q4b, q4c⟩ := isOf hZ e3 ha2
  obtain ⟨_, _, ⟨T4, L4, k4, n4⟩, -, X4, ⟨Lc4, hQ4, l4, y4, z4⟩, st4⟩ := X3.virtualBack hx (y := y18) (z := y18) hown (mvT hZ (wq hw 96 rfl)) (mvT hZ (wq hw 97 rfl)) (notFace_of_selects (args := #[]) (mvT hZ (wq hw 99 rfl))) (mvT hZ (wq hw 99 rfl)) (mvT hZ (wq hw 98 rfl)) (by decide) (backOf (W := 0) (rm18C l Z a0 hw [] sn b0 4 fF cs sv lN h0 n0 Z0 ha2 ha3 ha4 ha5 ha6 ha7 hcs hsv hq0 hq1 hq2 hlo hk hz0 hz1 hz2 hz3 hz4 hz5 hfit) hZ (wq hw 100 rfl) (wq hw 7 rfl) (by decide) (by decide)) q4a q4c (g := (mkF m 15 #[sR o0] [(.int (Int32.ofNat lN)), (.ref sn)])) rfl (by rw [hml]; rfl) (Steps.refl _) (argsL := [(.int (Int32.ofNat lN))]) (rest := []) (lenOf pd_15 rfl) rfl (leW rfl) (hb hby d9_15) (fun _ _ => ⟨rfl, e3, (by decide : 0 + 0 + 2 ≤ _), (by decide : 0 + 0 + 8 ≤ _)⟩)
  dsimp only [Pt.U, Pt.locs, Pt.cells, Pt.slots] at X4 l4 y4 z4 st4 hQ4
  subst l4 y4 z4
  obtain ⟨b4_0, b4_1, rfl, N4q, Kq4, hz_b4_0, hz_b4_1, f4_0, f4_1, f4_2, f4_3, f4_4, f4_5, f4_6, f4_7, f4_8, f4_9⟩ := hQ4
  have g_b4_0 : n0 ≤ b4_0 := Nat.le_trans Z0 hz_b4_0
  have sz_b4_0 : h0.size ≤ b4_0 := Nat.le_trans ((Keep.refl h0 [])).1 hz_b4_0
  have ne_o0_b4_0 : o0 ≠ b4_0 := Nat.ne_of_lt (Nat.lt_of_lt_of_le ha0.lt hz_b4_0)
  have ne_sn_b4_0 : sn ≠ b4_0 := Nat.ne_of_lt (Nat.lt_of_lt_of_le ha2.lt hz_b4_0)
  have ne_b0_b4_0 : b0 ≠ b4_0 := Nat.ne_of_lt (Nat.lt_of_lt_of_le ha5.lt hz_b4_0)
  have g_b4_1 : n0 ≤ b4_1 := Nat.le_trans Z0 hz_b4_1
  have sz_b4_1 : h0.size ≤ b4_1 := Nat.le_trans ((Keep.refl h0 [])).1 hz_b4_1
  have ne_o0_b4_1 : o0 ≠ b4_1 := Nat.ne_of_lt (Nat.lt_of_lt_of_le ha0.lt hz_b4_1)
  have ne_sn_b4_1 : sn ≠ b4_1 := Nat.ne_of_lt (Nat.lt_of_lt_of_le ha2.lt hz_b4_1)
  have ne_b0_b4_1 : b0 ≠ b4_1 := Nat.ne_of_lt (Nat.lt_of_lt_of_le ha5.lt hz_b4_1)
  have c5_0 := ha0.keep Kq4
  have c5_1 := ha1.keep Kq4 nin0
  have K4 : Keep h0 T4.heap [] := (Keep.refl h0 []).trans Kq4 all0
  have Z4 : n0 ≤ T4.heap.size := Nat.le_trans Z0 Kq4.1
  have N4 := Fr.app N3 N4q
  refine Go.via (fun t k => st4.trans k) ?_
  refine Go.retR X4 hx Bd.notSynchronized Bd.returns rfl rfl (hb hby d9_18) (by decide) (by decide) ?_
  exact ⟨b4_0, b4_1, rfl, N4, K4, sz_b4_0, sz_b4_1, c5_0, c5_1, f4_0, f4_1, f4_2, f4_3, f4_4, f4_5, f4_6, f4_7, f4_8, f4_9⟩
def Com (l : Launch) (Z : State) (a0 : Array Value) (p : Program) (e : Env) (s : State) (m : MethodId) (args : Array Value) (below : List Frame) (meth : Method) (c : Code) (T0 : State) (locs0 : List Loc) (vmT : Vm) (cl : Nat) (sl : Nat) (h0 : Heap) (n0 : Nat) (kT : Nat) (x0 : Int32) (x1 : Int32) (x2 : Int32) (x3 : Int32) (cs : Int32) (sv : Value) (em : Addr) (dA : Addr) : Prop := Stand p l e room_1 (s.setVm vmT) m args below meth c T0 locs0 cl sl ∧ p.tables.exec = Jvm.exec ∧ c.code = code ∧ c.maxLocals = 19 ∧ meth.locks = false ∧ meth.sig.returnType = some .boolean ∧ Z.Warmed39 (s.setVm vmT).vm ∧ (s.setVm vmT).vm.findClass "com/example/bindery/bindery/compiler/JavaTypeSimpleNamePinLaw" = some m.cls ∧ (∀ a ∈ Bundle.stringAtoms, a.before a0 Z = true) ∧ n0 ≤ h0.size ∧ T0.heap = h0 ∧ Fr n0 locs0 ∧ s.Since vmT kT ∧ kT ≤ h0.size ∧ CHv Z own_EL vmT h0 ∧ own_ch x0 ∧ own_ch x1 ∧ own_ch x2 ∧ own_ch x3 ∧ ¬ cs = 0 ∧ sv.isRef = true ∧ Sta Z Z.heap "java/lang/String" "COMPACT_STRINGS" "Z" (.int cs) ∧ Sta Z Z.heap "jdk/internal/util/Preconditions" "SIOOBE_FORMATTER" "Ljava/util/function/BiFunction;" sv ∧ Sta Z Z.heap "java/util/Optional" "EMPTY" "Ljava/util/Optional;" (.ref em) ∧ Old Z n0 h0 ∧ AV Z h0 dA .char 4 (fun k => .int ((up (up (up (up (fun _ => (0 : Int32)) (0 : Int32).toNatClampNeg (nar .char x0)) (1 : Int32).toNatClampNeg (nar .char x1)) (2 : Int32).toNatClampNeg (nar .char x2)) (3 : Int32).toNatClampNeg (nar .char x3)) k))
abbrev LQ (p0 p1 p2 p3 p4 p5 nI x0 x1 x2 x3 : Int32) (dA sA pk : Addr) (r : List Slot) : Array Slot := (sI p0 :: sI p1 :: sI p2 :: sI p3 :: sI p4 :: sI p5 :: sI nI :: sI x0 :: sI x1 :: sI x2 :: sI x3 :: sR dA :: sR sA :: sR pk :: r).toArray
def Q0 (n0 : Nat) (v : Option Value) (h : Heap) (L : List Loc) : Prop := v = some (.int 1) ∧ Fr n0 L
theorem pd_1 : parseMethodDescriptor "([C)V" = some ⟨[(.array .char)], none⟩ := by decide +kernel
theorem pd_4 : parseMethodDescriptor "(Ljava/lang/String;Ljava/lang/String;)V" = some ⟨[(.object "java/lang/String"), (.object "java/lang/String")], none⟩ := by decide +kernel
theorem pd_7 : parseMethodDescriptor "()Ljava/lang/String;" = some ⟨[], some (.object "java/lang/String")⟩ := by decide +kernel
theorem tb_0_0 (l : Launch) (Z : State) (a0 : Array Value) (hw : ∀ d ∈ tables_1, d.before a0 Z = true) {p : Program} {e : Env} {s : State} {m : MethodId} {args : Array Value} {below : List Frame} {meth : Method} {c : Code} {T0 : State} {locs0 : List Loc} {vmT : Vm} {h0 : Heap} {n0 kT : Nat} {x0 x1 x2 x3 cs : Int32} {sv : Value} {em dA : Addr} (hC : Com l Z a0 p e s m args below meth c T0 locs0 vmT 10 215 h0 n0 kT x0 x1 x2 x3 cs sv em dA) (p0 p1 p2 p3 p4 p5 : Int32) (sA pk jt sn bA : Addr) (fF : Nat → Int32) (hj0 : Exa Z h0 jt "com/example/bindery/bindery/compiler/JavaType") (hj1 : Fld Z h0 jt "com/example/bindery/bindery/compiler/JavaType" "name" "Ljava/lang/String;" (.ref sn)) (hj2 : Exa Z h0 sn "java/lang/String") (hj3 : Fld Z h0 sn "java/lang/String" "coder" "B" (.int 0)) (hj4 : Fld Z h0 sn "java/lang/String" "value" "[B" (.ref bA)) (hj5 : AV Z h0 bA .byte 0 (fun k => .int (fF k))) (hfit : ∀ k, k < 0 → fits .byte (.int (fF k)) = true)  :
    Go p e below (fun o u => ∃ v L, o = .returned v ∧ Q0 n0 v u.heap L ∧ ReturnedEndW s o u L 32 4288) (T0.setTop (mkF m 218 (LQ p0 p1 p2 p3 p4 p5 0 x0 x1 x2 x3 dA sA pk [sR jt, .unset, .unset, .unset, .unset]) [])) := by
  obtain ⟨X0, hx, hby, hml, hlk, hret, hZ, hown, wS, Z0, e0, N0, hST, hkT, hCH, hx0, hx1, hx2, hx3, hcs, hsv, S_CS, S_SV, S_EM, hold, VD⟩ := hC
  refine Vi (T0.setTop (mkF m 220 (LQ p0 p1 p2 p3 p4 p5 0 x0 x1 x2 x3 dA sA pk [sR jt, .unset, .unset, .unset, .unset]) [(.ref jt)])) (fun tZ kZ => ?_) ?_
  · refine XS.aload X0.here hx rfl (hb hby at_218) rfl rfl ?_
    exact kZ
  obtain ⟨cq1, kq1, q1a, q1b, q1c⟩ := isOf hZ e0 hj0
  obtain ⟨_, _, ⟨T1, L1, k1, n1⟩, -, X1, ⟨Lc1, hQ1, l1, y1, z1⟩, st1⟩ := X0.virtualBack hx (y := y9) (z := y9) hown (mvT hZ (wq hw 54 rfl)) (mvT hZ (wq hw 55 rfl)) (notFace_of_selects (args := #[]) (mvT hZ (wq hw 57 rfl))) (mvT hZ (wq hw 57 rfl)) (mvT hZ (wq hw 56 rfl)) (by decide) (backOf (W := 0) (rm9n0A l Z a0 hw [] jt sn bA fF cs sv 0 h0 n0 Z0 hj0 hj1 hj2 hj3 hj4 hj5 (S_CS.ext hold.2) (S_SV.ext hold.2) hcs hsv (by decide) (by decide) (by decide) (by decide) (own_l0_0 _ _ _ _ )) hZ (wq hw 58 rfl) (wq hw 16 rfl) (by decide) (by decide)) q1a q1c (g := (mkF m 220 (LQ p0 p1 p2 p3 p4 p5 0 x0 x1 x2 x3 dA sA pk [sR jt, .unset, .unset, .unset, .unset]) [(.ref jt)])) rfl (by rw [hml]; rfl) (Steps.refl _) (argsL := []) (rest := []) (lenOf pd_7 rfl) rfl (leW rfl) (hb hby at_220) (fun _ _ => ⟨rfl, e0, (by decide : 10 + 0 ≤ _), (by decide : 215 + 0 ≤ _)⟩)
  dsimp only [Pt.U, Pt.locs, Pt.cells, Pt.slots] at X1 l1 y1 z1 st1 hQ1
  subst l1 y1 z1
  obtain ⟨rfl, N1q, e1⟩ := hQ1
  have N1 := Fr.app N0 N1q
  refine Go.via (fun t k => st1.trans k) ?_
  refine Vi (T1.setTop (mkF m 307 (LQ p0 p1 p2 p3 p4 p5 0 x0 x1 x2 x3 dA sA pk [sR jt, sR sn, sI (-1), sI 0, .unset]) [(.ref sn)])) (fun tZ kZ => ?_) ?_
  · refine XS.astore X1.here hx rfl (hb hby at_223) rfl rfl (l' := (LQ p0 p1 p2 p3 p4 p5 0 x0 x1 x2 x3 dA sA pk [sR jt, sR sn, .unset, .unset, .unset])) rfl ?_
    refine XS.iconst X1.here hx rfl (hb hby at_225) ?_
    refine XS.istore X1.here hx rfl (hb hby at_226) rfl (l' := (LQ p0 p1 p2 p3 p4 p5 0 x0 x1 x2 x3 dA sA pk [sR jt, sR sn, sI (-1), .unset, .unset])) rfl ?_
    refine XS.iload X1.here hx rfl (hb hby at_228) rfl ?_
    refine XS.ifYes X1.here hx rfl (pc0 := 230) (pc' := 243) rfl (hb hby at_230) rfl ((if0 _ _).trans (flt (by decide)).2.2.2) (by decide) (by decide) ?_
    refine XS.iload X1.here hx rfl (hb hby at_243) rfl ?_
    refine XS.iconst X1.here hx rfl (hb hby at_245) ?_
    refine XS.icmpYes X1.here hx rfl (pc0 := 246) (pc' := 259) rfl (hb hby at_246) rfl (flt (by decide)).2.2.2 (by decide) (by decide) ?_
    refine XS.iload X1.here hx rfl (hb hby at_259) rfl ?_
    refine XS.iconst X1.here hx rfl (hb hby at_261) ?_
    refine XS.icmpYes X1.here hx rfl (pc0 := 262) (pc' := 275) rfl (hb hby at_262) rfl (flt (by decide)).2.2.2 (by decide) (by decide) ?_
    refine XS.iload X1.here hx rfl (hb hby at_275) rfl ?_
    refine XS.iconst X1.here hx rfl (hb hby at_277) ?_
    refine XS.icmpYes X1.here hx rfl (pc0 := 278) (pc' := 291) rfl (hb hby at_278) rfl (flt (by decide)).2.2.2 (by decide) (by decide) ?_
    refine XS.iload X1.here hx rfl (hb hby at_291) rfl ?_
    refine XS.iload X1.here hx rfl (hb hby at_293) rfl ?_
    refine XS.isub X1.here hx rfl (hb hby at_295) rfl ?_
    refine XS.iconst X1.here hx rfl (hb hby at_296) ?_
    refine XS.isub X1.here hx rfl (hb hby at_297) rfl ?_
    refine XS.istore X1.here hx rfl (hb hby at_298) rfl (l' := (LQ p0 p1 p2 p3 p4 p5 0 x0 x1 x2 x3 dA sA pk [sR jt, sR sn, sI (-1), sI 0, .unset])) rfl ?_
    refine XS.aload X1.here hx rfl (hb hby at_300) rfl rfl ?_
    refine XS.ifnullNo X1.here hx rfl (hb hby at_302) rfl ?_
    refine XS.aload X1.here hx rfl (hb hby at_305) rfl rfl ?_
    exact kZ
  obtain ⟨cq2, kq2, q2a, q2b, q2c⟩ := isOf hZ e1 hj2
  obtain ⟨_, _, ⟨T2, L2, k2, n2⟩, -, X2, ⟨Lc2, hQ2, l2, y2, z2⟩, st2⟩ := X1.virtualBack hx (y := y11) (z := y11) hown (mvT hZ (wq hw 114 rfl)) (mvT hZ (wq hw 65 rfl)) (notFace_of_selects (args := #[]) (mvT hZ (wq hw 67 rfl))) (mvT hZ (wq hw 67 rfl)) (mvT hZ (wq hw 66 rfl)) (by decide) (backOf (W := 0) (rm11 l Z a0 hw [] sn bA 0 fF cs h0 n0 Z0 hj2 hj3 hj4 hj5 (S_CS.ext hold.2) hcs) hZ (wq hw 68 rfl) (wq hw 7 rfl) (by decide) (by decide)) q2a q2c (g := (mkF m 307 (LQ p0 p1 p2 p3 p4 p5 0 x0 x1 x2 x3 dA sA pk [sR jt, sR sn, sI (-1), sI 0, .unset]) [(.ref sn)])) rfl (by rw [hml]; rfl) (Steps.refl _) (argsL := []) (rest := []) (lenOf pd_9 rfl) rfl (leW rfl) (hb hby at_307) (fun _ _ => ⟨rfl, e1, (by decide : 10 + 0 + 0 ≤ _), (by decide : 215 + 0 + 0 ≤ _)⟩)
  dsimp only [Pt.U, Pt.locs, Pt.cells, Pt.slots] at X2 l2 y2 z2 st2 hQ2
  subst l2 y2 z2
  obtain ⟨rfl, N2q, e2⟩ := hQ2
  have hv2 : (f11 sn bA 0 fF cs) = (Int32.ofNat 0) := by unfold f11; exact own_sh0 _
  rw [hv2] at st2
  have N2 := Fr.app N1 N2q
  refine Go.via (fun t k => st2.trans k) ?_
  refine Vi (T2.setTop (mkF m 457 (LQ p0 p1 p2 p3 p4 p5 0 x0 x1 x2 x3 dA sA pk [sR jt, sR sn, sI (-1), sI 0, sI 1]) [(.int 1)])) (fun tZ kZ => ?_) ?_
  · refine XS.iload X2.here hx rfl (hb hby at_310) rfl ?_
    refine XS.icmpYes X2.here hx rfl (pc0 := 312) (pc' := 317) rfl (hb hby at_312) rfl (teq (by decide)).1 (by decide) (by decide) ?_
    refine XS.iconst X2.here hx rfl (hb hby at_317) ?_
    refine XS.istore X2.here hx rfl (hb hby at_318) rfl (l' := (LQ p0 p1 p2 p3 p4 p5 0 x0 x1 x2 x3 dA sA pk [sR jt, sR sn, sI (-1), sI 0, sI 1])) rfl ?_
    refine XS.iload X2.here hx rfl (hb hby at_320) rfl ?_
    refine XS.ifYes X2.here hx rfl (pc0 := 322) (pc' := 353) rfl (hb hby at_322) rfl ((if0 _ _).trans (flt (by decide)).2.2.2) (by decide) (by decide) ?_
    refine XS.iload X2.here hx rfl (hb hby at_353) rfl ?_
    refine XS.iconst X2.here hx rfl (hb hby at_355) ?_
    refine XS.icmpYes X2.here hx rfl (pc0 := 356) (pc' := 387) rfl (hb hby at_356) rfl (flt (by decide)).2.2.2 (by decide) (by decide) ?_
    refine XS.iload X2.here hx rfl (hb hby at_387) rfl ?_
    refine XS.iconst X2.here hx rfl (hb hby at_389) ?_
    refine XS.icmpYes X2.here hx rfl (pc0 := 390) (pc' := 421) rfl (hb hby at_390) rfl (flt (by decide)).2.2.2 (by decide) (by decide) ?_
    refine XS.iload X2.here hx rfl (hb hby at_421) rfl ?_
    refine XS.iconst X2.here hx rfl (hb hby at_423) ?_
    refine XS.icmpYes X2.here hx rfl (pc0 := 424) (pc' := 455) rfl (hb hby at_424) rfl (flt (by decide)).2.2.2 (by decide) (by decide) ?_
    refine XS.iload X2.here hx rfl (hb hby at_455) rfl ?_
    exact kZ
  refine Go.retNW (s := s) (vm₁ := vmT) X2 hx hST (by rw [e2]; exact hkT) hlk (t := .boolean) hret (by simp) (hb hby at_457) (by decide) (by decide) ?_
  exact ⟨rfl, N2⟩
theorem ta_0 (l : Launch) (Z : State) (a0 : Array Value) (hw : ∀ d ∈ tables_1, d.before a0 Z = true) {p : Program} {e : Env} {s : State} {m : MethodId} {args : Array Value} {below : List Frame} {meth : Method} {c : Code} {T0 : State} {locs0 : List Loc} {vmT : Vm} {h0 : Heap} {n0 kT : Nat} {x0 x1 x2 x3 cs : Int32} {sv : Value} {em dA : Addr} (hC : Com l Z a0 p e s m args below meth c T0 locs0 vmT 4 72 h0 n0 kT x0 x1 x2 x3 cs sv em dA) (p0 p1 p2 p3 p4 p5 : Int32) (sA pk : Addr) (VS : AV Z h0 sA .char 0 (fun k => .int ((fun _ => (0 : Int32)) k))) :
    Go p e below (fun o u => ∃ v L, o = .returned v ∧ Q0 n0 v u.heap L ∧ ReturnedEndW s o u L 32 4288) (T0.setTop (mkF m 198 (LQ p0 p1 p2 p3 p4 p5 0 x0 x1 x2 x3 dA sA pk [.unset, .unset, .unset, .unset, .unset]) [])) := by
  obtain ⟨X0, hx, hby, hml, hlk, hret, hZ, hown, wS, Z0, e0, N0, hST, hkT, hCH, hx0, hx1, hx2, hx3, hcs, hsv, S_CS, S_SV, S_EM, hold, VD⟩ := hC
  obtain ⟨T1, h1, X1, e1, E1, A1, D1, -, st1⟩ := newO X0 hx hZ hown (wq hw 14 rfl) (wq hw 15 rfl) (wq hw 16 rfl) e0 (g := (mkF m 198 (LQ p0 p1 p2 p3 p4 p5 0 x0 x1 x2 x3 dA sA pk [.unset, .unset, .unset, .unset, .unset]) [])) rfl (hb hby at_198) (by decide) (by decide)
  obtain ⟨b1, g1⟩ : ∃ z, z = h0.size := ⟨_, rfl⟩
  rw [← g1] at A1 D1 st1
  have g_b1 : n0 ≤ b1 := Nat.le_trans Z0 (Nat.le_of_eq g1.symm)
  have sz_b1 : h0.size ≤ b1 := Nat.le_trans ((Keep.refl h0 [])).1 (Nat.le_of_eq g1.symm)
  have ne_dA_b1 : dA ≠ b1 := Nat.ne_of_lt (Nat.lt_of_lt_of_le VD.lt (Nat.le_of_eq g1.symm))
  have ne_sA_b1 : sA ≠ b1 := Nat.ne_of_lt (Nat.lt_of_lt_of_le VS.lt (Nat.le_of_eq g1.symm))
  have Ac2 := CHr.ext E1 hCH
  have CR2c := CHr.trans (CHr.refl hCH) Ac2
  have c3_0 := hold.ext E1
  have c3_1 := S_CS.ext c3_0.2
  have c3_2 := S_SV.ext c3_0.2
  have c3_3 := S_EM.ext c3_0.2
  have c3_4 := VD.ext E1
  have c3_5 := VS.ext E1
  have K1 : Keep h0 h1 [] := (Keep.refl h0 []).ext E1
  have Z1 : n0 ≤ h1.size := Nat.le_trans Z0 E1.1
  have hk1 := Nat.le_trans hkT E1.1
  have Sf_b1 := Safe.ext E1 hCH (Safe.new (Nat.le_of_eq g1.symm))
  have F1_packageName : Fld Z h1 b1 "com/example/bindery/bindery/compiler/JavaType" "packageName" "Ljava/lang/String;" .null := D1 (Or.inr (wq hw 49 rfl)) (ty := (.object "java/lang/String")) (by decide)
  have F1_name : Fld Z h1 b1 "com/example/bindery/bindery/compiler/JavaType" "name" "Ljava/lang/String;" .null := D1 (Or.inr (wq hw 51 rfl)) (ty := (.object "java/lang/String")) (by decide)
  have F1_argument : Fld Z h1 b1 "com/example/bindery/bindery/compiler/JavaType" "argument" "Ljava/util/Optional;" .null := D1 (Or.inr (wq hw 53 rfl)) (ty := (.object "java/util/Optional")) (by decide)
  refine Go.via st1 ?_
  refine Vi (T1.setTop (mkF m 204 (LQ p0 p1 p2 p3 p4 p5 0 x0 x1 x2 x3 dA sA pk [.unset, .unset, .unset, .unset, .unset]) [(.ref pk), (.ref b1), (.ref b1)])) (fun tZ kZ => ?_) ?_
  · refine XS.dup X1.here hx rfl (hb hby at_201) rfl rfl ?_
    refine XS.aload X1.here hx rfl (hb hby at_202) rfl rfl ?_
    exact kZ
  obtain ⟨T4, h4, X4, e4, E4, A4, D4, -, st4⟩ := newO X1 hx hZ hown (wq hw 17 rfl) (wq hw 8 rfl) (wq hw 7 rfl) e1 (g := (mkF m 204 (LQ p0 p1 p2 p3 p4 p5 0 x0 x1 x2 x3 dA sA pk [.unset, .unset, .unset, .unset, .unset]) [(.ref pk), (.ref b1), (.ref b1)])) rfl (hb hby at_204) (by decide) (by decide)
  obtain ⟨b4, g4⟩ : ∃ z, z = h1.size := ⟨_, rfl⟩
  rw [← g4] at A4 D4 st4
  have g_b4 : n0 ≤ b4 := Nat.le_trans Z1 (Nat.le_of_eq g4.symm)
  have sz_b4 : h0.size ≤ b4 := Nat.le_trans (K1).1 (Nat.le_of_eq g4.symm)
  have ne_dA_b4 : dA ≠ b4 := Nat.ne_of_lt (Nat.lt_of_lt_of_le c3_4.lt (Nat.le_of_eq g4.symm))
  have ne_sA_b4 : sA ≠ b4 := Nat.ne_of_lt (Nat.lt_of_lt_of_le c3_5.lt (Nat.le_of_eq g4.symm))
  have ne_b1_b4 : b1 ≠ b4 := Nat.ne_of_lt (Nat.lt_of_lt_of_le A1.lt (Nat.le_of_eq g4.symm))
  have Ac5 := CHr.ext E4 Ac2.1
  have Sf5_0 := Ac5.safe A1.lt Sf_b1
  have CR5c := CHr.trans CR2c Ac5
  have c6_0 := c3_0.ext E4
  have c6_1 := S_CS.ext c6_0.2
  have c6_2 := S_SV.ext c6_0.2
  have c6_3 := S_EM.ext c6_0.2
  have c6_4 := c3_4.ext E4
  have c6_5 := c3_5.ext E4
  have c6_7 := A1.ext E4
  have c6_8 := F1_packageName.ext E4
  have c6_9 := F1_name.ext E4
  have c6_10 := F1_argument.ext E4
  have K4 : Keep h0 h4 [] := K1.ext E4
  have Z4 : n0 ≤ h4.size := Nat.le_trans Z1 E4.1
  have hk4 := Nat.le_trans hk1 E4.1
  have Sf_b4 := Safe.ext E4 Ac2.1 (Safe.new (Nat.le_of_eq g4.symm))
  have F4_value : Fld Z h4 b4 "java/lang/String" "value" "[B" .null := D4 (Or.inr (wq hw 10 rfl)) (ty := (.array .byte)) (by decide)
  have F4_coder : Fld Z h4 b4 "java/lang/String" "coder" "B" (.int 0) := D4 (Or.inr (wq hw 11 rfl)) (ty := .byte) (by decide)
  refine Go.via st4 ?_
  refine Vi (T4.setTop (mkF m 210 (LQ p0 p1 p2 p3 p4 p5 0 x0 x1 x2 x3 dA sA pk [.unset, .unset, .unset, .unset, .unset]) [(.ref sA), (.ref b4), (.ref b4), (.ref pk), (.ref b1), (.ref b1)])) (fun tZ kZ => ?_) ?_
  · refine XS.dup X4.here hx rfl (hb hby at_207) rfl rfl ?_
    refine XS.aload X4.here hx rfl (hb hby at_208) rfl rfl ?_
    exact kZ
  obtain ⟨_, _, ⟨T7, L7, k7, n7⟩, -, X7, hS7, -, ⟨Lc7, hQ7, l7, y7, z7, A7⟩, st7⟩ := specialBackS (s := s.setVm vmT) X4 hx (y := y2) rfl hown (mvT hZ (wq hw 18 rfl)) (mvT hZ (wq hw 19 rfl)) (mvT hZ (wq hw 20 rfl)) (by decide) (backOfSH (s := s) (vm0 := vmT) (W := 4) (rm2w l Z a0 hw [] b4 sA (fun _ => (0 : Int32)) h4 n0 Z4 A4 F4_value F4_coder g_b4 c6_5 ne_sA_b4) hZ (wq hw 20 rfl) (wq hw 7 rfl) (by decide) (by decide) (own_EW hw) Ac5.1) (g := (mkF m 210 (LQ p0 p1 p2 p3 p4 p5 0 x0 x1 x2 x3 dA sA pk [.unset, .unset, .unset, .unset, .unset]) [(.ref sA), (.ref b4), (.ref b4), (.ref pk), (.ref b1), (.ref b1)])) rfl (by rw [hml]; rfl) (Steps.refl _) (a := b4) (argsL := [(.ref sA)]) (rest := [(.ref b4), (.ref pk), (.ref b1), (.ref b1)]) (lenOf pd_1 rfl) rfl (leW rfl) (hb hby at_210) (fun _ _ => ⟨rfl, e4, (by decide : 4 + 1 + 1 + 4 ≤ _), (by decide : 72 + 3 + 4 + 136 ≤ _)⟩)
  dsimp only [Pt.U, Pt.locs, Pt.cells, Pt.slots] at X7 hS7 l7 y7 z7 A7 st7 hQ7
  subst l7 y7 z7
  obtain ⟨b7_0, rfl, N7q, Kq7, f7_0, f7_1, f7_2, f7_3, f7_4⟩ := hQ7
  have Sf8_0 := A7.safe c6_7.lt Sf5_0
  have Sf8_1 := A7.safe A4.lt Sf_b4
  have CR8c := CHr.trans CR5c A7
  have c9_0 := c6_0.keep Kq7 (allS g_b4 all0)
  have c9_1 := S_CS.ext c9_0.2
  have c9_2 := S_SV.ext c9_0.2
  have c9_3 := S_EM.ext c9_0.2
  have c9_4 := c6_4.keep Kq7 (ninS ne_dA_b4 nin0)
  have c9_7 := c6_7.keep Kq7
  have c9_8 := c6_8.keep Kq7 (ninS ne_b1_b4 nin0)
  have c9_9 := c6_9.keep Kq7 (ninS ne_b1_b4 nin0)
  have c9_10 := c6_10.keep Kq7 (ninS ne_b1_b4 nin0)
  have K7 : Keep h0 T7.heap [] := K4.trans Kq7 (allS (Or.inr sz_b4) all0)
  have Z7 : n0 ≤ T7.heap.size := Nat.le_trans Z4 Kq7.1
  have ne_b7_0_b1 := AV.neExa f7_4 c9_7 (wq hw 15 rfl)
  have ne_b7_0_b4 := AV.neExa f7_4 f7_0 (wq hw 8 rfl)
  have N7 := Fr.app N0 N7q
  have hS7c : s.Since T7.vm T7.heap.size := State.Since.trans hST hS7 (Nat.le_trans hk4 Kq7.1)
  replace hZ : Z.Warmed39 (s.setVm T7.vm).vm := State.Warmed39.trans (t := s.setVm vmT) hZ hS7.1
  replace hown : (s.setVm T7.vm).vm.findClass "com/example/bindery/bindery/compiler/JavaTypeSimpleNamePinLaw" = some m.cls := by rw [show (s.setVm T7.vm).vm = T7.vm from rfl, hS7.1.alike.findClass]; exact hown
  refine Go.via (fun t k => st7.trans k) ?_
  obtain ⟨fF, hfE⟩ : ∃ f : Nat → Int32, f = (own_t []) := ⟨_, rfl⟩
  rw [← hfE] at f7_4
  have hfit : ∀ k, k < 0 → fits .byte (.int (fF k)) = true := by rw [hfE]; exact (fun k hk => absurd hk (Nat.not_lt_zero k))
  obtain ⟨_, _, ⟨T10, L10, k10, n10⟩, -, X10, ⟨Lc10, hQ10, l10, y10, z10⟩, st10⟩ := X7.specialBack hx (y := y5) rfl hown (mvT hZ (wq hw 31 rfl)) (mvT hZ (wq hw 32 rfl)) (mvT hZ (wq hw 33 rfl)) (by decide) (backOf (W := 1) (rm5 l Z a0 hw [] b1 pk b4 em T7.heap n0 Z7 c9_7 c9_8 c9_9 c9_10 g_b1 c9_3) hZ (wq hw 33 rfl) (wq hw 16 rfl) (by decide) (by decide)) (g := (mkF m 213 (LQ p0 p1 p2 p3 p4 p5 0 x0 x1 x2 x3 dA sA pk [.unset, .unset, .unset, .unset, .unset]) [(.ref b4), (.ref pk), (.ref b1), (.ref b1)])) rfl (by rw [hml]; rfl) (Steps.refl _) (a := b1) (argsL := [(.ref pk), (.ref b4)]) (rest := [(.ref b1)]) (lenOf pd_4 rfl) rfl (leW rfl) (hb hby at_213) (fun _ _ => ⟨rfl, rfl, (by decide : 4 + 1 + 1 + 4 + 0 ≤ _), (by decide : 72 + 3 + 4 + 136 + 0 ≤ _)⟩)
  dsimp only [Pt.U, Pt.locs, Pt.cells, Pt.slots] at X10 l10 y10 z10 st10 hQ10
  subst l10 y10 z10
  obtain ⟨rfl, N10q, Kq10, f10_0, f10_1, f10_2, f10_3, f10_4⟩ := hQ10
  have Ac11 := CHr.keep Kq10 (allS Sf8_0 all0) A7.1
  have Sf11_0 := Ac11.safe c9_7.lt Sf8_0
  have Sf11_1 := Ac11.safe f7_0.lt Sf8_1
  have CR11c := CHr.trans CR8c Ac11
  have c12_0 := c9_0.keep Kq10 (allS g_b1 all0)
  have c12_1 := S_CS.ext c12_0.2
  have c12_2 := S_SV.ext c12_0.2
  have c12_4 := c9_4.keep Kq10 (ninS ne_dA_b1 nin0)
  have c12_11 := f7_0.keep Kq10
  have c12_12 := f7_1.keep Kq10 (ninS (Ne.symm ne_b1_b4) nin0)
  have c12_13 := f7_2.keep Kq10 (ninS (Ne.symm ne_b1_b4) nin0)
  have c12_14 := f7_4.keep Kq10 (ninS ne_b7_0_b1 nin0)
  have K10 : Keep h0 T10.heap [] := K7.trans Kq10 (allS (Or.inr sz_b1) all0)
  have Z10 : n0 ≤ T10.heap.size := Nat.le_trans Z7 Kq10.1
  have hk10 := Nat.le_trans (Nat.le_refl _) Kq10.1
  have N10 := Fr.app N7 N10q
  refine Go.via (fun t k => st10.trans k) ?_
  refine Vi (T10.setTop (mkF m 218 (LQ p0 p1 p2 p3 p4 p5 0 x0 x1 x2 x3 dA sA pk [sR b1, .unset, .unset, .unset, .unset]) [])) (fun tZ kZ => ?_) ?_
  · refine XS.astore X10.here hx rfl (hb hby at_216) rfl rfl (l' := (LQ p0 p1 p2 p3 p4 p5 0 x0 x1 x2 x3 dA sA pk [sR b1, .unset, .unset, .unset, .unset])) rfl ?_
    exact kZ
  exact tb_0_0 l Z a0 hw (s := s) (vmT := T7.vm) ⟨X10, hx, hby, hml, hlk, hret, hZ, hown, wS, Z10, rfl, N10, hS7c, hk10, Ac11.1, hx0, hx1, hx2, hx3, hcs, hsv, S_CS, S_SV, S_EM, c12_0, c12_4⟩ p0 p1 p2 p3 p4 p5 sA pk b1 b4 b7_0 fF f10_0 f10_2 c12_11 c12_13 c12_12 c12_14 hfit 
theorem pd_27 : parseMethodDescriptor "(I)C" = some ⟨[.int], some .char⟩ := by decide +kernel
theorem tb_1_0 (l : Launch) (Z : State) (a0 : Array Value) (hw : ∀ d ∈ tables_1, d.before a0 Z = true) {p : Program} {e : Env} {s : State} {m : MethodId} {args : Array Value} {below : List Frame} {meth : Method} {c : Code} {T0 : State} {locs0 : List Loc} {vmT : Vm} {h0 : Heap} {n0 kT : Nat} {x0 x1 x2 x3 cs : Int32} {sv : Value} {em dA : Addr} (hC : Com l Z a0 p e s m args below meth c T0 locs0 vmT 7 81 h0 n0 kT x0 x1 x2 x3 cs sv em dA) (p0 p1 p2 p3 p4 p5 : Int32) (sA pk jt sn bA : Addr) (fF : Nat → Int32) (hj0 : Exa Z h0 jt "com/example/bindery/bindery/compiler/JavaType") (hj1 : Fld Z h0 jt "com/example/bindery/bindery/compiler/JavaType" "name" "Ljava/lang/String;" (.ref sn)) (hj2 : Exa Z h0 sn "java/lang/String") (hj3 : Fld Z h0 sn "java/lang/String" "coder" "B" (.int 0)) (hj4 : Fld Z h0 sn "java/lang/String" "value" "[B" (.ref bA)) (hj5 : AV Z h0 bA .byte 1 (fun k => .int (fF k))) (hfit : ∀ k, k < 1 → fits .byte (.int (fF k)) = true) (hf0 : fF (0 : Int32).toNatClampNeg = nar .byte ((nar .char x0).toInt8.toInt32)) (hd0 : ¬ x0 = 46) :
    Go p e below (fun o u => ∃ v L, o = .returned v ∧ Q0 n0 v u.heap L ∧ ReturnedEndW s o u L 32 4288) (T0.setTop (mkF m 218 (LQ p0 p1 p2 p3 p4 p5 1 x0 x1 x2 x3 dA sA pk [sR jt, .unset, .unset, .unset, .unset]) [])) := by
  obtain ⟨X0, hx, hby, hml, hlk, hret, hZ, hown, wS, Z0, e0, N0, hST, hkT, hCH, hx0, hx1, hx2, hx3, hcs, hsv, S_CS, S_SV, S_EM, hold, VD⟩ := hC
  refine Vi (T0.setTop (mkF m 220 (LQ p0 p1 p2 p3 p4 p5 1 x0 x1 x2 x3 dA sA pk [sR jt, .unset, .unset, .unset, .unset]) [(.ref jt)])) (fun tZ kZ => ?_) ?_
  · refine XS.aload X0.here hx rfl (hb hby at_218) rfl rfl ?_
    exact kZ
  obtain ⟨cq1, kq1, q1a, q1b, q1c⟩ := isOf hZ e0 hj0
  obtain ⟨_, _, ⟨T1, L1, k1, n1⟩, -, X1, ⟨Lc1, hQ1, l1, y1, z1⟩, st1⟩ := X0.virtualBack hx (y := y9) (z := y9) hown (mvT hZ (wq hw 54 rfl)) (mvT hZ (wq hw 55 rfl)) (notFace_of_selects (args := #[]) (mvT hZ (wq hw 57 rfl))) (mvT hZ (wq hw 57 rfl)) (mvT hZ (wq hw 56 rfl)) (by decide) (backOf (W := 0) (rm9n1A l Z a0 hw [] jt sn bA fF cs sv 0 h0 n0 Z0 hj0 hj1 hj2 hj3 hj4 hj5 (S_CS.ext hold.2) (S_SV.ext hold.2) hcs hsv (by decide) (by decide) (by decide) (by decide) (own_l1_0 _ _ _ _ (by rw [hf0]; exact own_ndot hx0 hd0))) hZ (wq hw 58 rfl) (wq hw 16 rfl) (by decide) (by decide)) q1a q1c (g := (mkF m 220 (LQ p0 p1 p2 p3 p4 p5 1 x0 x1 x2 x3 dA sA pk [sR jt, .unset, .unset, .unset, .unset]) [(.ref jt)])) rfl (by rw [hml]; rfl) (Steps.refl _) (argsL := []) (rest := []) (lenOf pd_7 rfl) rfl (leW rfl) (hb hby at_220) (fun _ _ => ⟨rfl, e0, (by decide : 7 + 0 ≤ _), (by decide : 81 + 0 ≤ _)⟩)
  dsimp only [Pt.U, Pt.locs, Pt.cells, Pt.slots] at X1 l1 y1 z1 st1 hQ1
  subst l1 y1 z1
  obtain ⟨rfl, N1q, e1⟩ := hQ1
  have N1 := Fr.app N0 N1q
  refine Go.via (fun t k => st1.trans k) ?_
  refine Vi (T1.setTop (mkF m 307 (LQ p0 p1 p2 p3 p4 p5 1 x0 x1 x2 x3 dA sA pk [sR jt, sR sn, sI (-1), sI 1, .unset]) [(.ref sn)])) (fun tZ kZ => ?_) ?_
  · refine XS.astore X1.here hx rfl (hb hby at_223) rfl rfl (l' := (LQ p0 p1 p2 p3 p4 p5 1 x0 x1 x2 x3 dA sA pk [sR jt, sR sn, .unset, .unset, .unset])) rfl ?_
    refine XS.iconst X1.here hx rfl (hb hby at_225) ?_
    refine XS.istore X1.here hx rfl (hb hby at_226) rfl (l' := (LQ p0 p1 p2 p3 p4 p5 1 x0 x1 x2 x3 dA sA pk [sR jt, sR sn, sI (-1), .unset, .unset])) rfl ?_
    refine XS.iload X1.here hx rfl (hb hby at_228) rfl ?_
    refine XS.ifNo X1.here hx rfl (hb hby at_230) rfl ((if0 _ _).trans (tlt (by decide)).2.2.2) ?_
    refine XS.iload X1.here hx rfl (hb hby at_233) rfl ?_
    refine XS.bipush X1.here hx rfl (hb hby at_235) ?_
    refine XS.icmpYes X1.here hx rfl (pc0 := 237) (pc' := 243) rfl (hb hby at_237) rfl (feq hd0).2 (by decide) (by decide) ?_
    refine XS.iload X1.here hx rfl (hb hby at_243) rfl ?_
    refine XS.iconst X1.here hx rfl (hb hby at_245) ?_
    refine XS.icmpYes X1.here hx rfl (pc0 := 246) (pc' := 259) rfl (hb hby at_246) rfl (flt (by decide)).2.2.2 (by decide) (by decide) ?_
    refine XS.iload X1.here hx rfl (hb hby at_259) rfl ?_
    refine XS.iconst X1.here hx rfl (hb hby at_261) ?_
    refine XS.icmpYes X1.here hx rfl (pc0 := 262) (pc' := 275) rfl (hb hby at_262) rfl (flt (by decide)).2.2.2 (by decide) (by decide) ?_
    refine XS.iload X1.here hx rfl (hb hby at_275) rfl ?_
    refine XS.iconst X1.here hx rfl (hb hby at_277) ?_
    refine XS.icmpYes X1.here hx rfl (pc0 := 278) (pc' := 291) rfl (hb hby at_278) rfl (flt (by decide)).2.2.2 (by decide) (by decide) ?_
    refine XS.iload X1.here hx rfl (hb hby at_291) rfl ?_
    refine XS.iload X1.here hx rfl (hb hby at_293) rfl ?_
    refine XS.isub X1.here hx rfl (hb hby at_295) rfl ?_
    refine XS.iconst X1.here hx rfl (hb hby at_296) ?_
    refine XS.isub X1.here hx rfl (hb hby at_297) rfl ?_
    refine XS.istore X1.here hx rfl (hb hby at_298) rfl (l' := (LQ p0 p1 p2 p3 p4 p5 1 x0 x1 x2 x3 dA sA pk [sR jt, sR sn, sI (-1), sI 1, .unset])) rfl ?_
    refine XS.aload X1.here hx rfl (hb hby at_300) rfl rfl ?_
    refine XS.ifnullNo X1.here hx rfl (hb hby at_302) rfl ?_
    refine XS.aload X1.here hx rfl (hb hby at_305) rfl rfl ?_
    exact kZ
  obtain ⟨cq2, kq2, q2a, q2b, q2c⟩ := isOf hZ e1 hj2
  obtain ⟨_, _, ⟨T2, L2, k2, n2⟩, -, X2, ⟨Lc2, hQ2, l2, y2, z2⟩, st2⟩ := X1.virtualBack hx (y := y11) (z := y11) hown (mvT hZ (wq hw 114 rfl)) (mvT hZ (wq hw 65 rfl)) (notFace_of_selects (args := #[]) (mvT hZ (wq hw 67 rfl))) (mvT hZ (wq hw 67 rfl)) (mvT hZ (wq hw 66 rfl)) (by decide) (backOf (W := 0) (rm11 l Z a0 hw [] sn bA 1 fF cs h0 n0 Z0 hj2 hj3 hj4 hj5 (S_CS.ext hold.2) hcs) hZ (wq hw 68 rfl) (wq hw 7 rfl) (by decide) (by decide)) q2a q2c (g := (mkF m 307 (LQ p0 p1 p2 p3 p4 p5 1 x0 x1 x2 x3 dA sA pk [sR jt, sR sn, sI (-1), sI 1, .unset]) [(.ref sn)])) rfl (by rw [hml]; rfl) (Steps.refl _) (argsL := []) (rest := []) (lenOf pd_9 rfl) rfl (leW rfl) (hb hby at_307) (fun _ _ => ⟨rfl, e1, (by decide : 7 + 0 + 0 ≤ _), (by decide : 81 + 0 + 0 ≤ _)⟩)
  dsimp only [Pt.U, Pt.locs, Pt.cells, Pt.slots] at X2 l2 y2 z2 st2 hQ2
  subst l2 y2 z2
  obtain ⟨rfl, N2q, e2⟩ := hQ2
  have hv2 : (f11 sn bA 1 fF cs) = (Int32.ofNat 1) := by unfold f11; exact own_sh0 _
  rw [hv2] at st2
  have N2 := Fr.app N1 N2q
  refine Go.via (fun t k => st2.trans k) ?_
  refine Vi (T2.setTop (mkF m 333 (LQ p0 p1 p2 p3 p4 p5 1 x0 x1 x2 x3 dA sA pk [sR jt, sR sn, sI (-1), sI 1, sI 1]) [(.int 0), (.ref sn)])) (fun tZ kZ => ?_) ?_
  · refine XS.iload X2.here hx rfl (hb hby at_310) rfl ?_
    refine XS.icmpYes X2.here hx rfl (pc0 := 312) (pc' := 317) rfl (hb hby at_312) rfl (teq (by decide)).1 (by decide) (by decide) ?_
    refine XS.iconst X2.here hx rfl (hb hby at_317) ?_
    refine XS.istore X2.here hx rfl (hb hby at_318) rfl (l' := (LQ p0 p1 p2 p3 p4 p5 1 x0 x1 x2 x3 dA sA pk [sR jt, sR sn, sI (-1), sI 1, sI 1])) rfl ?_
    refine XS.iload X2.here hx rfl (hb hby at_320) rfl ?_
    refine XS.ifNo X2.here hx rfl (hb hby at_322) rfl ((if0 _ _).trans (tlt (by decide)).2.2.2) ?_
    refine XS.iload X2.here hx rfl (hb hby at_325) rfl ?_
    refine XS.ifNo X2.here hx rfl (hb hby at_327) rfl ((if0 _ _).trans (feq (by decide)).1) ?_
    refine XS.aload X2.here hx rfl (hb hby at_330) rfl rfl ?_
    refine XS.iconst X2.here hx rfl (hb hby at_332) ?_
    exact kZ
  obtain ⟨cq3, kq3, q3a, q3b, q3c⟩ := isOf hZ e2 hj2
  obtain ⟨_, _, ⟨T3, L3, k3, n3⟩, -, X3, ⟨Lc3, hQ3, l3, y3, z3⟩, st3⟩ := X2.virtualBack hx (y := y30) (z := y30) hown (mvT hZ (wq hw 147 rfl)) (mvT hZ (wq hw 148 rfl)) (notFace_of_selects (args := #[]) (mvT hZ (wq hw 150 rfl))) (mvT hZ (wq hw 150 rfl)) (mvT hZ (wq hw 149 rfl)) (by decide) (backOf (W := 0) (rm30 l Z a0 hw [] sn (0 : Int32) bA 1 fF cs sv h0 n0 Z0 hj2 hj3 hj4 hj5 (S_CS.ext hold.2) (S_SV.ext hold.2) hcs (by decide) (by decide) (by decide) hsv) hZ (wq hw 151 rfl) (wq hw 7 rfl) (by decide) (by decide)) q3a q3c (g := (mkF m 333 (LQ p0 p1 p2 p3 p4 p5 1 x0 x1 x2 x3 dA sA pk [sR jt, sR sn, sI (-1), sI 1, sI 1]) [(.int 0), (.ref sn)])) rfl (by rw [hml]; rfl) (Steps.refl _) (argsL := [(.int 0)]) (rest := []) (lenOf pd_27 rfl) rfl (leW rfl) (hb hby at_333) (fun _ _ => ⟨rfl, e2, (by decide : 7 + 0 + 0 + 0 ≤ _), (by decide : 81 + 0 + 0 + 0 ≤ _)⟩)
  dsimp only [Pt.U, Pt.locs, Pt.cells, Pt.slots] at X3 l3 y3 z3 st3 hQ3
  subst l3 y3 z3
  obtain ⟨rfl, N3q, e3⟩ := hQ3
  have N3 := Fr.app N2 N3q
  refine Go.via (fun t k => st3.trans k) ?_
  refine Vi (T3.setTop (mkF m 457 (LQ p0 p1 p2 p3 p4 p5 1 x0 x1 x2 x3 dA sA pk [sR jt, sR sn, sI (-1), sI 1, sI 1]) [(.int 1)])) (fun tZ kZ => ?_) ?_
  · refine XS.aload X3.here hx rfl (hb hby at_336) rfl rfl ?_
    refine XS.iload X3.here hx rfl (hb hby at_338) rfl ?_
    refine XS.iconst X3.here hx rfl (hb hby at_340) ?_
    refine XS.iadd X3.here hx rfl (hb hby at_341) rfl ?_
    refine AV.caload VD X3 hx hZ e3 (j := (0 : Int32)) (by decide) (hb hby at_342) ?_
    refine XS.icmpNo X3.here hx rfl (hb hby at_343) rfl (teq (own_rt3 hx0 hf0)).2 ?_
    refine XS.iconst X3.here hx rfl (hb hby at_346) ?_
    refine XS.goto X3.here hx rfl (pc0 := 347) (pc' := 351) rfl (hb hby at_347) (by decide) (by decide) ?_
    refine XS.istore X3.here hx rfl (hb hby at_351) rfl (l' := (LQ p0 p1 p2 p3 p4 p5 1 x0 x1 x2 x3 dA sA pk [sR jt, sR sn, sI (-1), sI 1, sI 1])) rfl ?_
    refine XS.iload X3.here hx rfl (hb hby at_353) rfl ?_
    refine XS.iconst X3.here hx rfl (hb hby at_355) ?_
    refine XS.icmpYes X3.here hx rfl (pc0 := 356) (pc' := 387) rfl (hb hby at_356) rfl (flt (by decide)).2.2.2 (by decide) (by decide) ?_
    refine XS.iload X3.here hx rfl (hb hby at_387) rfl ?_
    refine XS.iconst X3.here hx rfl (hb hby at_389) ?_
    refine XS.icmpYes X3.here hx rfl (pc0 := 390) (pc' := 421) rfl (hb hby at_390) rfl (flt (by decide)).2.2.2 (by decide) (by decide) ?_
    refine XS.iload X3.here hx rfl (hb hby at_421) rfl ?_
    refine XS.iconst X3.here hx rfl (hb hby at_423) ?_
    refine XS.icmpYes X3.here hx rfl (pc0 := 424) (pc' := 455) rfl (hb hby at_424) rfl (flt (by decide)).2.2.2 (by decide) (by decide) ?_
    refine XS.iload X3.here hx rfl (hb hby at_455) rfl ?_
    exact kZ
  refine Go.retNW (s := s) (vm₁ := vmT) X3 hx hST (by rw [e3]; exact hkT) hlk (t := .boolean) hret (by simp) (hb hby at_457) (by decide) (by decide) ?_
  exact ⟨rfl, N3⟩
theorem tb_1_1 (l : Launch) (Z : State) (a0 : Array Value) (hw : ∀ d ∈ tables_1, d.before a0 Z = true) {p : Program} {e : Env} {s : State} {m : MethodId} {args : Array Value} {below : List Frame} {meth : Method} {c : Code} {T0 : State} {locs0 : List Loc} {vmT : Vm} {h0 : Heap} {n0 kT : Nat} {x0 x1 x2 x3 cs : Int32} {sv : Value} {em dA : Addr} (hC : Com l Z a0 p e s m args below meth c T0 locs0 vmT 7 81 h0 n0 kT x0 x1 x2 x3 cs sv em dA) (p0 p1 p2 p3 p4 p5 : Int32) (sA pk jt sn bA : Addr) (fF : Nat → Int32) (hj0 : Exa Z h0 jt "com/example/bindery/bindery/compiler/JavaType") (hj1 : Fld Z h0 jt "com/example/bindery/bindery/compiler/JavaType" "name" "Ljava/lang/String;" (.ref sn)) (hj2 : Exa Z h0 sn "java/lang/String") (hj3 : Fld Z h0 sn "java/lang/String" "coder" "B" (.int 0)) (hj4 : Fld Z h0 sn "java/lang/String" "value" "[B" (.ref bA)) (hj5 : AV Z h0 bA .byte 1 (fun k => .int (fF k))) (hfit : ∀ k, k < 1 → fits .byte (.int (fF k)) = true) (hf0 : fF (0 : Int32).toNatClampNeg = nar .byte ((nar .char x0).toInt8.toInt32)) (hd0 : x0 = 46) :
    Go p e below (fun o u => ∃ v L, o = .returned v ∧ Q0 n0 v u.heap L ∧ ReturnedEndW s o u L 32 4288) (T0.setTop (mkF m 218 (LQ p0 p1 p2 p3 p4 p5 1 x0 x1 x2 x3 dA sA pk [sR jt, .unset, .unset, .unset, .unset]) [])) := by
  obtain ⟨X0, hx, hby, hml, hlk, hret, hZ, hown, wS, Z0, e0, N0, hST, hkT, hCH, hx0, hx1, hx2, hx3, hcs, hsv, S_CS, S_SV, S_EM, hold, VD⟩ := hC
  refine Vi (T0.setTop (mkF m 220 (LQ p0 p1 p2 p3 p4 p5 1 x0 x1 x2 x3 dA sA pk [sR jt, .unset, .unset, .unset, .unset]) [(.ref jt)])) (fun tZ kZ => ?_) ?_
  · refine XS.aload X0.here hx rfl (hb hby at_218) rfl rfl ?_
    exact kZ
  obtain ⟨cq1, kq1, q1a, q1b, q1c⟩ := isOf hZ e0 hj0
  obtain ⟨_, _, ⟨T1, L1, k1, n1⟩, -, X1, hS1, -, ⟨Lc1, hQ1, l1, y1, z1, A1⟩, st1⟩ := virtualBackS (s := s.setVm vmT) X0 hx (y := y9) (z := y9) hown (mvT hZ (wq hw 54 rfl)) (mvT hZ (wq hw 55 rfl)) (notFace_of_selects (args := #[]) (mvT hZ (wq hw 57 rfl))) (mvT hZ (wq hw 57 rfl)) (mvT hZ (wq hw 56 rfl)) (by decide) (backOfSH (s := s) (vm0 := vmT) (W := 0) (rm9n1B l Z a0 hw [] jt sn bA fF cs sv 1 h0 n0 Z0 hj0 hj1 hj2 hj3 hj4 hj5 (S_CS.ext hold.2) (S_SV.ext hold.2) hcs hsv (by decide) (by decide) (by decide) (by decide) (by decide) (own_l1_1 _ _ _ _ (by rw [hf0]; exact own_dot hd0))) hZ (wq hw 58 rfl) (wq hw 16 rfl) (by decide) (by decide) (own_EW hw) hCH) q1a q1c (g := (mkF m 220 (LQ p0 p1 p2 p3 p4 p5 1 x0 x1 x2 x3 dA sA pk [sR jt, .unset, .unset, .unset, .unset]) [(.ref jt)])) rfl (by rw [hml]; rfl) (Steps.refl _) (argsL := []) (rest := []) (lenOf pd_7 rfl) rfl (leW rfl) (hb hby at_220) (fun _ _ => ⟨rfl, e0, (by decide : 7 + 2 ≤ _), (by decide : 81 + 68 ≤ _)⟩)
  dsimp only [Pt.U, Pt.locs, Pt.cells, Pt.slots] at X1 hS1 l1 y1 z1 A1 st1 hQ1
  subst l1 y1 z1
  obtain ⟨b1_0, b1_1, rfl, N1q, Kq1, f1_0, f1_1, f1_2, f1_3, f1_4, f1_5, f1_6, f1_7, f1_8, f1_9, f1_10, f1_11⟩ := hQ1
  have CR2c := CHr.trans (CHr.refl hCH) A1
  have c3_0 := hold.keep Kq1 all0
  have c3_3 := S_EM.ext c3_0.2
  have c3_4 := VD.keep Kq1 nin0
  have K1 : Keep h0 T1.heap [] := (Keep.refl h0 []).trans Kq1 all0
  have Z1 : n0 ≤ T1.heap.size := Nat.le_trans Z0 Kq1.1
  have ne_b1_1_jt := AV.neExa f1_11 f1_0 (wq hw 15 rfl)
  have ne_b1_1_sn := AV.neExa f1_11 f1_2 (wq hw 8 rfl)
  have ne_b1_1_b1_0 := AV.neExa f1_11 f1_8 (wq hw 8 rfl)
  have N1 := Fr.app N0 N1q
  have hS1c : s.Since T1.vm T1.heap.size := State.Since.trans hST hS1 (Nat.le_trans hkT Kq1.1)
  replace hZ : Z.Warmed39 (s.setVm T1.vm).vm := State.Warmed39.trans (t := s.setVm vmT) hZ hS1.1
  replace hown : (s.setVm T1.vm).vm.findClass "com/example/bindery/bindery/compiler/JavaTypeSimpleNamePinLaw" = some m.cls := by rw [show (s.setVm T1.vm).vm = T1.vm from rfl, hS1.1.alike.findClass]; exact hown
  refine Go.via (fun t k => st1.trans k) ?_
  refine Vi (T1.setTop (mkF m 307 (LQ p0 p1 p2 p3 p4 p5 1 x0 x1 x2 x3 dA sA pk [sR jt, sR b1_0, sI 0, sI 0, .unset]) [(.ref b1_0)])) (fun tZ kZ => ?_) ?_
  · refine XS.astore X1.here hx rfl (hb hby at_223) rfl rfl (l' := (LQ p0 p1 p2 p3 p4 p5 1 x0 x1 x2 x3 dA sA pk [sR jt, sR b1_0, .unset, .unset, .unset])) rfl ?_
    refine XS.iconst X1.here hx rfl (hb hby at_225) ?_
    refine XS.istore X1.here hx rfl (hb hby at_226) rfl (l' := (LQ p0 p1 p2 p3 p4 p5 1 x0 x1 x2 x3 dA sA pk [sR jt, sR b1_0, sI (-1), .unset, .unset])) rfl ?_
    refine XS.iload X1.here hx rfl (hb hby at_228) rfl ?_
    refine XS.ifNo X1.here hx rfl (hb hby at_230) rfl ((if0 _ _).trans (tlt (by decide)).2.2.2) ?_
    refine XS.iload X1.here hx rfl (hb hby at_233) rfl ?_
    refine XS.bipush X1.here hx rfl (hb hby at_235) ?_
    refine XS.icmpNo X1.here hx rfl (hb hby at_237) rfl (teq hd0).2 ?_
    refine XS.iconst X1.here hx rfl (hb hby at_240) ?_
    refine XS.istore X1.here hx rfl (hb hby at_241) rfl (l' := (LQ p0 p1 p2 p3 p4 p5 1 x0 x1 x2 x3 dA sA pk [sR jt, sR b1_0, sI 0, .unset, .unset])) rfl ?_
    refine XS.iload X1.here hx rfl (hb hby at_243) rfl ?_
    refine XS.iconst X1.here hx rfl (hb hby at_245) ?_
    refine XS.icmpYes X1.here hx rfl (pc0 := 246) (pc' := 259) rfl (hb hby at_246) rfl (flt (by decide)).2.2.2 (by decide) (by decide) ?_
    refine XS.iload X1.here hx rfl (hb hby at_259) rfl ?_
    refine XS.iconst X1.here hx rfl (hb hby at_261) ?_
    refine XS.icmpYes X1.here hx rfl (pc0 := 262) (pc' := 275) rfl (hb hby at_262) rfl (flt (by decide)).2.2.2 (by decide) (by decide) ?_
    refine XS.iload X1.here hx rfl (hb hby at_275) rfl ?_
    refine XS.iconst X1.here hx rfl (hb hby at_277) ?_
    refine XS.icmpYes X1.here hx rfl (pc0 := 278) (pc' := 291) rfl (hb hby at_278) rfl (flt (by decide)).2.2.2 (by decide) (by decide) ?_
    refine XS.iload X1.here hx rfl (hb hby at_291) rfl ?_
    refine XS.iload X1.here hx rfl (hb hby at_293) rfl ?_
    refine XS.isub X1.here hx rfl (hb hby at_295) rfl ?_
    refine XS.iconst X1.here hx rfl (hb hby at_296) ?_
    refine XS.isub X1.here hx rfl (hb hby at_297) rfl ?_
    refine XS.istore X1.here hx rfl (hb hby at_298) rfl (l' := (LQ p0 p1 p2 p3 p4 p5 1 x0 x1 x2 x3 dA sA pk [sR jt, sR b1_0, sI 0, sI 0, .unset])) rfl ?_
    refine XS.aload X1.here hx rfl (hb hby at_300) rfl rfl ?_
    refine XS.ifnullNo X1.here hx rfl (hb hby at_302) rfl ?_
    refine XS.aload X1.here hx rfl (hb hby at_305) rfl rfl ?_
    exact kZ
  obtain ⟨cq4, kq4, q4a, q4b, q4c⟩ := isOf hZ rfl f1_8
  obtain ⟨_, _, ⟨T4, L4, k4, n4⟩, -, X4, ⟨Lc4, hQ4, l4, y4, z4⟩, st4⟩ := X1.virtualBack hx (y := y11) (z := y11) hown (mvT hZ (wq hw 114 rfl)) (mvT hZ (wq hw 65 rfl)) (notFace_of_selects (args := #[]) (mvT hZ (wq hw 67 rfl))) (mvT hZ (wq hw 67 rfl)) (mvT hZ (wq hw 66 rfl)) (by decide) (backOf (W := 0) (rm11 l Z a0 hw [] b1_0 b1_1 0 (own_t []) cs T1.heap n0 Z1 f1_8 f1_9 f1_10 f1_11 f1_6 hcs) hZ (wq hw 68 rfl) (wq hw 7 rfl) (by decide) (by decide)) q4a q4c (g := (mkF m 307 (LQ p0 p1 p2 p3 p4 p5 1 x0 x1 x2 x3 dA sA pk [sR jt, sR b1_0, sI 0, sI 0, .unset]) [(.ref b1_0)])) rfl (by rw [hml]; rfl) (Steps.refl _) (argsL := []) (rest := []) (lenOf pd_9 rfl) rfl (leW rfl) (hb hby at_307) (fun _ _ => ⟨rfl, rfl, (by decide : 7 + 2 + 0 ≤ _), (by decide : 81 + 68 + 0 ≤ _)⟩)
  dsimp only [Pt.U, Pt.locs, Pt.cells, Pt.slots] at X4 l4 y4 z4 st4 hQ4
  subst l4 y4 z4
  obtain ⟨rfl, N4q, e4⟩ := hQ4
  have hv4 : (f11 b1_0 b1_1 0 (own_t []) cs) = (Int32.ofNat 0) := by unfold f11; exact own_sh0 _
  rw [hv4] at st4
  have N4 := Fr.app N1 N4q
  refine Go.via (fun t k => st4.trans k) ?_
  refine Vi (T4.setTop (mkF m 457 (LQ p0 p1 p2 p3 p4 p5 1 x0 x1 x2 x3 dA sA pk [sR jt, sR b1_0, sI 0, sI 0, sI 1]) [(.int 1)])) (fun tZ kZ => ?_) ?_
  · refine XS.iload X4.here hx rfl (hb hby at_310) rfl ?_
    refine XS.icmpYes X4.here hx rfl (pc0 := 312) (pc' := 317) rfl (hb hby at_312) rfl (teq (by decide)).1 (by decide) (by decide) ?_
    refine XS.iconst X4.here hx rfl (hb hby at_317) ?_
    refine XS.istore X4.here hx rfl (hb hby at_318) rfl (l' := (LQ p0 p1 p2 p3 p4 p5 1 x0 x1 x2 x3 dA sA pk [sR jt, sR b1_0, sI 0, sI 0, sI 1])) rfl ?_
    refine XS.iload X4.here hx rfl (hb hby at_320) rfl ?_
    refine XS.ifYes X4.here hx rfl (pc0 := 322) (pc' := 353) rfl (hb hby at_322) rfl ((if0 _ _).trans (flt (by decide)).2.2.2) (by decide) (by decide) ?_
    refine XS.iload X4.here hx rfl (hb hby at_353) rfl ?_
    refine XS.iconst X4.here hx rfl (hb hby at_355) ?_
    refine XS.icmpYes X4.here hx rfl (pc0 := 356) (pc' := 387) rfl (hb hby at_356) rfl (flt (by decide)).2.2.2 (by decide) (by decide) ?_
    refine XS.iload X4.here hx rfl (hb hby at_387) rfl ?_
    refine XS.iconst X4.here hx rfl (hb hby at_389) ?_
    refine XS.icmpYes X4.here hx rfl (pc0 := 390) (pc' := 421) rfl (hb hby at_390) rfl (flt (by decide)).2.2.2 (by decide) (by decide) ?_
    refine XS.iload X4.here hx rfl (hb hby at_421) rfl ?_
    refine XS.iconst X4.here hx rfl (hb hby at_423) ?_
    refine XS.icmpYes X4.here hx rfl (pc0 := 424) (pc' := 455) rfl (hb hby at_424) rfl (flt (by decide)).2.2.2 (by decide) (by decide) ?_
    refine XS.iload X4.here hx rfl (hb hby at_455) rfl ?_
    exact kZ
  refine Go.retNW (s := s) (vm₁ := T1.vm) X4 hx hS1c (by rw [e4]; exact (Nat.le_refl _)) hlk (t := .boolean) hret (by simp) (hb hby at_457) (by decide) (by decide) ?_
  exact ⟨rfl, N4⟩
theorem ta_1 (l : Launch) (Z : State) (a0 : Array Value) (hw : ∀ d ∈ tables_1, d.before a0 Z = true) {p : Program} {e : Env} {s : State} {m : MethodId} {args : Array Value} {below : List Frame} {meth : Method} {c : Code} {T0 : State} {locs0 : List Loc} {vmT : Vm} {h0 : Heap} {n0 kT : Nat} {x0 x1 x2 x3 cs : Int32} {sv : Value} {em dA : Addr} (hC : Com l Z a0 p e s m args below meth c T0 locs0 vmT 4 73 h0 n0 kT x0 x1 x2 x3 cs sv em dA) (p0 p1 p2 p3 p4 p5 : Int32) (sA pk : Addr) (VS : AV Z h0 sA .char 1 (fun k => .int ((up (fun _ => (0 : Int32)) (0 : Int32).toNatClampNeg (nar .char x0)) k))) :
    Go p e below (fun o u => ∃ v L, o = .returned v ∧ Q0 n0 v u.heap L ∧ ReturnedEndW s o u L 32 4288) (T0.setTop (mkF m 198 (LQ p0 p1 p2 p3 p4 p5 1 x0 x1 x2 x3 dA sA pk [.unset, .unset, .unset, .unset, .unset]) [])) := by
  obtain ⟨X0, hx, hby, hml, hlk, hret, hZ, hown, wS, Z0, e0, N0, hST, hkT, hCH, hx0, hx1, hx2, hx3, hcs, hsv, S_CS, S_SV, S_EM, hold, VD⟩ := hC
  obtain ⟨T1, h1, X1, e1, E1, A1, D1, -, st1⟩ := newO X0 hx hZ hown (wq hw 14 rfl) (wq hw 15 rfl) (wq hw 16 rfl) e0 (g := (mkF m 198 (LQ p0 p1 p2 p3 p4 p5 1 x0 x1 x2 x3 dA sA pk [.unset, .unset, .unset, .unset, .unset]) [])) rfl (hb hby at_198) (by decide) (by decide)
  obtain ⟨b1, g1⟩ : ∃ z, z = h0.size := ⟨_, rfl⟩
  rw [← g1] at A1 D1 st1
  have g_b1 : n0 ≤ b1 := Nat.le_trans Z0 (Nat.le_of_eq g1.symm)
  have sz_b1 : h0.size ≤ b1 := Nat.le_trans ((Keep.refl h0 [])).1 (Nat.le_of_eq g1.symm)
  have ne_dA_b1 : dA ≠ b1 := Nat.ne_of_lt (Nat.lt_of_lt_of_le VD.lt (Nat.le_of_eq g1.symm))
  have ne_sA_b1 : sA ≠ b1 := Nat.ne_of_lt (Nat.lt_of_lt_of_le VS.lt (Nat.le_of_eq g1.symm))
  have Ac2 := CHr.ext E1 hCH
  have CR2c := CHr.trans (CHr.refl hCH) Ac2
  have c3_0 := hold.ext E1
  have c3_1 := S_CS.ext c3_0.2
  have c3_2 := S_SV.ext c3_0.2
  have c3_3 := S_EM.ext c3_0.2
  have c3_4 := VD.ext E1
  have c3_5 := VS.ext E1
  have K1 : Keep h0 h1 [] := (Keep.refl h0 []).ext E1
  have Z1 : n0 ≤ h1.size := Nat.le_trans Z0 E1.1
  have hk1 := Nat.le_trans hkT E1.1
  have Sf_b1 := Safe.ext E1 hCH (Safe.new (Nat.le_of_eq g1.symm))
  have F1_packageName : Fld Z h1 b1 "com/example/bindery/bindery/compiler/JavaType" "packageName" "Ljava/lang/String;" .null := D1 (Or.inr (wq hw 49 rfl)) (ty := (.object "java/lang/String")) (by decide)
  have F1_name : Fld Z h1 b1 "com/example/bindery/bindery/compiler/JavaType" "name" "Ljava/lang/String;" .null := D1 (Or.inr (wq hw 51 rfl)) (ty := (.object "java/lang/String")) (by decide)
  have F1_argument : Fld Z h1 b1 "com/example/bindery/bindery/compiler/JavaType" "argument" "Ljava/util/Optional;" .null := D1 (Or.inr (wq hw 53 rfl)) (ty := (.object "java/util/Optional")) (by decide)
  refine Go.via st1 ?_
  refine Vi (T1.setTop (mkF m 204 (LQ p0 p1 p2 p3 p4 p5 1 x0 x1 x2 x3 dA sA pk [.unset, .unset, .unset, .unset, .unset]) [(.ref pk), (.ref b1), (.ref b1)])) (fun tZ kZ => ?_) ?_
  · refine XS.dup X1.here hx rfl (hb hby at_201) rfl rfl ?_
    refine XS.aload X1.here hx rfl (hb hby at_202) rfl rfl ?_
    exact kZ
  obtain ⟨T4, h4, X4, e4, E4, A4, D4, -, st4⟩ := newO X1 hx hZ hown (wq hw 17 rfl) (wq hw 8 rfl) (wq hw 7 rfl) e1 (g := (mkF m 204 (LQ p0 p1 p2 p3 p4 p5 1 x0 x1 x2 x3 dA sA pk [.unset, .unset, .unset, .unset, .unset]) [(.ref pk), (.ref b1), (.ref b1)])) rfl (hb hby at_204) (by decide) (by decide)
  obtain ⟨b4, g4⟩ : ∃ z, z = h1.size := ⟨_, rfl⟩
  rw [← g4] at A4 D4 st4
  have g_b4 : n0 ≤ b4 := Nat.le_trans Z1 (Nat.le_of_eq g4.symm)
  have sz_b4 : h0.size ≤ b4 := Nat.le_trans (K1).1 (Nat.le_of_eq g4.symm)
  have ne_dA_b4 : dA ≠ b4 := Nat.ne_of_lt (Nat.lt_of_lt_of_le c3_4.lt (Nat.le_of_eq g4.symm))
  have ne_sA_b4 : sA ≠ b4 := Nat.ne_of_lt (Nat.lt_of_lt_of_le c3_5.lt (Nat.le_of_eq g4.symm))
  have ne_b1_b4 : b1 ≠ b4 := Nat.ne_of_lt (Nat.lt_of_lt_of_le A1.lt (Nat.le_of_eq g4.symm))
  have Ac5 := CHr.ext E4 Ac2.1
  have Sf5_0 := Ac5.safe A1.lt Sf_b1
  have CR5c := CHr.trans CR2c Ac5
  have c6_0 := c3_0.ext E4
  have c6_1 := S_CS.ext c6_0.2
  have c6_2 := S_SV.ext c6_0.2
  have c6_3 := S_EM.ext c6_0.2
  have c6_4 := c3_4.ext E4
  have c6_5 := c3_5.ext E4
  have c6_7 := A1.ext E4
  have c6_8 := F1_packageName.ext E4
  have c6_9 := F1_name.ext E4
  have c6_10 := F1_argument.ext E4
  have K4 : Keep h0 h4 [] := K1.ext E4
  have Z4 : n0 ≤ h4.size := Nat.le_trans Z1 E4.1
  have hk4 := Nat.le_trans hk1 E4.1
  have Sf_b4 := Safe.ext E4 Ac2.1 (Safe.new (Nat.le_of_eq g4.symm))
  have F4_value : Fld Z h4 b4 "java/lang/String" "value" "[B" .null := D4 (Or.inr (wq hw 10 rfl)) (ty := (.array .byte)) (by decide)
  have F4_coder : Fld Z h4 b4 "java/lang/String" "coder" "B" (.int 0) := D4 (Or.inr (wq hw 11 rfl)) (ty := .byte) (by decide)
  refine Go.via st4 ?_
  refine Vi (T4.setTop (mkF m 210 (LQ p0 p1 p2 p3 p4 p5 1 x0 x1 x2 x3 dA sA pk [.unset, .unset, .unset, .unset, .unset]) [(.ref sA), (.ref b4), (.ref b4), (.ref pk), (.ref b1), (.ref b1)])) (fun tZ kZ => ?_) ?_
  · refine XS.dup X4.here hx rfl (hb hby at_207) rfl rfl ?_
    refine XS.aload X4.here hx rfl (hb hby at_208) rfl rfl ?_
    exact kZ
  obtain ⟨_, _, ⟨T7, L7, k7, n7⟩, -, X7, ⟨Lc7, hQ7, l7, y7, z7⟩, st7⟩ := X4.specialBack hx (y := y2) rfl hown (mvT hZ (wq hw 18 rfl)) (mvT hZ (wq hw 19 rfl)) (mvT hZ (wq hw 20 rfl)) (by decide) (backOf (W := 4) (rm2n1 l Z a0 hw [] b4 sA (up (fun _ => (0 : Int32)) (0 : Int32).toNatClampNeg (nar .char x0)) cs h4 n0 Z4 A4 F4_value F4_coder g_b4 c6_5 c6_1 ne_sA_b4 (own_hch hx0) hcs) hZ (wq hw 20 rfl) (wq hw 7 rfl) (by decide) (by decide)) (g := (mkF m 210 (LQ p0 p1 p2 p3 p4 p5 1 x0 x1 x2 x3 dA sA pk [.unset, .unset, .unset, .unset, .unset]) [(.ref sA), (.ref b4), (.ref b4), (.ref pk), (.ref b1), (.ref b1)])) rfl (by rw [hml]; rfl) (Steps.refl _) (a := b4) (argsL := [(.ref sA)]) (rest := [(.ref b4), (.ref pk), (.ref b1), (.ref b1)]) (lenOf pd_1 rfl) rfl (leW rfl) (hb hby at_210) (fun _ _ => ⟨rfl, e4, (by decide : 4 + 1 + 1 + 1 ≤ _), (by decide : 73 + 3 + 4 + 1 ≤ _)⟩)
  dsimp only [Pt.U, Pt.locs, Pt.cells, Pt.slots] at X7 l7 y7 z7 st7 hQ7
  subst l7 y7 z7
  obtain ⟨b7_0, rfl, N7q, Kq7, hz_b7_0, f7_0, f7_1, f7_2, f7_3, f7_4, f7_5⟩ := hQ7
  have g_b7_0 : n0 ≤ b7_0 := Nat.le_trans Z4 hz_b7_0
  have sz_b7_0 : h0.size ≤ b7_0 := Nat.le_trans (K4).1 hz_b7_0
  have ne_dA_b7_0 : dA ≠ b7_0 := Nat.ne_of_lt (Nat.lt_of_lt_of_le c6_4.lt hz_b7_0)
  have ne_sA_b7_0 : sA ≠ b7_0 := Nat.ne_of_lt (Nat.lt_of_lt_of_le c6_5.lt hz_b7_0)
  have ne_b1_b7_0 : b1 ≠ b7_0 := Nat.ne_of_lt (Nat.lt_of_lt_of_le c6_7.lt hz_b7_0)
  have ne_b4_b7_0 : b4 ≠ b7_0 := Nat.ne_of_lt (Nat.lt_of_lt_of_le A4.lt hz_b7_0)
  have Ac8 := CHr.keep Kq7 (allS Sf_b4 all0) Ac5.1
  have Sf8_0 := Ac8.safe c6_7.lt Sf5_0
  have Sf8_1 := Ac8.safe A4.lt Sf_b4
  have CR8c := CHr.trans CR5c Ac8
  have c9_0 := c6_0.keep Kq7 (allS g_b4 all0)
  have c9_2 := S_SV.ext c9_0.2
  have c9_3 := S_EM.ext c9_0.2
  have c9_4 := c6_4.keep Kq7 (ninS ne_dA_b4 nin0)
  have c9_7 := c6_7.keep Kq7
  have c9_8 := c6_8.keep Kq7 (ninS ne_b1_b4 nin0)
  have c9_9 := c6_9.keep Kq7 (ninS ne_b1_b4 nin0)
  have c9_10 := c6_10.keep Kq7 (ninS ne_b1_b4 nin0)
  have K7 : Keep h0 T7.heap [] := K4.trans Kq7 (allS (Or.inr sz_b4) all0)
  have Z7 : n0 ≤ T7.heap.size := Nat.le_trans Z4 Kq7.1
  have hk7 := Nat.le_trans hk4 Kq7.1
  have N7 := Fr.app N0 N7q
  refine Go.via (fun t k => st7.trans k) ?_
  obtain ⟨fF, hfE⟩ : ∃ f : Nat → Int32, f = (up (fun _ => (0 : Int32)) (0 : Int32).toNatClampNeg (nar .byte (((up (fun _ => (0 : Int32)) (0 : Int32).toNatClampNeg (nar .char x0)) (0 : Int32).toNatClampNeg).toInt8.toInt32))) := ⟨_, rfl⟩
  rw [← hfE] at f7_5
  have hfit : ∀ k, k < 1 → fits .byte (.int (fF k)) = true := by rw [hfE]; exact (fun k hk => by match k, hk with | 0, _ => exact fits_nar_byte _ | k + 1, hk => exact absurd hk (by omega))
  have hf0 : fF (0 : Int32).toNatClampNeg = nar .byte ((nar .char x0).toInt8.toInt32) := by rw [hfE]; rfl
  obtain ⟨_, _, ⟨T10, L10, k10, n10⟩, -, X10, ⟨Lc10, hQ10, l10, y10, z10⟩, st10⟩ := X7.specialBack hx (y := y5) rfl hown (mvT hZ (wq hw 31 rfl)) (mvT hZ (wq hw 32 rfl)) (mvT hZ (wq hw 33 rfl)) (by decide) (backOf (W := 1) (rm5 l Z a0 hw [] b1 pk b4 em T7.heap n0 Z7 c9_7 c9_8 c9_9 c9_10 g_b1 c9_3) hZ (wq hw 33 rfl) (wq hw 16 rfl) (by decide) (by decide)) (g := (mkF m 213 (LQ p0 p1 p2 p3 p4 p5 1 x0 x1 x2 x3 dA sA pk [.unset, .unset, .unset, .unset, .unset]) [(.ref b4), (.ref pk), (.ref b1), (.ref b1)])) rfl (by rw [hml]; rfl) (Steps.refl _) (a := b1) (argsL := [(.ref pk), (.ref b4)]) (rest := [(.ref b1)]) (lenOf pd_4 rfl) rfl (leW rfl) (hb hby at_213) (fun _ _ => ⟨rfl, rfl, (by decide : 4 + 1 + 1 + 1 + 0 ≤ _), (by decide : 73 + 3 + 4 + 1 + 0 ≤ _)⟩)
  dsimp only [Pt.U, Pt.locs, Pt.cells, Pt.slots] at X10 l10 y10 z10 st10 hQ10
  subst l10 y10 z10
  obtain ⟨rfl, N10q, Kq10, f10_0, f10_1, f10_2, f10_3, f10_4⟩ := hQ10
  have Ac11 := CHr.keep Kq10 (allS Sf8_0 all0) Ac8.1
  have Sf11_0 := Ac11.safe c9_7.lt Sf8_0
  have Sf11_1 := Ac11.safe f7_0.lt Sf8_1
  have CR11c := CHr.trans CR8c Ac11
  have c12_0 := c9_0.keep Kq10 (allS g_b1 all0)
  have c12_1 := S_CS.ext c12_0.2
  have c12_2 := S_SV.ext c12_0.2
  have c12_4 := c9_4.keep Kq10 (ninS ne_dA_b1 nin0)
  have c12_11 := f7_0.keep Kq10
  have c12_12 := f7_1.keep Kq10 (ninS (Ne.symm ne_b1_b4) nin0)
  have c12_13 := f7_2.keep Kq10 (ninS (Ne.symm ne_b1_b4) nin0)
  have c12_14 := f7_5.keep Kq10 (ninS (Ne.symm ne_b1_b7_0) nin0)
  have K10 : Keep h0 T10.heap [] := K7.trans Kq10 (allS (Or.inr sz_b1) all0)
  have Z10 : n0 ≤ T10.heap.size := Nat.le_trans Z7 Kq10.1
  have hk10 := Nat.le_trans hk7 Kq10.1
  have N10 := Fr.app N7 N10q
  refine Go.via (fun t k => st10.trans k) ?_
  refine Vi (T10.setTop (mkF m 218 (LQ p0 p1 p2 p3 p4 p5 1 x0 x1 x2 x3 dA sA pk [sR b1, .unset, .unset, .unset, .unset]) [])) (fun tZ kZ => ?_) ?_
  · refine XS.astore X10.here hx rfl (hb hby at_216) rfl rfl (l' := (LQ p0 p1 p2 p3 p4 p5 1 x0 x1 x2 x3 dA sA pk [sR b1, .unset, .unset, .unset, .unset])) rfl ?_
    exact kZ
  by_cases hd0 : x0 = 46
  · exact tb_1_1 l Z a0 hw (s := s) (vmT := vmT) ⟨X10, hx, hby, hml, hlk, hret, hZ, hown, wS, Z10, rfl, N10, hST, hk10, Ac11.1, hx0, hx1, hx2, hx3, hcs, hsv, S_CS, S_SV, S_EM, c12_0, c12_4⟩ p0 p1 p2 p3 p4 p5 sA pk b1 b4 b7_0 fF f10_0 f10_2 c12_11 c12_13 c12_12 c12_14 hfit hf0 hd0
  · skip
    exact tb_1_0 l Z a0 hw (s := s) (vmT := vmT) ⟨X10, hx, hby, hml, hlk, hret, hZ, hown, wS, Z10, rfl, N10, hST, hk10, Ac11.1, hx0, hx1, hx2, hx3, hcs, hsv, S_CS, S_SV, S_EM, c12_0, c12_4⟩ p0 p1 p2 p3 p4 p5 sA pk b1 b4 b7_0 fF f10_0 f10_2 c12_11 c12_13 c12_12 c12_14 hfit hf0 hd0
theorem tb_2_0 (l : Launch) (Z : State) (a0 : Array Value) (hw : ∀ d ∈ tables_1, d.before a0 Z = true) {p : Program} {e : Env} {s : State} {m : MethodId} {args : Array Value} {below : List Frame} {meth : Method} {c : Code} {T0 : State} {locs0 : List Loc} {vmT : Vm} {h0 : Heap} {n0 kT : Nat} {x0 x1 x2 x3 cs : Int32} {sv : Value} {em dA : Addr} (hC : Com l Z a0 p e s m args below meth c T0 locs0 vmT 7 83 h0 n0 kT x0 x1 x2 x3 cs sv em dA) (p0 p1 p2 p3 p4 p5 : Int32) (sA pk jt sn bA : Addr) (fF : Nat → Int32) (hj0 : Exa Z h0 jt "com/example/bindery/bindery/compiler/JavaType") (hj1 : Fld Z h0 jt "com/example/bindery/bindery/compiler/JavaType" "name" "Ljava/lang/String;" (.ref sn)) (hj2 : Exa Z h0 sn "java/lang/String") (hj3 : Fld Z h0 sn "java/lang/String" "coder" "B" (.int 0)) (hj4 : Fld Z h0 sn "java/lang/String" "value" "[B" (.ref bA)) (hj5 : AV Z h0 bA .byte 2 (fun k => .int (fF k))) (hfit : ∀ k, k < 2 → fits .byte (.int (fF k)) = true) (hf0 : fF (0 : Int32).toNatClampNeg = nar .byte ((nar .char x0).toInt8.toInt32)) (hf1 : fF (1 : Int32).toNatClampNeg = nar .byte ((nar .char x1).toInt8.toInt32)) (hd1 : ¬ x1 = 46) (hd0 : ¬ x0 = 46) :
    Go p e below (fun o u => ∃ v L, o = .returned v ∧ Q0 n0 v u.heap L ∧ ReturnedEndW s o u L 32 4288) (T0.setTop (mkF m 218 (LQ p0 p1 p2 p3 p4 p5 2 x0 x1 x2 x3 dA sA pk [sR jt, .unset, .unset, .unset, .unset]) [])) := by
  obtain ⟨X0, hx, hby, hml, hlk, hret, hZ, hown, wS, Z0, e0, N0, hST, hkT, hCH, hx0, hx1, hx2, hx3, hcs, hsv, S_CS, S_SV, S_EM, hold, VD⟩ := hC
  refine Vi (T0.setTop (mkF m 220 (LQ p0 p1 p2 p3 p4 p5 2 x0 x1 x2 x3 dA sA pk [sR jt, .unset, .unset, .unset, .unset]) [(.ref jt)])) (fun tZ kZ => ?_) ?_
  · refine XS.aload X0.here hx rfl (hb hby at_218) rfl rfl ?_
    exact kZ
  obtain ⟨cq1, kq1, q1a, q1b, q1c⟩ := isOf hZ e0 hj0
  obtain ⟨_, _, ⟨T1, L1, k1, n1⟩, -, X1, ⟨Lc1, hQ1, l1, y1, z1⟩, st1⟩ := X0.virtualBack hx (y := y9) (z := y9) hown (mvT hZ (wq hw 54 rfl)) (mvT hZ (wq hw 55 rfl)) (notFace_of_selects (args := #[]) (mvT hZ (wq hw 57 rfl))) (mvT hZ (wq hw 57 rfl)) (mvT hZ (wq hw 56 rfl)) (by decide) (backOf (W := 0) (rm9n2A l Z a0 hw [] jt sn bA fF cs sv 0 h0 n0 Z0 hj0 hj1 hj2 hj3 hj4 hj5 (S_CS.ext hold.2) (S_SV.ext hold.2) hcs hsv (by decide) (by decide) (by decide) (by decide) (own_l2_0 _ _ _ _ (by rw [hf1]; exact own_ndot hx1 hd1) (by rw [hf0]; exact own_ndot hx0 hd0))) hZ (wq hw 58 rfl) (wq hw 16 rfl) (by decide) (by decide)) q1a q1c (g := (mkF m 220 (LQ p0 p1 p2 p3 p4 p5 2 x0 x1 x2 x3 dA sA pk [sR jt, .unset, .unset, .unset, .unset]) [(.ref jt)])) rfl (by rw [hml]; rfl) (Steps.refl _) (argsL := []) (rest := []) (lenOf pd_7 rfl) rfl (leW rfl) (hb hby at_220) (fun _ _ => ⟨rfl, e0, (by decide : 7 + 0 ≤ _), (by decide : 83 + 0 ≤ _)⟩)
  dsimp only [Pt.U, Pt.locs, Pt.cells, Pt.slots] at X1 l1 y1 z1 st1 hQ1
  subst l1 y1 z1
  obtain ⟨rfl, N1q, e1⟩ := hQ1
  have N1 := Fr.app N0 N1q
  refine Go.via (fun t k => st1.trans k) ?_
  refine Vi (T1.setTop (mkF m 307 (LQ p0 p1 p2 p3 p4 p5 2 x0 x1 x2 x3 dA sA pk [sR jt, sR sn, sI (-1), sI 2, .unset]) [(.ref sn)])) (fun tZ kZ => ?_) ?_
  · refine XS.astore X1.here hx rfl (hb hby at_223) rfl rfl (l' := (LQ p0 p1 p2 p3 p4 p5 2 x0 x1 x2 x3 dA sA pk [sR jt, sR sn, .unset, .unset, .unset])) rfl ?_
    refine XS.iconst X1.here hx rfl (hb hby at_225) ?_
    refine XS.istore X1.here hx rfl (hb hby at_226) rfl (l' := (LQ p0 p1 p2 p3 p4 p5 2 x0 x1 x2 x3 dA sA pk [sR jt, sR sn, sI (-1), .unset, .unset])) rfl ?_
    refine XS.iload X1.here hx rfl (hb hby at_228) rfl ?_
    refine XS.ifNo X1.here hx rfl (hb hby at_230) rfl ((if0 _ _).trans (tlt (by decide)).2.2.2) ?_
    refine XS.iload X1.here hx rfl (hb hby at_233) rfl ?_
    refine XS.bipush X1.here hx rfl (hb hby at_235) ?_
    refine XS.icmpYes X1.here hx rfl (pc0 := 237) (pc' := 243) rfl (hb hby at_237) rfl (feq hd0).2 (by decide) (by decide) ?_
    refine XS.iload X1.here hx rfl (hb hby at_243) rfl ?_
    refine XS.iconst X1.here hx rfl (hb hby at_245) ?_
    refine XS.icmpNo X1.here hx rfl (hb hby at_246) rfl (tlt (by decide)).2.2.2 ?_
    refine XS.iload X1.here hx rfl (hb hby at_249) rfl ?_
    refine XS.bipush X1.here hx rfl (hb hby at_251) ?_
    refine XS.icmpYes X1.here hx rfl (pc0 := 253) (pc' := 259) rfl (hb hby at_253) rfl (feq hd1).2 (by decide) (by decide) ?_
    refine XS.iload X1.here hx rfl (hb hby at_259) rfl ?_
    refine XS.iconst X1.here hx rfl (hb hby at_261) ?_
    refine XS.icmpYes X1.here hx rfl (pc0 := 262) (pc' := 275) rfl (hb hby at_262) rfl (flt (by decide)).2.2.2 (by decide) (by decide) ?_
    refine XS.iload X1.here hx rfl (hb hby at_275) rfl ?_
    refine XS.iconst X1.here hx rfl (hb hby at_277) ?_
    refine XS.icmpYes X1.here hx rfl (pc0 := 278) (pc' := 291) rfl (hb hby at_278) rfl (flt (by decide)).2.2.2 (by decide) (by decide) ?_
    refine XS.iload X1.here hx rfl (hb hby at_291) rfl ?_
    refine XS.iload X1.here hx rfl (hb hby at_293) rfl ?_
    refine XS.isub X1.here hx rfl (hb hby at_295) rfl ?_
    refine XS.iconst X1.here hx rfl (hb hby at_296) ?_
    refine XS.isub X1.here hx rfl (hb hby at_297) rfl ?_
    refine XS.istore X1.here hx rfl (hb hby at_298) rfl (l' := (LQ p0 p1 p2 p3 p4 p5 2 x0 x1 x2 x3 dA sA pk [sR jt, sR sn, sI (-1), sI 2, .unset])) rfl ?_
    refine XS.aload X1.here hx rfl (hb hby at_300) rfl rfl ?_
    refine XS.ifnullNo X1.here hx rfl (hb hby at_302) rfl ?_
    refine XS.aload X1.here hx rfl (hb hby at_305) rfl rfl ?_
    exact kZ
  obtain ⟨cq2, kq2, q2a, q2b, q2c⟩ := isOf hZ e1 hj2
  obtain ⟨_, _, ⟨T2, L2, k2, n2⟩, -, X2, ⟨Lc2, hQ2, l2, y2, z2⟩, st2⟩ := X1.virtualBack hx (y := y11) (z := y11) hown (mvT hZ (wq hw 114 rfl)) (mvT hZ (wq hw 65 rfl)) (notFace_of_selects (args := #[]) (mvT hZ (wq hw 67 rfl))) (mvT hZ (wq hw 67 rfl)) (mvT hZ (wq hw 66 rfl)) (by decide) (backOf (W := 0) (rm11 l Z a0 hw [] sn bA 2 fF cs h0 n0 Z0 hj2 hj3 hj4 hj5 (S_CS.ext hold.2) hcs) hZ (wq hw 68 rfl) (wq hw 7 rfl) (by decide) (by decide)) q2a q2c (g := (mkF m 307 (LQ p0 p1 p2 p3 p4 p5 2 x0 x1 x2 x3 dA sA pk [sR jt, sR sn, sI (-1), sI 2, .unset]) [(.ref sn)])) rfl (by rw [hml]; rfl) (Steps.refl _) (argsL := []) (rest := []) (lenOf pd_9 rfl) rfl (leW rfl) (hb hby at_307) (fun _ _ => ⟨rfl, e1, (by decide : 7 + 0 + 0 ≤ _), (by decide : 83 + 0 + 0 ≤ _)⟩)
  dsimp only [Pt.U, Pt.locs, Pt.cells, Pt.slots] at X2 l2 y2 z2 st2 hQ2
  subst l2 y2 z2
  obtain ⟨rfl, N2q, e2⟩ := hQ2
  have hv2 : (f11 sn bA 2 fF cs) = (Int32.ofNat 2) := by unfold f11; exact own_sh0 _
  rw [hv2] at st2
  have N2 := Fr.app N1 N2q
  refine Go.via (fun t k => st2.trans k) ?_
  refine Vi (T2.setTop (mkF m 333 (LQ p0 p1 p2 p3 p4 p5 2 x0 x1 x2 x3 dA sA pk [sR jt, sR sn, sI (-1), sI 2, sI 1]) [(.int 0), (.ref sn)])) (fun tZ kZ => ?_) ?_
  · refine XS.iload X2.here hx rfl (hb hby at_310) rfl ?_
    refine XS.icmpYes X2.here hx rfl (pc0 := 312) (pc' := 317) rfl (hb hby at_312) rfl (teq (by decide)).1 (by decide) (by decide) ?_
    refine XS.iconst X2.here hx rfl (hb hby at_317) ?_
    refine XS.istore X2.here hx rfl (hb hby at_318) rfl (l' := (LQ p0 p1 p2 p3 p4 p5 2 x0 x1 x2 x3 dA sA pk [sR jt, sR sn, sI (-1), sI 2, sI 1])) rfl ?_
    refine XS.iload X2.here hx rfl (hb hby at_320) rfl ?_
    refine XS.ifNo X2.here hx rfl (hb hby at_322) rfl ((if0 _ _).trans (tlt (by decide)).2.2.2) ?_
    refine XS.iload X2.here hx rfl (hb hby at_325) rfl ?_
    refine XS.ifNo X2.here hx rfl (hb hby at_327) rfl ((if0 _ _).trans (feq (by decide)).1) ?_
    refine XS.aload X2.here hx rfl (hb hby at_330) rfl rfl ?_
    refine XS.iconst X2.here hx rfl (hb hby at_332) ?_
    exact kZ
  obtain ⟨cq3, kq3, q3a, q3b, q3c⟩ := isOf hZ e2 hj2
  obtain ⟨_, _, ⟨T3, L3, k3, n3⟩, -, X3, ⟨Lc3, hQ3, l3, y3, z3⟩, st3⟩ := X2.virtualBack hx (y := y30) (z := y30) hown (mvT hZ (wq hw 147 rfl)) (mvT hZ (wq hw 148 rfl)) (notFace_of_selects (args := #[]) (mvT hZ (wq hw 150 rfl))) (mvT hZ (wq hw 150 rfl)) (mvT hZ (wq hw 149 rfl)) (by decide) (backOf (W := 0) (rm30 l Z a0 hw [] sn (0 : Int32) bA 2 fF cs sv h0 n0 Z0 hj2 hj3 hj4 hj5 (S_CS.ext hold.2) (S_SV.ext hold.2) hcs (by decide) (by decide) (by decide) hsv) hZ (wq hw 151 rfl) (wq hw 7 rfl) (by decide) (by decide)) q3a q3c (g := (mkF m 333 (LQ p0 p1 p2 p3 p4 p5 2 x0 x1 x2 x3 dA sA pk [sR jt, sR sn, sI (-1), sI 2, sI 1]) [(.int 0), (.ref sn)])) rfl (by rw [hml]; rfl) (Steps.refl _) (argsL := [(.int 0)]) (rest := []) (lenOf pd_27 rfl) rfl (leW rfl) (hb hby at_333) (fun _ _ => ⟨rfl, e2, (by decide : 7 + 0 + 0 + 0 ≤ _), (by decide : 83 + 0 + 0 + 0 ≤ _)⟩)
  dsimp only [Pt.U, Pt.locs, Pt.cells, Pt.slots] at X3 l3 y3 z3 st3 hQ3
  subst l3 y3 z3
  obtain ⟨rfl, N3q, e3⟩ := hQ3
  have N3 := Fr.app N2 N3q
  refine Go.via (fun t k => st3.trans k) ?_
  refine Vi (T3.setTop (mkF m 367 (LQ p0 p1 p2 p3 p4 p5 2 x0 x1 x2 x3 dA sA pk [sR jt, sR sn, sI (-1), sI 2, sI 1]) [(.int 1), (.ref sn)])) (fun tZ kZ => ?_) ?_
  · refine XS.aload X3.here hx rfl (hb hby at_336) rfl rfl ?_
    refine XS.iload X3.here hx rfl (hb hby at_338) rfl ?_
    refine XS.iconst X3.here hx rfl (hb hby at_340) ?_
    refine XS.iadd X3.here hx rfl (hb hby at_341) rfl ?_
    refine AV.caload VD X3 hx hZ e3 (j := (0 : Int32)) (by decide) (hb hby at_342) ?_
    refine XS.icmpNo X3.here hx rfl (hb hby at_343) rfl (teq (own_rt3 hx0 hf0)).2 ?_
    refine XS.iconst X3.here hx rfl (hb hby at_346) ?_
    refine XS.goto X3.here hx rfl (pc0 := 347) (pc' := 351) rfl (hb hby at_347) (by decide) (by decide) ?_
    refine XS.istore X3.here hx rfl (hb hby at_351) rfl (l' := (LQ p0 p1 p2 p3 p4 p5 2 x0 x1 x2 x3 dA sA pk [sR jt, sR sn, sI (-1), sI 2, sI 1])) rfl ?_
    refine XS.iload X3.here hx rfl (hb hby at_353) rfl ?_
    refine XS.iconst X3.here hx rfl (hb hby at_355) ?_
    refine XS.icmpNo X3.here hx rfl (hb hby at_356) rfl (tlt (by decide)).2.2.2 ?_
    refine XS.iload X3.here hx rfl (hb hby at_359) rfl ?_
    refine XS.ifNo X3.here hx rfl (hb hby at_361) rfl ((if0 _ _).trans (feq (by decide)).1) ?_
    refine XS.aload X3.here hx rfl (hb hby at_364) rfl rfl ?_
    refine XS.iconst X3.here hx rfl (hb hby at_366) ?_
    exact kZ
  obtain ⟨cq4, kq4, q4a, q4b, q4c⟩ := isOf hZ e3 hj2
  obtain ⟨_, _, ⟨T4, L4, k4, n4⟩, -, X4, ⟨Lc4, hQ4, l4, y4, z4⟩, st4⟩ := X3.virtualBack hx (y := y30) (z := y30) hown (mvT hZ (wq hw 147 rfl)) (mvT hZ (wq hw 148 rfl)) (notFace_of_selects (args := #[]) (mvT hZ (wq hw 150 rfl))) (mvT hZ (wq hw 150 rfl)) (mvT hZ (wq hw 149 rfl)) (by decide) (backOf (W := 0) (rm30 l Z a0 hw [] sn (1 : Int32) bA 2 fF cs sv h0 n0 Z0 hj2 hj3 hj4 hj5 (S_CS.ext hold.2) (S_SV.ext hold.2) hcs (by decide) (by decide) (by decide) hsv) hZ (wq hw 151 rfl) (wq hw 7 rfl) (by decide) (by decide)) q4a q4c (g := (mkF m 367 (LQ p0 p1 p2 p3 p4 p5 2 x0 x1 x2 x3 dA sA pk [sR jt, sR sn, sI (-1), sI 2, sI 1]) [(.int 1), (.ref sn)])) rfl (by rw [hml]; rfl) (Steps.refl _) (argsL := [(.int 1)]) (rest := []) (lenOf pd_27 rfl) rfl (leW rfl) (hb hby at_367) (fun _ _ => ⟨rfl, e3, (by decide : 7 + 0 + 0 + 0 + 0 ≤ _), (by decide : 83 + 0 + 0 + 0 + 0 ≤ _)⟩)
  dsimp only [Pt.U, Pt.locs, Pt.cells, Pt.slots] at X4 l4 y4 z4 st4 hQ4
  subst l4 y4 z4
  obtain ⟨rfl, N4q, e4⟩ := hQ4
  have N4 := Fr.app N3 N4q
  refine Go.via (fun t k => st4.trans k) ?_
  refine Vi (T4.setTop (mkF m 457 (LQ p0 p1 p2 p3 p4 p5 2 x0 x1 x2 x3 dA sA pk [sR jt, sR sn, sI (-1), sI 2, sI 1]) [(.int 1)])) (fun tZ kZ => ?_) ?_
  · refine XS.aload X4.here hx rfl (hb hby at_370) rfl rfl ?_
    refine XS.iload X4.here hx rfl (hb hby at_372) rfl ?_
    refine XS.iconst X4.here hx rfl (hb hby at_374) ?_
    refine XS.iadd X4.here hx rfl (hb hby at_375) rfl ?_
    refine AV.caload VD X4 hx hZ e4 (j := (1 : Int32)) (by decide) (hb hby at_376) ?_
    refine XS.icmpNo X4.here hx rfl (hb hby at_377) rfl (teq (own_rt3 hx1 hf1)).2 ?_
    refine XS.iconst X4.here hx rfl (hb hby at_380) ?_
    refine XS.goto X4.here hx rfl (pc0 := 381) (pc' := 385) rfl (hb hby at_381) (by decide) (by decide) ?_
    refine XS.istore X4.here hx rfl (hb hby at_385) rfl (l' := (LQ p0 p1 p2 p3 p4 p5 2 x0 x1 x2 x3 dA sA pk [sR jt, sR sn, sI (-1), sI 2, sI 1])) rfl ?_
    refine XS.iload X4.here hx rfl (hb hby at_387) rfl ?_
    refine XS.iconst X4.here hx rfl (hb hby at_389) ?_
    refine XS.icmpYes X4.here hx rfl (pc0 := 390) (pc' := 421) rfl (hb hby at_390) rfl (flt (by decide)).2.2.2 (by decide) (by decide) ?_
    refine XS.iload X4.here hx rfl (hb hby at_421) rfl ?_
    refine XS.iconst X4.here hx rfl (hb hby at_423) ?_
    refine XS.icmpYes X4.here hx rfl (pc0 := 424) (pc' := 455) rfl (hb hby at_424) rfl (flt (by decide)).2.2.2 (by decide) (by decide) ?_
    refine XS.iload X4.here hx rfl (hb hby at_455) rfl ?_
    exact kZ
  refine Go.retNW (s := s) (vm₁ := vmT) X4 hx hST (by rw [e4]; exact hkT) hlk (t := .boolean) hret (by simp) (hb hby at_457) (by decide) (by decide) ?_
  exact ⟨rfl, N4⟩
theorem tb_2_1 (l : Launch) (Z : State) (a0 : Array Value) (hw : ∀ d ∈ tables_1, d.before a0 Z = true) {p : Program} {e : Env} {s : State} {m : MethodId} {args : Array Value} {below : List Frame} {meth : Method} {c : Code} {T0 : State} {locs0 : List Loc} {vmT : Vm} {h0 : Heap} {n0 kT : Nat} {x0 x1 x2 x3 cs : Int32} {sv : Value} {em dA : Addr} (hC : Com l Z a0 p e s m args below meth c T0 locs0 vmT 7 83 h0 n0 kT x0 x1 x2 x3 cs sv em dA) (p0 p1 p2 p3 p4 p5 : Int32) (sA pk jt sn bA : Addr) (fF : Nat → Int32) (hj0 : Exa Z h0 jt "com/example/bindery/bindery/compiler/JavaType") (hj1 : Fld Z h0 jt "com/example/bindery/bindery/compiler/JavaType" "name" "Ljava/lang/String;" (.ref sn)) (hj2 : Exa Z h0 sn "java/lang/String") (hj3 : Fld Z h0 sn "java/lang/String" "coder" "B" (.int 0)) (hj4 : Fld Z h0 sn "java/lang/String" "value" "[B" (.ref bA)) (hj5 : AV Z h0 bA .byte 2 (fun k => .int (fF k))) (hfit : ∀ k, k < 2 → fits .byte (.int (fF k)) = true) (hf0 : fF (0 : Int32).toNatClampNeg = nar .byte ((nar .char x0).toInt8.toInt32)) (hf1 : fF (1 : Int32).toNatClampNeg = nar .byte ((nar .char x1).toInt8.toInt32)) (hd1 : ¬ x1 = 46) (hd0 : x0 = 46) :
    Go p e below (fun o u => ∃ v L, o = .returned v ∧ Q0 n0 v u.heap L ∧ ReturnedEndW s o u L 32 4288) (T0.setTop (mkF m 218 (LQ p0 p1 p2 p3 p4 p5 2 x0 x1 x2 x3 dA sA pk [sR jt, .unset, .unset, .unset, .unset]) [])) := by
  obtain ⟨X0, hx, hby, hml, hlk, hret, hZ, hown, wS, Z0, e0, N0, hST, hkT, hCH, hx0, hx1, hx2, hx3, hcs, hsv, S_CS, S_SV, S_EM, hold, VD⟩ := hC
  refine Vi (T0.setTop (mkF m 220 (LQ p0 p1 p2 p3 p4 p5 2 x0 x1 x2 x3 dA sA pk [sR jt, .unset, .unset, .unset, .unset]) [(.ref jt)])) (fun tZ kZ => ?_) ?_
  · refine XS.aload X0.here hx rfl (hb hby at_218) rfl rfl ?_
    exact kZ
  obtain ⟨cq1, kq1, q1a, q1b, q1c⟩ := isOf hZ e0 hj0
  obtain ⟨_, _, ⟨T1, L1, k1, n1⟩, -, X1, ⟨Lc1, hQ1, l1, y1, z1⟩, st1⟩ := X0.virtualBack hx (y := y9) (z := y9) hown (mvT hZ (wq hw 54 rfl)) (mvT hZ (wq hw 55 rfl)) (notFace_of_selects (args := #[]) (mvT hZ (wq hw 57 rfl))) (mvT hZ (wq hw 57 rfl)) (mvT hZ (wq hw 56 rfl)) (by decide) (backOf (W := 0) (rm9n2C l Z a0 hw [] jt sn bA fF cs sv 1 h0 n0 Z0 hj0 hj1 hj2 hj3 hj4 hj5 (S_CS.ext hold.2) (S_SV.ext hold.2) hcs hsv (by decide) (by decide) (by decide) (by decide) (by decide) (by decide) (by decide) (by decide) (by decide) (by decide) (by decide) hfit (own_l2_1 _ _ _ _ (by rw [hf1]; exact own_ndot hx1 hd1) (by rw [hf0]; exact own_dot hd0))) hZ (wq hw 58 rfl) (wq hw 16 rfl) (by decide) (by decide)) q1a q1c (g := (mkF m 220 (LQ p0 p1 p2 p3 p4 p5 2 x0 x1 x2 x3 dA sA pk [sR jt, .unset, .unset, .unset, .unset]) [(.ref jt)])) rfl (by rw [hml]; rfl) (Steps.refl _) (argsL := []) (rest := []) (lenOf pd_7 rfl) rfl (leW rfl) (hb hby at_220) (fun _ _ => ⟨rfl, e0, (by decide : 7 + 2 ≤ _), (by decide : 83 + 8 ≤ _)⟩)
  dsimp only [Pt.U, Pt.locs, Pt.cells, Pt.slots] at X1 l1 y1 z1 st1 hQ1
  subst l1 y1 z1
  obtain ⟨b1_0, b1_1, rfl, N1q, Kq1, hz_b1_0, hz_b1_1, f1_0, f1_1, f1_2, f1_3, f1_4, f1_5, f1_6, f1_7, f1_8, f1_9, f1_10, f1_11⟩ := hQ1
  have Ac2 := CHr.keep Kq1 all0 hCH
  have CR2c := CHr.trans (CHr.refl hCH) Ac2
  have c3_0 := hold.keep Kq1 all0
  have c3_3 := S_EM.ext c3_0.2
  have c3_4 := VD.keep Kq1 nin0
  have K1 : Keep h0 T1.heap [] := (Keep.refl h0 []).trans Kq1 all0
  have Z1 : n0 ≤ T1.heap.size := Nat.le_trans Z0 Kq1.1
  have hk1 := Nat.le_trans hkT Kq1.1
  have N1 := Fr.app N0 N1q
  refine Go.via (fun t k => st1.trans k) ?_
  refine Vi (T1.setTop (mkF m 307 (LQ p0 p1 p2 p3 p4 p5 2 x0 x1 x2 x3 dA sA pk [sR jt, sR b1_0, sI 0, sI 1, .unset]) [(.ref b1_0)])) (fun tZ kZ => ?_) ?_
  · refine XS.astore X1.here hx rfl (hb hby at_223) rfl rfl (l' := (LQ p0 p1 p2 p3 p4 p5 2 x0 x1 x2 x3 dA sA pk [sR jt, sR b1_0, .unset, .unset, .unset])) rfl ?_
    refine XS.iconst X1.here hx rfl (hb hby at_225) ?_
    refine XS.istore X1.here hx rfl (hb hby at_226) rfl (l' := (LQ p0 p1 p2 p3 p4 p5 2 x0 x1 x2 x3 dA sA pk [sR jt, sR b1_0, sI (-1), .unset, .unset])) rfl ?_
    refine XS.iload X1.here hx rfl (hb hby at_228) rfl ?_
    refine XS.ifNo X1.here hx rfl (hb hby at_230) rfl ((if0 _ _).trans (tlt (by decide)).2.2.2) ?_
    refine XS.iload X1.here hx rfl (hb hby at_233) rfl ?_
    refine XS.bipush X1.here hx rfl (hb hby at_235) ?_
    refine XS.icmpNo X1.here hx rfl (hb hby at_237) rfl (teq hd0).2 ?_
    refine XS.iconst X1.here hx rfl (hb hby at_240) ?_
    refine XS.istore X1.here hx rfl (hb hby at_241) rfl (l' := (LQ p0 p1 p2 p3 p4 p5 2 x0 x1 x2 x3 dA sA pk [sR jt, sR b1_0, sI 0, .unset, .unset])) rfl ?_
    refine XS.iload X1.here hx rfl (hb hby at_243) rfl ?_
    refine XS.iconst X1.here hx rfl (hb hby at_245) ?_
    refine XS.icmpNo X1.here hx rfl (hb hby at_246) rfl (tlt (by decide)).2.2.2 ?_
    refine XS.iload X1.here hx rfl (hb hby at_249) rfl ?_
    refine XS.bipush X1.here hx rfl (hb hby at_251) ?_
    refine XS.icmpYes X1.here hx rfl (pc0 := 253) (pc' := 259) rfl (hb hby at_253) rfl (feq hd1).2 (by decide) (by decide) ?_
    refine XS.iload X1.here hx rfl (hb hby at_259) rfl ?_
    refine XS.iconst X1.here hx rfl (hb hby at_261) ?_
    refine XS.icmpYes X1.here hx rfl (pc0 := 262) (pc' := 275) rfl (hb hby at_262) rfl (flt (by decide)).2.2.2 (by decide) (by decide) ?_
    refine XS.iload X1.here hx rfl (hb hby at_275) rfl ?_
    refine XS.iconst X1.here hx rfl (hb hby at_277) ?_
    refine XS.icmpYes X1.here hx rfl (pc0 := 278) (pc' := 291) rfl (hb hby at_278) rfl (flt (by decide)).2.2.2 (by decide) (by decide) ?_
    refine XS.iload X1.here hx rfl (hb hby at_291) rfl ?_
    refine XS.iload X1.here hx rfl (hb hby at_293) rfl ?_
    refine XS.isub X1.here hx rfl (hb hby at_295) rfl ?_
    refine XS.iconst X1.here hx rfl (hb hby at_296) ?_
    refine XS.isub X1.here hx rfl (hb hby at_297) rfl ?_
    refine XS.istore X1.here hx rfl (hb hby at_298) rfl (l' := (LQ p0 p1 p2 p3 p4 p5 2 x0 x1 x2 x3 dA sA pk [sR jt, sR b1_0, sI 0, sI 1, .unset])) rfl ?_
    refine XS.aload X1.here hx rfl (hb hby at_300) rfl rfl ?_
    refine XS.ifnullNo X1.here hx rfl (hb hby at_302) rfl ?_
    refine XS.aload X1.here hx rfl (hb hby at_305) rfl rfl ?_
    exact kZ
  obtain ⟨cq4, kq4, q4a, q4b, q4c⟩ := isOf hZ rfl f1_8
  obtain ⟨_, _, ⟨T4, L4, k4, n4⟩, -, X4, ⟨Lc4, hQ4, l4, y4, z4⟩, st4⟩ := X1.virtualBack hx (y := y11) (z := y11) hown (mvT hZ (wq hw 114 rfl)) (mvT hZ (wq hw 65 rfl)) (notFace_of_selects (args := #[]) (mvT hZ (wq hw 67 rfl))) (mvT hZ (wq hw 67 rfl)) (mvT hZ (wq hw 66 rfl)) (by decide) (backOf (W := 0) (rm11 l Z a0 hw [] b1_0 b1_1 1 (own_sh fF 1) cs T1.heap n0 Z1 f1_8 f1_10 f1_9 f1_11 f1_6 hcs) hZ (wq hw 68 rfl) (wq hw 7 rfl) (by decide) (by decide)) q4a q4c (g := (mkF m 307 (LQ p0 p1 p2 p3 p4 p5 2 x0 x1 x2 x3 dA sA pk [sR jt, sR b1_0, sI 0, sI 1, .unset]) [(.ref b1_0)])) rfl (by rw [hml]; rfl) (Steps.refl _) (argsL := []) (rest := []) (lenOf pd_9 rfl) rfl (leW rfl) (hb hby at_307) (fun _ _ => ⟨rfl, rfl, (by decide : 7 + 2 + 0 ≤ _), (by decide : 83 + 8 + 0 ≤ _)⟩)
  dsimp only [Pt.U, Pt.locs, Pt.cells, Pt.slots] at X4 l4 y4 z4 st4 hQ4
  subst l4 y4 z4
  obtain ⟨rfl, N4q, e4⟩ := hQ4
  have hv4 : (f11 b1_0 b1_1 1 (own_sh fF 1) cs) = (Int32.ofNat 1) := by unfold f11; exact own_sh0 _
  rw [hv4] at st4
  have N4 := Fr.app N1 N4q
  refine Go.via (fun t k => st4.trans k) ?_
  refine Vi (T4.setTop (mkF m 333 (LQ p0 p1 p2 p3 p4 p5 2 x0 x1 x2 x3 dA sA pk [sR jt, sR b1_0, sI 0, sI 1, sI 1]) [(.int 0), (.ref b1_0)])) (fun tZ kZ => ?_) ?_
  · refine XS.iload X4.here hx rfl (hb hby at_310) rfl ?_
    refine XS.icmpYes X4.here hx rfl (pc0 := 312) (pc' := 317) rfl (hb hby at_312) rfl (teq (by decide)).1 (by decide) (by decide) ?_
    refine XS.iconst X4.here hx rfl (hb hby at_317) ?_
    refine XS.istore X4.here hx rfl (hb hby at_318) rfl (l' := (LQ p0 p1 p2 p3 p4 p5 2 x0 x1 x2 x3 dA sA pk [sR jt, sR b1_0, sI 0, sI 1, sI 1])) rfl ?_
    refine XS.iload X4.here hx rfl (hb hby at_320) rfl ?_
    refine XS.ifNo X4.here hx rfl (hb hby at_322) rfl ((if0 _ _).trans (tlt (by decide)).2.2.2) ?_
    refine XS.iload X4.here hx rfl (hb hby at_325) rfl ?_
    refine XS.ifNo X4.here hx rfl (hb hby at_327) rfl ((if0 _ _).trans (feq (by decide)).1) ?_
    refine XS.aload X4.here hx rfl (hb hby at_330) rfl rfl ?_
    refine XS.iconst X4.here hx rfl (hb hby at_332) ?_
    exact kZ
  obtain ⟨cq5, kq5, q5a, q5b, q5c⟩ := isOf hZ e4 f1_8
  obtain ⟨_, _, ⟨T5, L5, k5, n5⟩, -, X5, ⟨Lc5, hQ5, l5, y5, z5⟩, st5⟩ := X4.virtualBack hx (y := y30) (z := y30) hown (mvT hZ (wq hw 147 rfl)) (mvT hZ (wq hw 148 rfl)) (notFace_of_selects (args := #[]) (mvT hZ (wq hw 150 rfl))) (mvT hZ (wq hw 150 rfl)) (mvT hZ (wq hw 149 rfl)) (by decide) (backOf (W := 0) (rm30 l Z a0 hw [] b1_0 (0 : Int32) b1_1 1 (own_sh fF 1) cs sv T1.heap n0 Z1 f1_8 f1_10 f1_9 f1_11 f1_6 f1_7 hcs (by decide) (by decide) (by decide) hsv) hZ (wq hw 151 rfl) (wq hw 7 rfl) (by decide) (by decide)) q5a q5c (g := (mkF m 333 (LQ p0 p1 p2 p3 p4 p5 2 x0 x1 x2 x3 dA sA pk [sR jt, sR b1_0, sI 0, sI 1, sI 1]) [(.int 0), (.ref b1_0)])) rfl (by rw [hml]; rfl) (Steps.refl _) (argsL := [(.int 0)]) (rest := []) (lenOf pd_27 rfl) rfl (leW rfl) (hb hby at_333) (fun _ _ => ⟨rfl, e4, (by decide : 7 + 2 + 0 + 0 ≤ _), (by decide : 83 + 8 + 0 + 0 ≤ _)⟩)
  dsimp only [Pt.U, Pt.locs, Pt.cells, Pt.slots] at X5 l5 y5 z5 st5 hQ5
  subst l5 y5 z5
  obtain ⟨rfl, N5q, e5⟩ := hQ5
  have N5 := Fr.app N4 N5q
  refine Go.via (fun t k => st5.trans k) ?_
  refine Vi (T5.setTop (mkF m 457 (LQ p0 p1 p2 p3 p4 p5 2 x0 x1 x2 x3 dA sA pk [sR jt, sR b1_0, sI 0, sI 1, sI 1]) [(.int 1)])) (fun tZ kZ => ?_) ?_
  · refine XS.aload X5.here hx rfl (hb hby at_336) rfl rfl ?_
    refine XS.iload X5.here hx rfl (hb hby at_338) rfl ?_
    refine XS.iconst X5.here hx rfl (hb hby at_340) ?_
    refine XS.iadd X5.here hx rfl (hb hby at_341) rfl ?_
    refine AV.caload c3_4 X5 hx hZ e5 (j := (1 : Int32)) (by decide) (hb hby at_342) ?_
    refine XS.icmpNo X5.here hx rfl (hb hby at_343) rfl (teq (own_rt3 hx1 hf1)).2 ?_
    refine XS.iconst X5.here hx rfl (hb hby at_346) ?_
    refine XS.goto X5.here hx rfl (pc0 := 347) (pc' := 351) rfl (hb hby at_347) (by decide) (by decide) ?_
    refine XS.istore X5.here hx rfl (hb hby at_351) rfl (l' := (LQ p0 p1 p2 p3 p4 p5 2 x0 x1 x2 x3 dA sA pk [sR jt, sR b1_0, sI 0, sI 1, sI 1])) rfl ?_
    refine XS.iload X5.here hx rfl (hb hby at_353) rfl ?_
    refine XS.iconst X5.here hx rfl (hb hby at_355) ?_
    refine XS.icmpYes X5.here hx rfl (pc0 := 356) (pc' := 387) rfl (hb hby at_356) rfl (flt (by decide)).2.2.2 (by decide) (by decide) ?_
    refine XS.iload X5.here hx rfl (hb hby at_387) rfl ?_
    refine XS.iconst X5.here hx rfl (hb hby at_389) ?_
    refine XS.icmpYes X5.here hx rfl (pc0 := 390) (pc' := 421) rfl (hb hby at_390) rfl (flt (by decide)).2.2.2 (by decide) (by decide) ?_
    refine XS.iload X5.here hx rfl (hb hby at_421) rfl ?_
    refine XS.iconst X5.here hx rfl (hb hby at_423) ?_
    refine XS.icmpYes X5.here hx rfl (pc0 := 424) (pc' := 455) rfl (hb hby at_424) rfl (flt (by decide)).2.2.2 (by decide) (by decide) ?_
    refine XS.iload X5.here hx rfl (hb hby at_455) rfl ?_
    exact kZ
  refine Go.retNW (s := s) (vm₁ := vmT) X5 hx hST (by rw [e5]; exact hk1) hlk (t := .boolean) hret (by simp) (hb hby at_457) (by decide) (by decide) ?_
  exact ⟨rfl, N5⟩
theorem tb_2_2 (l : Launch) (Z : State) (a0 : Array Value) (hw : ∀ d ∈ tables_1, d.before a0 Z = true) {p : Program} {e : Env} {s : State} {m : MethodId} {args : Array Value} {below : List Frame} {meth : Method} {c : Code} {T0 : State} {locs0 : List Loc} {vmT : Vm} {h0 : Heap} {n0 kT : Nat} {x0 x1 x2 x3 cs : Int32} {sv : Value} {em dA : Addr} (hC : Com l Z a0 p e s m args below meth c T0 locs0 vmT 7 83 h0 n0 kT x0 x1 x2 x3 cs sv em dA) (p0 p1 p2 p3 p4 p5 : Int32) (sA pk jt sn bA : Addr) (fF : Nat → Int32) (hj0 : Exa Z h0 jt "com/example/bindery/bindery/compiler/JavaType") (hj1 : Fld Z h0 jt "com/example/bindery/bindery/compiler/JavaType" "name" "Ljava/lang/String;" (.ref sn)) (hj2 : Exa Z h0 sn "java/lang/String") (hj3 : Fld Z h0 sn "java/lang/String" "coder" "B" (.int 0)) (hj4 : Fld Z h0 sn "java/lang/String" "value" "[B" (.ref bA)) (hj5 : AV Z h0 bA .byte 2 (fun k => .int (fF k))) (hfit : ∀ k, k < 2 → fits .byte (.int (fF k)) = true) (hf0 : fF (0 : Int32).toNatClampNeg = nar .byte ((nar .char x0).toInt8.toInt32)) (hf1 : fF (1 : Int32).toNatClampNeg = nar .byte ((nar .char x1).toInt8.toInt32)) (hd1 : x1 = 46) :
    Go p e below (fun o u => ∃ v L, o = .returned v ∧ Q0 n0 v u.heap L ∧ ReturnedEndW s o u L 32 4288) (T0.setTop (mkF m 218 (LQ p0 p1 p2 p3 p4 p5 2 x0 x1 x2 x3 dA sA pk [sR jt, .unset, .unset, .unset, .unset]) [])) := by
  obtain ⟨X0, hx, hby, hml, hlk, hret, hZ, hown, wS, Z0, e0, N0, hST, hkT, hCH, hx0, hx1, hx2, hx3, hcs, hsv, S_CS, S_SV, S_EM, hold, VD⟩ := hC
  refine Vi (T0.setTop (mkF m 220 (LQ p0 p1 p2 p3 p4 p5 2 x0 x1 x2 x3 dA sA pk [sR jt, .unset, .unset, .unset, .unset]) [(.ref jt)])) (fun tZ kZ => ?_) ?_
  · refine XS.aload X0.here hx rfl (hb hby at_218) rfl rfl ?_
    exact kZ
  obtain ⟨cq1, kq1, q1a, q1b, q1c⟩ := isOf hZ e0 hj0
  obtain ⟨_, _, ⟨T1, L1, k1, n1⟩, -, X1, hS1, -, ⟨Lc1, hQ1, l1, y1, z1, A1⟩, st1⟩ := virtualBackS (s := s.setVm vmT) X0 hx (y := y9) (z := y9) hown (mvT hZ (wq hw 54 rfl)) (mvT hZ (wq hw 55 rfl)) (notFace_of_selects (args := #[]) (mvT hZ (wq hw 57 rfl))) (mvT hZ (wq hw 57 rfl)) (mvT hZ (wq hw 56 rfl)) (by decide) (backOfSH (s := s) (vm0 := vmT) (W := 0) (rm9n2B l Z a0 hw [] jt sn bA fF cs sv 2 h0 n0 Z0 hj0 hj1 hj2 hj3 hj4 hj5 (S_CS.ext hold.2) (S_SV.ext hold.2) hcs hsv (by decide) (by decide) (by decide) (by decide) (by decide) (own_l2_2 _ _ _ _ (by rw [hf1]; exact own_dot hd1))) hZ (wq hw 58 rfl) (wq hw 16 rfl) (by decide) (by decide) (own_EW hw) hCH) q1a q1c (g := (mkF m 220 (LQ p0 p1 p2 p3 p4 p5 2 x0 x1 x2 x3 dA sA pk [sR jt, .unset, .unset, .unset, .unset]) [(.ref jt)])) rfl (by rw [hml]; rfl) (Steps.refl _) (argsL := []) (rest := []) (lenOf pd_7 rfl) rfl (leW rfl) (hb hby at_220) (fun _ _ => ⟨rfl, e0, (by decide : 7 + 2 ≤ _), (by decide : 83 + 68 ≤ _)⟩)
  dsimp only [Pt.U, Pt.locs, Pt.cells, Pt.slots] at X1 hS1 l1 y1 z1 A1 st1 hQ1
  subst l1 y1 z1
  obtain ⟨b1_0, b1_1, rfl, N1q, Kq1, f1_0, f1_1, f1_2, f1_3, f1_4, f1_5, f1_6, f1_7, f1_8, f1_9, f1_10, f1_11⟩ := hQ1
  have CR2c := CHr.trans (CHr.refl hCH) A1
  have c3_0 := hold.keep Kq1 all0
  have c3_3 := S_EM.ext c3_0.2
  have c3_4 := VD.keep Kq1 nin0
  have K1 : Keep h0 T1.heap [] := (Keep.refl h0 []).trans Kq1 all0
  have Z1 : n0 ≤ T1.heap.size := Nat.le_trans Z0 Kq1.1
  have ne_b1_1_jt := AV.neExa f1_11 f1_0 (wq hw 15 rfl)
  have ne_b1_1_sn := AV.neExa f1_11 f1_2 (wq hw 8 rfl)
  have ne_b1_1_b1_0 := AV.neExa f1_11 f1_8 (wq hw 8 rfl)
  have N1 := Fr.app N0 N1q
  have hS1c : s.Since T1.vm T1.heap.size := State.Since.trans hST hS1 (Nat.le_trans hkT Kq1.1)
  replace hZ : Z.Warmed39 (s.setVm T1.vm).vm := State.Warmed39.trans (t := s.setVm vmT) hZ hS1.1
  replace hown : (s.setVm T1.vm).vm.findClass "com/example/bindery/bindery/compiler/JavaTypeSimpleNamePinLaw" = some m.cls := by rw [show (s.setVm T1.vm).vm = T1.vm from rfl, hS1.1.alike.findClass]; exact hown
  refine Go.via (fun t k => st1.trans k) ?_
  refine Vi (T1.setTop (mkF m 307 (LQ p0 p1 p2 p3 p4 p5 2 x0 x1 x2 x3 dA sA pk [sR jt, sR b1_0, sI 1, sI 0, .unset]) [(.ref b1_0)])) (fun tZ kZ => ?_) ?_
  · refine XS.astore X1.here hx rfl (hb hby at_223) rfl rfl (l' := (LQ p0 p1 p2 p3 p4 p5 2 x0 x1 x2 x3 dA sA pk [sR jt, sR b1_0, .unset, .unset, .unset])) rfl ?_
    refine XS.iconst X1.here hx rfl (hb hby at_225) ?_
    refine XS.istore X1.here hx rfl (hb hby at_226) rfl (l' := (LQ p0 p1 p2 p3 p4 p5 2 x0 x1 x2 x3 dA sA pk [sR jt, sR b1_0, sI (-1), .unset, .unset])) rfl ?_
    refine XS.iload X1.here hx rfl (hb hby at_228) rfl ?_
    refine XS.ifNo X1.here hx rfl (hb hby at_230) rfl ((if0 _ _).trans (tlt (by decide)).2.2.2) ?_
    refine XS.iload X1.here hx rfl (hb hby at_233) rfl ?_
    refine XS.bipush X1.here hx rfl (hb hby at_235) ?_
    have sg237 : Steps p.tables e below (T1.setTop (mkF m 243 (LQ p0 p1 p2 p3 p4 p5 2 x0 x1 x2 x3 dA sA pk [sR jt, sR b1_0, sI (if x0 = (46 : Int32) then (0 : Int32) else (-1 : Int32)), .unset, .unset]) [])) tZ → Steps p.tables e below (T1.setTop (mkF m 237 (LQ p0 p1 p2 p3 p4 p5 2 x0 x1 x2 x3 dA sA pk [sR jt, sR b1_0, sI (-1), .unset, .unset]) [(.int 46), (.int x0)])) tZ := by
      intro kj
      by_cases hc237 : x0 = (46 : Int32)
      · try simp only [if_pos hc237] at kj
        refine XS.icmpNo X1.here hx rfl (hb hby at_237) rfl (teq hc237).2 ?_
        refine XS.iconst X1.here hx rfl (hb hby at_240) ?_
        refine XS.istore X1.here hx rfl (hb hby at_241) rfl (l' := (LQ p0 p1 p2 p3 p4 p5 2 x0 x1 x2 x3 dA sA pk [sR jt, sR b1_0, sI 0, .unset, .unset])) rfl ?_
        exact kj
      · try simp only [if_neg hc237] at kj
        refine XS.icmpYes X1.here hx rfl (pc0 := 237) (pc' := 243) rfl (hb hby at_237) rfl (feq hc237).2 (by decide) (by decide) ?_
        exact kj
    refine sg237 ?_
    show Steps p.tables e below (T1.setTop (mkF m 243 (LQ p0 p1 p2 p3 p4 p5 2 x0 x1 x2 x3 dA sA pk [sR jt, sR b1_0, sI (if x0 = (46 : Int32) then (0 : Int32) else (-1 : Int32)), .unset, .unset]) [])) _
    refine XS.iload X1.here hx rfl (hb hby at_243) rfl ?_
    refine XS.iconst X1.here hx rfl (hb hby at_245) ?_
    refine XS.icmpNo X1.here hx rfl (hb hby at_246) rfl (tlt (by decide)).2.2.2 ?_
    refine XS.iload X1.here hx rfl (hb hby at_249) rfl ?_
    refine XS.bipush X1.here hx rfl (hb hby at_251) ?_
    refine XS.icmpNo X1.here hx rfl (hb hby at_253) rfl (teq hd1).2 ?_
    refine XS.iconst X1.here hx rfl (hb hby at_256) ?_
    refine XS.istore X1.here hx rfl (hb hby at_257) rfl (l' := (LQ p0 p1 p2 p3 p4 p5 2 x0 x1 x2 x3 dA sA pk [sR jt, sR b1_0, sI 1, .unset, .unset])) rfl ?_
    refine XS.iload X1.here hx rfl (hb hby at_259) rfl ?_
    refine XS.iconst X1.here hx rfl (hb hby at_261) ?_
    refine XS.icmpYes X1.here hx rfl (pc0 := 262) (pc' := 275) rfl (hb hby at_262) rfl (flt (by decide)).2.2.2 (by decide) (by decide) ?_
    refine XS.iload X1.here hx rfl (hb hby at_275) rfl ?_
    refine XS.iconst X1.here hx rfl (hb hby at_277) ?_
    refine XS.icmpYes X1.here hx rfl (pc0 := 278) (pc' := 291) rfl (hb hby at_278) rfl (flt (by decide)).2.2.2 (by decide) (by decide) ?_
    refine XS.iload X1.here hx rfl (hb hby at_291) rfl ?_
    refine XS.iload X1.here hx rfl (hb hby at_293) rfl ?_
    refine XS.isub X1.here hx rfl (hb hby at_295) rfl ?_
    refine XS.iconst X1.here hx rfl (hb hby at_296) ?_
    refine XS.isub X1.here hx rfl (hb hby at_297) rfl ?_
    refine XS.istore X1.here hx rfl (hb hby at_298) rfl (l' := (LQ p0 p1 p2 p3 p4 p5 2 x0 x1 x2 x3 dA sA pk [sR jt, sR b1_0, sI 1, sI 0, .unset])) rfl ?_
    refine XS.aload X1.here hx rfl (hb hby at_300) rfl rfl ?_
    refine XS.ifnullNo X1.here hx rfl (hb hby at_302) rfl ?_
    refine XS.aload X1.here hx rfl (hb hby at_305) rfl rfl ?_
    exact kZ
  obtain ⟨cq4, kq4, q4a, q4b, q4c⟩ := isOf hZ rfl f1_8
  obtain ⟨_, _, ⟨T4, L4, k4, n4⟩, -, X4, ⟨Lc4, hQ4, l4, y4, z4⟩, st4⟩ := X1.virtualBack hx (y := y11) (z := y11) hown (mvT hZ (wq hw 114 rfl)) (mvT hZ (wq hw 65 rfl)) (notFace_of_selects (args := #[]) (mvT hZ (wq hw 67 rfl))) (mvT hZ (wq hw 67 rfl)) (mvT hZ (wq hw 66 rfl)) (by decide) (backOf (W := 0) (rm11 l Z a0 hw [] b1_0 b1_1 0 (own_t []) cs T1.heap n0 Z1 f1_8 f1_9 f1_10 f1_11 f1_6 hcs) hZ (wq hw 68 rfl) (wq hw 7 rfl) (by decide) (by decide)) q4a q4c (g := (mkF m 307 (LQ p0 p1 p2 p3 p4 p5 2 x0 x1 x2 x3 dA sA pk [sR jt, sR b1_0, sI 1, sI 0, .unset]) [(.ref b1_0)])) rfl (by rw [hml]; rfl) (Steps.refl _) (argsL := []) (rest := []) (lenOf pd_9 rfl) rfl (leW rfl) (hb hby at_307) (fun _ _ => ⟨rfl, rfl, (by decide : 7 + 2 + 0 ≤ _), (by decide : 83 + 68 + 0 ≤ _)⟩)
  dsimp only [Pt.U, Pt.locs, Pt.cells, Pt.slots] at X4 l4 y4 z4 st4 hQ4
  subst l4 y4 z4
  obtain ⟨rfl, N4q, e4⟩ := hQ4
  have hv4 : (f11 b1_0 b1_1 0 (own_t []) cs) = (Int32.ofNat 0) := by unfold f11; exact own_sh0 _
  rw [hv4] at st4
  have N4 := Fr.app N1 N4q
  refine Go.via (fun t k => st4.trans k) ?_
  refine Vi (T4.setTop (mkF m 457 (LQ p0 p1 p2 p3 p4 p5 2 x0 x1 x2 x3 dA sA pk [sR jt, sR b1_0, sI 1, sI 0, sI 1]) [(.int 1)])) (fun tZ kZ => ?_) ?_
  · refine XS.iload X4.here hx rfl (hb hby at_310) rfl ?_
    refine XS.icmpYes X4.here hx rfl (pc0 := 312) (pc' := 317) rfl (hb hby at_312) rfl (teq (by decide)).1 (by decide) (by decide) ?_
    refine XS.iconst X4.here hx rfl (hb hby at_317) ?_
    refine XS.istore X4.here hx rfl (hb hby at_318) rfl (l' := (LQ p0 p1 p2 p3 p4 p5 2 x0 x1 x2 x3 dA sA pk [sR jt, sR b1_0, sI 1, sI 0, sI 1])) rfl ?_
    refine XS.iload X4.here hx rfl (hb hby at_320) rfl ?_
    refine XS.ifYes X4.here hx rfl (pc0 := 322) (pc' := 353) rfl (hb hby at_322) rfl ((if0 _ _).trans (flt (by decide)).2.2.2) (by decide) (by decide) ?_
    refine XS.iload X4.here hx rfl (hb hby at_353) rfl ?_
    refine XS.iconst X4.here hx rfl (hb hby at_355) ?_
    refine XS.icmpYes X4.here hx rfl (pc0 := 356) (pc' := 387) rfl (hb hby at_356) rfl (flt (by decide)).2.2.2 (by decide) (by decide) ?_
    refine XS.iload X4.here hx rfl (hb hby at_387) rfl ?_
    refine XS.iconst X4.here hx rfl (hb hby at_389) ?_
    refine XS.icmpYes X4.here hx rfl (pc0 := 390) (pc' := 421) rfl (hb hby at_390) rfl (flt (by decide)).2.2.2 (by decide) (by decide) ?_
    refine XS.iload X4.here hx rfl (hb hby at_421) rfl ?_
    refine XS.iconst X4.here hx rfl (hb hby at_423) ?_
    refine XS.icmpYes X4.here hx rfl (pc0 := 424) (pc' := 455) rfl (hb hby at_424) rfl (flt (by decide)).2.2.2 (by decide) (by decide) ?_
    refine XS.iload X4.here hx rfl (hb hby at_455) rfl ?_
    exact kZ
  refine Go.retNW (s := s) (vm₁ := T1.vm) X4 hx hS1c (by rw [e4]; exact (Nat.le_refl _)) hlk (t := .boolean) hret (by simp) (hb hby at_457) (by decide) (by decide) ?_
  exact ⟨rfl, N4⟩
theorem ta_2 (l : Launch) (Z : State) (a0 : Array Value) (hw : ∀ d ∈ tables_1, d.before a0 Z = true) {p : Program} {e : Env} {s : State} {m : MethodId} {args : Array Value} {below : List Frame} {meth : Method} {c : Code} {T0 : State} {locs0 : List Loc} {vmT : Vm} {h0 : Heap} {n0 kT : Nat} {x0 x1 x2 x3 cs : Int32} {sv : Value} {em dA : Addr} (hC : Com l Z a0 p e s m args below meth c T0 locs0 vmT 4 74 h0 n0 kT x0 x1 x2 x3 cs sv em dA) (p0 p1 p2 p3 p4 p5 : Int32) (sA pk : Addr) (VS : AV Z h0 sA .char 2 (fun k => .int ((up (up (fun _ => (0 : Int32)) (0 : Int32).toNatClampNeg (nar .char x0)) (1 : Int32).toNatClampNeg (nar .char x1)) k))) :
    Go p e below (fun o u => ∃ v L, o = .returned v ∧ Q0 n0 v u.heap L ∧ ReturnedEndW s o u L 32 4288) (T0.setTop (mkF m 198 (LQ p0 p1 p2 p3 p4 p5 2 x0 x1 x2 x3 dA sA pk [.unset, .unset, .unset, .unset, .unset]) [])) := by
  obtain ⟨X0, hx, hby, hml, hlk, hret, hZ, hown, wS, Z0, e0, N0, hST, hkT, hCH, hx0, hx1, hx2, hx3, hcs, hsv, S_CS, S_SV, S_EM, hold, VD⟩ := hC
  obtain ⟨T1, h1, X1, e1, E1, A1, D1, -, st1⟩ := newO X0 hx hZ hown (wq hw 14 rfl) (wq hw 15 rfl) (wq hw 16 rfl) e0 (g := (mkF m 198 (LQ p0 p1 p2 p3 p4 p5 2 x0 x1 x2 x3 dA sA pk [.unset, .unset, .unset, .unset, .unset]) [])) rfl (hb hby at_198) (by decide) (by decide)
  obtain ⟨b1, g1⟩ : ∃ z, z = h0.size := ⟨_, rfl⟩
  rw [← g1] at A1 D1 st1
  have g_b1 : n0 ≤ b1 := Nat.le_trans Z0 (Nat.le_of_eq g1.symm)
  have sz_b1 : h0.size ≤ b1 := Nat.le_trans ((Keep.refl h0 [])).1 (Nat.le_of_eq g1.symm)
  have ne_dA_b1 : dA ≠ b1 := Nat.ne_of_lt (Nat.lt_of_lt_of_le VD.lt (Nat.le_of_eq g1.symm))
  have ne_sA_b1 : sA ≠ b1 := Nat.ne_of_lt (Nat.lt_of_lt_of_le VS.lt (Nat.le_of_eq g1.symm))
  have Ac2 := CHr.ext E1 hCH
  have CR2c := CHr.trans (CHr.refl hCH) Ac2
  have c3_0 := hold.ext E1
  have c3_1 := S_CS.ext c3_0.2
  have c3_2 := S_SV.ext c3_0.2
  have c3_3 := S_EM.ext c3_0.2
  have c3_4 := VD.ext E1
  have c3_5 := VS.ext E1
  have K1 : Keep h0 h1 [] := (Keep.refl h0 []).ext E1
  have Z1 : n0 ≤ h1.size := Nat.le_trans Z0 E1.1
  have hk1 := Nat.le_trans hkT E1.1
  have Sf_b1 := Safe.ext E1 hCH (Safe.new (Nat.le_of_eq g1.symm))
  have F1_packageName : Fld Z h1 b1 "com/example/bindery/bindery/compiler/JavaType" "packageName" "Ljava/lang/String;" .null := D1 (Or.inr (wq hw 49 rfl)) (ty := (.object "java/lang/String")) (by decide)
  have F1_name : Fld Z h1 b1 "com/example/bindery/bindery/compiler/JavaType" "name" "Ljava/lang/String;" .null := D1 (Or.inr (wq hw 51 rfl)) (ty := (.object "java/lang/String")) (by decide)
  have F1_argument : Fld Z h1 b1 "com/example/bindery/bindery/compiler/JavaType" "argument" "Ljava/util/Optional;" .null := D1 (Or.inr (wq hw 53 rfl)) (ty := (.object "java/util/Optional")) (by decide)
  refine Go.via st1 ?_
  refine Vi (T1.setTop (mkF m 204 (LQ p0 p1 p2 p3 p4 p5 2 x0 x1 x2 x3 dA sA pk [.unset, .unset, .unset, .unset, .unset]) [(.ref pk), (.ref b1), (.ref b1)])) (fun tZ kZ => ?_) ?_
  · refine XS.dup X1.here hx rfl (hb hby at_201) rfl rfl ?_
    refine XS.aload X1.here hx rfl (hb hby at_202) rfl rfl ?_
    exact kZ
  obtain ⟨T4, h4, X4, e4, E4, A4, D4, -, st4⟩ := newO X1 hx hZ hown (wq hw 17 rfl) (wq hw 8 rfl) (wq hw 7 rfl) e1 (g := (mkF m 204 (LQ p0 p1 p2 p3 p4 p5 2 x0 x1 x2 x3 dA sA pk [.unset, .unset, .unset, .unset, .unset]) [(.ref pk), (.ref b1), (.ref b1)])) rfl (hb hby at_204) (by decide) (by decide)
  obtain ⟨b4, g4⟩ : ∃ z, z = h1.size := ⟨_, rfl⟩
  rw [← g4] at A4 D4 st4
  have g_b4 : n0 ≤ b4 := Nat.le_trans Z1 (Nat.le_of_eq g4.symm)
  have sz_b4 : h0.size ≤ b4 := Nat.le_trans (K1).1 (Nat.le_of_eq g4.symm)
  have ne_dA_b4 : dA ≠ b4 := Nat.ne_of_lt (Nat.lt_of_lt_of_le c3_4.lt (Nat.le_of_eq g4.symm))
  have ne_sA_b4 : sA ≠ b4 := Nat.ne_of_lt (Nat.lt_of_lt_of_le c3_5.lt (Nat.le_of_eq g4.symm))
  have ne_b1_b4 : b1 ≠ b4 := Nat.ne_of_lt (Nat.lt_of_lt_of_le A1.lt (Nat.le_of_eq g4.symm))
  have Ac5 := CHr.ext E4 Ac2.1
  have Sf5_0 := Ac5.safe A1.lt Sf_b1
  have CR5c := CHr.trans CR2c Ac5
  have c6_0 := c3_0.ext E4
  have c6_1 := S_CS.ext c6_0.2
  have c6_2 := S_SV.ext c6_0.2
  have c6_3 := S_EM.ext c6_0.2
  have c6_4 := c3_4.ext E4
  have c6_5 := c3_5.ext E4
  have c6_7 := A1.ext E4
  have c6_8 := F1_packageName.ext E4
  have c6_9 := F1_name.ext E4
  have c6_10 := F1_argument.ext E4
  have K4 : Keep h0 h4 [] := K1.ext E4
  have Z4 : n0 ≤ h4.size := Nat.le_trans Z1 E4.1
  have hk4 := Nat.le_trans hk1 E4.1
  have Sf_b4 := Safe.ext E4 Ac2.1 (Safe.new (Nat.le_of_eq g4.symm))
  have F4_value : Fld Z h4 b4 "java/lang/String" "value" "[B" .null := D4 (Or.inr (wq hw 10 rfl)) (ty := (.array .byte)) (by decide)
  have F4_coder : Fld Z h4 b4 "java/lang/String" "coder" "B" (.int 0) := D4 (Or.inr (wq hw 11 rfl)) (ty := .byte) (by decide)
  refine Go.via st4 ?_
  refine Vi (T4.setTop (mkF m 210 (LQ p0 p1 p2 p3 p4 p5 2 x0 x1 x2 x3 dA sA pk [.unset, .unset, .unset, .unset, .unset]) [(.ref sA), (.ref b4), (.ref b4), (.ref pk), (.ref b1), (.ref b1)])) (fun tZ kZ => ?_) ?_
  · refine XS.dup X4.here hx rfl (hb hby at_207) rfl rfl ?_
    refine XS.aload X4.here hx rfl (hb hby at_208) rfl rfl ?_
    exact kZ
  obtain ⟨_, _, ⟨T7, L7, k7, n7⟩, -, X7, ⟨Lc7, hQ7, l7, y7, z7⟩, st7⟩ := X4.specialBack hx (y := y2) rfl hown (mvT hZ (wq hw 18 rfl)) (mvT hZ (wq hw 19 rfl)) (mvT hZ (wq hw 20 rfl)) (by decide) (backOf (W := 4) (rm2n2 l Z a0 hw [] b4 sA (up (up (fun _ => (0 : Int32)) (0 : Int32).toNatClampNeg (nar .char x0)) (1 : Int32).toNatClampNeg (nar .char x1)) cs h4 n0 Z4 A4 F4_value F4_coder g_b4 c6_5 c6_1 ne_sA_b4 (own_hch hx0) (own_hch hx1) hcs) hZ (wq hw 20 rfl) (wq hw 7 rfl) (by decide) (by decide)) (g := (mkF m 210 (LQ p0 p1 p2 p3 p4 p5 2 x0 x1 x2 x3 dA sA pk [.unset, .unset, .unset, .unset, .unset]) [(.ref sA), (.ref b4), (.ref b4), (.ref pk), (.ref b1), (.ref b1)])) rfl (by rw [hml]; rfl) (Steps.refl _) (a := b4) (argsL := [(.ref sA)]) (rest := [(.ref b4), (.ref pk), (.ref b1), (.ref b1)]) (lenOf pd_1 rfl) rfl (leW rfl) (hb hby at_210) (fun _ _ => ⟨rfl, e4, (by decide : 4 + 1 + 1 + 1 ≤ _), (by decide : 74 + 3 + 4 + 2 ≤ _)⟩)
  dsimp only [Pt.U, Pt.locs, Pt.cells, Pt.slots] at X7 l7 y7 z7 st7 hQ7
  subst l7 y7 z7
  obtain ⟨b7_0, rfl, N7q, Kq7, hz_b7_0, f7_0, f7_1, f7_2, f7_3, f7_4, f7_5⟩ := hQ7
  have g_b7_0 : n0 ≤ b7_0 := Nat.le_trans Z4 hz_b7_0
  have sz_b7_0 : h0.size ≤ b7_0 := Nat.le_trans (K4).1 hz_b7_0
  have ne_dA_b7_0 : dA ≠ b7_0 := Nat.ne_of_lt (Nat.lt_of_lt_of_le c6_4.lt hz_b7_0)
  have ne_sA_b7_0 : sA ≠ b7_0 := Nat.ne_of_lt (Nat.lt_of_lt_of_le c6_5.lt hz_b7_0)
  have ne_b1_b7_0 : b1 ≠ b7_0 := Nat.ne_of_lt (Nat.lt_of_lt_of_le c6_7.lt hz_b7_0)
  have ne_b4_b7_0 : b4 ≠ b7_0 := Nat.ne_of_lt (Nat.lt_of_lt_of_le A4.lt hz_b7_0)
  have Ac8 := CHr.keep Kq7 (allS Sf_b4 all0) Ac5.1
  have Sf8_0 := Ac8.safe c6_7.lt Sf5_0
  have Sf8_1 := Ac8.safe A4.lt Sf_b4
  have CR8c := CHr.trans CR5c Ac8
  have c9_0 := c6_0.keep Kq7 (allS g_b4 all0)
  have c9_2 := S_SV.ext c9_0.2
  have c9_3 := S_EM.ext c9_0.2
  have c9_4 := c6_4.keep Kq7 (ninS ne_dA_b4 nin0)
  have c9_7 := c6_7.keep Kq7
  have c9_8 := c6_8.keep Kq7 (ninS ne_b1_b4 nin0)
  have c9_9 := c6_9.keep Kq7 (ninS ne_b1_b4 nin0)
  have c9_10 := c6_10.keep Kq7 (ninS ne_b1_b4 nin0)
  have K7 : Keep h0 T7.heap [] := K4.trans Kq7 (allS (Or.inr sz_b4) all0)
  have Z7 : n0 ≤ T7.heap.size := Nat.le_trans Z4 Kq7.1
  have hk7 := Nat.le_trans hk4 Kq7.1
  have N7 := Fr.app N0 N7q
  refine Go.via (fun t k => st7.trans k) ?_
  obtain ⟨fF, hfE⟩ : ∃ f : Nat → Int32, f = (up (up (fun _ => (0 : Int32)) (0 : Int32).toNatClampNeg (nar .byte (((up (up (fun _ => (0 : Int32)) (0 : Int32).toNatClampNeg (nar .char x0)) (1 : Int32).toNatClampNeg (nar .char x1)) (0 : Int32).toNatClampNeg).toInt8.toInt32))) (1 : Int32).toNatClampNeg (nar .byte (((up (up (fun _ => (0 : Int32)) (0 : Int32).toNatClampNeg (nar .char x0)) (1 : Int32).toNatClampNeg (nar .char x1)) (1 : Int32).toNatClampNeg).toInt8.toInt32))) := ⟨_, rfl⟩
  rw [← hfE] at f7_5
  have hfit : ∀ k, k < 2 → fits .byte (.int (fF k)) = true := by rw [hfE]; exact (fun k hk => by match k, hk with | 0, _ => exact fits_nar_byte _ | 1, _ => exact fits_nar_byte _ | k + 2, hk => exact absurd hk (by omega))
  have hf0 : fF (0 : Int32).toNatClampNeg = nar .byte ((nar .char x0).toInt8.toInt32) := by rw [hfE]; rfl
  have hf1 : fF (1 : Int32).toNatClampNeg = nar .byte ((nar .char x1).toInt8.toInt32) := by rw [hfE]; rfl
  obtain ⟨_, _, ⟨T10, L10, k10, n10⟩, -, X10, ⟨Lc10, hQ10, l10, y10, z10⟩, st10⟩ := X7.specialBack hx (y := y5) rfl hown (mvT hZ (wq hw 31 rfl)) (mvT hZ (wq hw 32 rfl)) (mvT hZ (wq hw 33 rfl)) (by decide) (backOf (W := 1) (rm5 l Z a0 hw [] b1 pk b4 em T7.heap n0 Z7 c9_7 c9_8 c9_9 c9_10 g_b1 c9_3) hZ (wq hw 33 rfl) (wq hw 16 rfl) (by decide) (by decide)) (g := (mkF m 213 (LQ p0 p1 p2 p3 p4 p5 2 x0 x1 x2 x3 dA sA pk [.unset, .unset, .unset, .unset, .unset]) [(.ref b4), (.ref pk), (.ref b1), (.ref b1)])) rfl (by rw [hml]; rfl) (Steps.refl _) (a := b1) (argsL := [(.ref pk), (.ref b4)]) (rest := [(.ref b1)]) (lenOf pd_4 rfl) rfl (leW rfl) (hb hby at_213) (fun _ _ => ⟨rfl, rfl, (by decide : 4 + 1 + 1 + 1 + 0 ≤ _), (by decide : 74 + 3 + 4 + 2 + 0 ≤ _)⟩)
  dsimp only [Pt.U, Pt.locs, Pt.cells, Pt.slots] at X10 l10 y10 z10 st10 hQ10
  subst l10 y10 z10
  obtain ⟨rfl, N10q, Kq10, f10_0, f10_1, f10_2, f10_3, f10_4⟩ := hQ10
  have Ac11 := CHr.keep Kq10 (allS Sf8_0 all0) Ac8.1
  have Sf11_0 := Ac11.safe c9_7.lt Sf8_0
  have Sf11_1 := Ac11.safe f7_0.lt Sf8_1
  have CR11c := CHr.trans CR8c Ac11
  have c12_0 := c9_0.keep Kq10 (allS g_b1 all0)
  have c12_1 := S_CS.ext c12_0.2
  have c12_2 := S_SV.ext c12_0.2
  have c12_4 := c9_4.keep Kq10 (ninS ne_dA_b1 nin0)
  have c12_11 := f7_0.keep Kq10
  have c12_12 := f7_1.keep Kq10 (ninS (Ne.symm ne_b1_b4) nin0)
  have c12_13 := f7_2.keep Kq10 (ninS (Ne.symm ne_b1_b4) nin0)
  have c12_14 := f7_5.keep Kq10 (ninS (Ne.symm ne_b1_b7_0) nin0)
  have K10 : Keep h0 T10.heap [] := K7.trans Kq10 (allS (Or.inr sz_b1) all0)
  have Z10 : n0 ≤ T10.heap.size := Nat.le_trans Z7 Kq10.1
  have hk10 := Nat.le_trans hk7 Kq10.1
  have N10 := Fr.app N7 N10q
  refine Go.via (fun t k => st10.trans k) ?_
  refine Vi (T10.setTop (mkF m 218 (LQ p0 p1 p2 p3 p4 p5 2 x0 x1 x2 x3 dA sA pk [sR b1, .unset, .unset, .unset, .unset]) [])) (fun tZ kZ => ?_) ?_
  · refine XS.astore X10.here hx rfl (hb hby at_216) rfl rfl (l' := (LQ p0 p1 p2 p3 p4 p5 2 x0 x1 x2 x3 dA sA pk [sR b1, .unset, .unset, .unset, .unset])) rfl ?_
    exact kZ
  by_cases hd1 : x1 = 46
  · exact tb_2_2 l Z a0 hw (s := s) (vmT := vmT) ⟨X10, hx, hby, hml, hlk, hret, hZ, hown, wS, Z10, rfl, N10, hST, hk10, Ac11.1, hx0, hx1, hx2, hx3, hcs, hsv, S_CS, S_SV, S_EM, c12_0, c12_4⟩ p0 p1 p2 p3 p4 p5 sA pk b1 b4 b7_0 fF f10_0 f10_2 c12_11 c12_13 c12_12 c12_14 hfit hf0 hf1 hd1
  · skip
    by_cases hd0 : x0 = 46
    · exact tb_2_1 l Z a0 hw (s := s) (vmT := vmT) ⟨X10, hx, hby, hml, hlk, hret, hZ, hown, wS, Z10, rfl, N10, hST, hk10, Ac11.1, hx0, hx1, hx2, hx3, hcs, hsv, S_CS, S_SV, S_EM, c12_0, c12_4⟩ p0 p1 p2 p3 p4 p5 sA pk b1 b4 b7_0 fF f10_0 f10_2 c12_11 c12_13 c12_12 c12_14 hfit hf0 hf1 hd1 hd0
    · skip
      exact tb_2_0 l Z a0 hw (s := s) (vmT := vmT) ⟨X10, hx, hby, hml, hlk, hret, hZ, hown, wS, Z10, rfl, N10, hST, hk10, Ac11.1, hx0, hx1, hx2, hx3, hcs, hsv, S_CS, S_SV, S_EM, c12_0, c12_4⟩ p0 p1 p2 p3 p4 p5 sA pk b1 b4 b7_0 fF f10_0 f10_2 c12_11 c12_13 c12_12 c12_14 hfit hf0 hf1 hd1 hd0
theorem tb_3_0 (l : Launch) (Z : State) (a0 : Array Value) (hw : ∀ d ∈ tables_1, d.before a0 Z = true) {p : Program} {e : Env} {s : State} {m : MethodId} {args : Array Value} {below : List Frame} {meth : Method} {c : Code} {T0 : State} {locs0 : List Loc} {vmT : Vm} {h0 : Heap} {n0 kT : Nat} {x0 x1 x2 x3 cs : Int32} {sv : Value} {em dA : Addr} (hC : Com l Z a0 p e s m args below meth c T0 locs0 vmT 7 85 h0 n0 kT x0 x1 x2 x3 cs sv em dA) (p0 p1 p2 p3 p4 p5 : Int32) (sA pk jt sn bA : Addr) (fF : Nat → Int32) (hj0 : Exa Z h0 jt "com/example/bindery/bindery/compiler/JavaType") (hj1 : Fld Z h0 jt "com/example/bindery/bindery/compiler/JavaType" "name" "Ljava/lang/String;" (.ref sn)) (hj2 : Exa Z h0 sn "java/lang/String") (hj3 : Fld Z h0 sn "java/lang/String" "coder" "B" (.int 0)) (hj4 : Fld Z h0 sn "java/lang/String" "value" "[B" (.ref bA)) (hj5 : AV Z h0 bA .byte 3 (fun k => .int (fF k))) (hfit : ∀ k, k < 3 → fits .byte (.int (fF k)) = true) (hf0 : fF (0 : Int32).toNatClampNeg = nar .byte ((nar .char x0).toInt8.toInt32)) (hf1 : fF (1 : Int32).toNatClampNeg = nar .byte ((nar .char x1).toInt8.toInt32)) (hf2 : fF (2 : Int32).toNatClampNeg = nar .byte ((nar .char x2).toInt8.toInt32)) (hd2 : ¬ x2 = 46) (hd1 : ¬ x1 = 46) (hd0 : ¬ x0 = 46) :
    Go p e below (fun o u => ∃ v L, o = .returned v ∧ Q0 n0 v u.heap L ∧ ReturnedEndW s o u L 32 4288) (T0.setTop (mkF m 218 (LQ p0 p1 p2 p3 p4 p5 3 x0 x1 x2 x3 dA sA pk [sR jt, .unset, .unset, .unset, .unset]) [])) := by
  obtain ⟨X0, hx, hby, hml, hlk, hret, hZ, hown, wS, Z0, e0, N0, hST, hkT, hCH, hx0, hx1, hx2, hx3, hcs, hsv, S_CS, S_SV, S_EM, hold, VD⟩ := hC
  refine Vi (T0.setTop (mkF m 220 (LQ p0 p1 p2 p3 p4 p5 3 x0 x1 x2 x3 dA sA pk [sR jt, .unset, .unset, .unset, .unset]) [(.ref jt)])) (fun tZ kZ => ?_) ?_
  · refine XS.aload X0.here hx rfl (hb hby at_218) rfl rfl ?_
    exact kZ
  obtain ⟨cq1, kq1, q1a, q1b, q1c⟩ := isOf hZ e0 hj0
  obtain ⟨_, _, ⟨T1, L1, k1, n1⟩, -, X1, ⟨Lc1, hQ1, l1, y1, z1⟩, st1⟩ := X0.virtualBack hx (y := y9) (z := y9) hown (mvT hZ (wq hw 54 rfl)) (mvT hZ (wq hw 55 rfl)) (notFace_of_selects (args := #[]) (mvT hZ (wq hw 57 rfl))) (mvT hZ (wq hw 57 rfl)) (mvT hZ (wq hw 56 rfl)) (by decide) (backOf (W := 0) (rm9n3A l Z a0 hw [] jt sn bA fF cs sv 0 h0 n0 Z0 hj0 hj1 hj2 hj3 hj4 hj5 (S_CS.ext hold.2) (S_SV.ext hold.2) hcs hsv (by decide) (by decide) (by decide) (by decide) (own_l3_0 _ _ _ _ (by rw [hf2]; exact own_ndot hx2 hd2) (by rw [hf1]; exact own_ndot hx1 hd1) (by rw [hf0]; exact own_ndot hx0 hd0))) hZ (wq hw 58 rfl) (wq hw 16 rfl) (by decide) (by decide)) q1a q1c (g := (mkF m 220 (LQ p0 p1 p2 p3 p4 p5 3 x0 x1 x2 x3 dA sA pk [sR jt, .unset, .unset, .unset, .unset]) [(.ref jt)])) rfl (by rw [hml]; rfl) (Steps.refl _) (argsL := []) (rest := []) (lenOf pd_7 rfl) rfl (leW rfl) (hb hby at_220) (fun _ _ => ⟨rfl, e0, (by decide : 7 + 0 ≤ _), (by decide : 85 + 0 ≤ _)⟩)
  dsimp only [Pt.U, Pt.locs, Pt.cells, Pt.slots] at X1 l1 y1 z1 st1 hQ1
  subst l1 y1 z1
  obtain ⟨rfl, N1q, e1⟩ := hQ1
  have N1 := Fr.app N0 N1q
  refine Go.via (fun t k => st1.trans k) ?_
  refine Vi (T1.setTop (mkF m 307 (LQ p0 p1 p2 p3 p4 p5 3 x0 x1 x2 x3 dA sA pk [sR jt, sR sn, sI (-1), sI 3, .unset]) [(.ref sn)])) (fun tZ kZ => ?_) ?_
  · refine XS.astore X1.here hx rfl (hb hby at_223) rfl rfl (l' := (LQ p0 p1 p2 p3 p4 p5 3 x0 x1 x2 x3 dA sA pk [sR jt, sR sn, .unset, .unset, .unset])) rfl ?_
    refine XS.iconst X1.here hx rfl (hb hby at_225) ?_
    refine XS.istore X1.here hx rfl (hb hby at_226) rfl (l' := (LQ p0 p1 p2 p3 p4 p5 3 x0 x1 x2 x3 dA sA pk [sR jt, sR sn, sI (-1), .unset, .unset])) rfl ?_
    refine XS.iload X1.here hx rfl (hb hby at_228) rfl ?_
    refine XS.ifNo X1.here hx rfl (hb hby at_230) rfl ((if0 _ _).trans (tlt (by decide)).2.2.2) ?_
    refine XS.iload X1.here hx rfl (hb hby at_233) rfl ?_
    refine XS.bipush X1.here hx rfl (hb hby at_235) ?_
    refine XS.icmpYes X1.here hx rfl (pc0 := 237) (pc' := 243) rfl (hb hby at_237) rfl (feq hd0).2 (by decide) (by decide) ?_
    refine XS.iload X1.here hx rfl (hb hby at_243) rfl ?_
    refine XS.iconst X1.here hx rfl (hb hby at_245) ?_
    refine XS.icmpNo X1.here hx rfl (hb hby at_246) rfl (tlt (by decide)).2.2.2 ?_
    refine XS.iload X1.here hx rfl (hb hby at_249) rfl ?_
    refine XS.bipush X1.here hx rfl (hb hby at_251) ?_
    refine XS.icmpYes X1.here hx rfl (pc0 := 253) (pc' := 259) rfl (hb hby at_253) rfl (feq hd1).2 (by decide) (by decide) ?_
    refine XS.iload X1.here hx rfl (hb hby at_259) rfl ?_
    refine XS.iconst X1.here hx rfl (hb hby at_261) ?_
    refine XS.icmpNo X1.here hx rfl (hb hby at_262) rfl (tlt (by decide)).2.2.2 ?_
    refine XS.iload X1.here hx rfl (hb hby at_265) rfl ?_
    refine XS.bipush X1.here hx rfl (hb hby at_267) ?_
    refine XS.icmpYes X1.here hx rfl (pc0 := 269) (pc' := 275) rfl (hb hby at_269) rfl (feq hd2).2 (by decide) (by decide) ?_
    refine XS.iload X1.here hx rfl (hb hby at_275) rfl ?_
    refine XS.iconst X1.here hx rfl (hb hby at_277) ?_
    refine XS.icmpYes X1.here hx rfl (pc0 := 278) (pc' := 291) rfl (hb hby at_278) rfl (flt (by decide)).2.2.2 (by decide) (by decide) ?_
    refine XS.iload X1.here hx rfl (hb hby at_291) rfl ?_
    refine XS.iload X1.here hx rfl (hb hby at_293) rfl ?_
    refine XS.isub X1.here hx rfl (hb hby at_295) rfl ?_
    refine XS.iconst X1.here hx rfl (hb hby at_296) ?_
    refine XS.isub X1.here hx rfl (hb hby at_297) rfl ?_
    refine XS.istore X1.here hx rfl (hb hby at_298) rfl (l' := (LQ p0 p1 p2 p3 p4 p5 3 x0 x1 x2 x3 dA sA pk [sR jt, sR sn, sI (-1), sI 3, .unset])) rfl ?_
    refine XS.aload X1.here hx rfl (hb hby at_300) rfl rfl ?_
    refine XS.ifnullNo X1.here hx rfl (hb hby at_302) rfl ?_
    refine XS.aload X1.here hx rfl (hb hby at_305) rfl rfl ?_
    exact kZ
  obtain ⟨cq2, kq2, q2a, q2b, q2c⟩ := isOf hZ e1 hj2
  obtain ⟨_, _, ⟨T2, L2, k2, n2⟩, -, X2, ⟨Lc2, hQ2, l2, y2, z2⟩, st2⟩ := X1.virtualBack hx (y := y11) (z := y11) hown (mvT hZ (wq hw 114 rfl)) (mvT hZ (wq hw 65 rfl)) (notFace_of_selects (args := #[]) (mvT hZ (wq hw 67 rfl))) (mvT hZ (wq hw 67 rfl)) (mvT hZ (wq hw 66 rfl)) (by decide) (backOf (W := 0) (rm11 l Z a0 hw [] sn bA 3 fF cs h0 n0 Z0 hj2 hj3 hj4 hj5 (S_CS.ext hold.2) hcs) hZ (wq hw 68 rfl) (wq hw 7 rfl) (by decide) (by decide)) q2a q2c (g := (mkF m 307 (LQ p0 p1 p2 p3 p4 p5 3 x0 x1 x2 x3 dA sA pk [sR jt, sR sn, sI (-1), sI 3, .unset]) [(.ref sn)])) rfl (by rw [hml]; rfl) (Steps.refl _) (argsL := []) (rest := []) (lenOf pd_9 rfl) rfl (leW rfl) (hb hby at_307) (fun _ _ => ⟨rfl, e1, (by decide : 7 + 0 + 0 ≤ _), (by decide : 85 + 0 + 0 ≤ _)⟩)
  dsimp only [Pt.U, Pt.locs, Pt.cells, Pt.slots] at X2 l2 y2 z2 st2 hQ2
  subst l2 y2 z2
  obtain ⟨rfl, N2q, e2⟩ := hQ2
  have hv2 : (f11 sn bA 3 fF cs) = (Int32.ofNat 3) := by unfold f11; exact own_sh0 _
  rw [hv2] at st2
  have N2 := Fr.app N1 N2q
  refine Go.via (fun t k => st2.trans k) ?_
  refine Vi (T2.setTop (mkF m 333 (LQ p0 p1 p2 p3 p4 p5 3 x0 x1 x2 x3 dA sA pk [sR jt, sR sn, sI (-1), sI 3, sI 1]) [(.int 0), (.ref sn)])) (fun tZ kZ => ?_) ?_
  · refine XS.iload X2.here hx rfl (hb hby at_310) rfl ?_
    refine XS.icmpYes X2.here hx rfl (pc0 := 312) (pc' := 317) rfl (hb hby at_312) rfl (teq (by decide)).1 (by decide) (by decide) ?_
    refine XS.iconst X2.here hx rfl (hb hby at_317) ?_
    refine XS.istore X2.here hx rfl (hb hby at_318) rfl (l' := (LQ p0 p1 p2 p3 p4 p5 3 x0 x1 x2 x3 dA sA pk [sR jt, sR sn, sI (-1), sI 3, sI 1])) rfl ?_
    refine XS.iload X2.here hx rfl (hb hby at_320) rfl ?_
    refine XS.ifNo X2.here hx rfl (hb hby at_322) rfl ((if0 _ _).trans (tlt (by decide)).2.2.2) ?_
    refine XS.iload X2.here hx rfl (hb hby at_325) rfl ?_
    refine XS.ifNo X2.here hx rfl (hb hby at_327) rfl ((if0 _ _).trans (feq (by decide)).1) ?_
    refine XS.aload X2.here hx rfl (hb hby at_330) rfl rfl ?_
    refine XS.iconst X2.here hx rfl (hb hby at_332) ?_
    exact kZ
  obtain ⟨cq3, kq3, q3a, q3b, q3c⟩ := isOf hZ e2 hj2
  obtain ⟨_, _, ⟨T3, L3, k3, n3⟩, -, X3, ⟨Lc3, hQ3, l3, y3, z3⟩, st3⟩ := X2.virtualBack hx (y := y30) (z := y30) hown (mvT hZ (wq hw 147 rfl)) (mvT hZ (wq hw 148 rfl)) (notFace_of_selects (args := #[]) (mvT hZ (wq hw 150 rfl))) (mvT hZ (wq hw 150 rfl)) (mvT hZ (wq hw 149 rfl)) (by decide) (backOf (W := 0) (rm30 l Z a0 hw [] sn (0 : Int32) bA 3 fF cs sv h0 n0 Z0 hj2 hj3 hj4 hj5 (S_CS.ext hold.2) (S_SV.ext hold.2) hcs (by decide) (by decide) (by decide) hsv) hZ (wq hw 151 rfl) (wq hw 7 rfl) (by decide) (by decide)) q3a q3c (g := (mkF m 333 (LQ p0 p1 p2 p3 p4 p5 3 x0 x1 x2 x3 dA sA pk [sR jt, sR sn, sI (-1), sI 3, sI 1]) [(.int 0), (.ref sn)])) rfl (by rw [hml]; rfl) (Steps.refl _) (argsL := [(.int 0)]) (rest := []) (lenOf pd_27 rfl) rfl (leW rfl) (hb hby at_333) (fun _ _ => ⟨rfl, e2, (by decide : 7 + 0 + 0 + 0 ≤ _), (by decide : 85 + 0 + 0 + 0 ≤ _)⟩)
  dsimp only [Pt.U, Pt.locs, Pt.cells, Pt.slots] at X3 l3 y3 z3 st3 hQ3
  subst l3 y3 z3
  obtain ⟨rfl, N3q, e3⟩ := hQ3
  have N3 := Fr.app N2 N3q
  refine Go.via (fun t k => st3.trans k) ?_
  refine Vi (T3.setTop (mkF m 367 (LQ p0 p1 p2 p3 p4 p5 3 x0 x1 x2 x3 dA sA pk [sR jt, sR sn, sI (-1), sI 3, sI 1]) [(.int 1), (.ref sn)])) (fun tZ kZ => ?_) ?_
  · refine XS.aload X3.here hx rfl (hb hby at_336) rfl rfl ?_
    refine XS.iload X3.here hx rfl (hb hby at_338) rfl ?_
    refine XS.iconst X3.here hx rfl (hb hby at_340) ?_
    refine XS.iadd X3.here hx rfl (hb hby at_341) rfl ?_
    refine AV.caload VD X3 hx hZ e3 (j := (0 : Int32)) (by decide) (hb hby at_342) ?_
    refine XS.icmpNo X3.here hx rfl (hb hby at_343) rfl (teq (own_rt3 hx0 hf0)).2 ?_
    refine XS.iconst X3.here hx rfl (hb hby at_346) ?_
    refine XS.goto X3.here hx rfl (pc0 := 347) (pc' := 351) rfl (hb hby at_347) (by decide) (by decide) ?_
    refine XS.istore X3.here hx rfl (hb hby at_351) rfl (l' := (LQ p0 p1 p2 p3 p4 p5 3 x0 x1 x2 x3 dA sA pk [sR jt, sR sn, sI (-1), sI 3, sI 1])) rfl ?_
    refine XS.iload X3.here hx rfl (hb hby at_353) rfl ?_
    refine XS.iconst X3.here hx rfl (hb hby at_355) ?_
    refine XS.icmpNo X3.here hx rfl (hb hby at_356) rfl (tlt (by decide)).2.2.2 ?_
    refine XS.iload X3.here hx rfl (hb hby at_359) rfl ?_
    refine XS.ifNo X3.here hx rfl (hb hby at_361) rfl ((if0 _ _).trans (feq (by decide)).1) ?_
    refine XS.aload X3.here hx rfl (hb hby at_364) rfl rfl ?_
    refine XS.iconst X3.here hx rfl (hb hby at_366) ?_
    exact kZ
  obtain ⟨cq4, kq4, q4a, q4b, q4c⟩ := isOf hZ e3 hj2
  obtain ⟨_, _, ⟨T4, L4, k4, n4⟩, -, X4, ⟨Lc4, hQ4, l4, y4, z4⟩, st4⟩ := X3.virtualBack hx (y := y30) (z := y30) hown (mvT hZ (wq hw 147 rfl)) (mvT hZ (wq hw 148 rfl)) (notFace_of_selects (args := #[]) (mvT hZ (wq hw 150 rfl))) (mvT hZ (wq hw 150 rfl)) (mvT hZ (wq hw 149 rfl)) (by decide) (backOf (W := 0) (rm30 l Z a0 hw [] sn (1 : Int32) bA 3 fF cs sv h0 n0 Z0 hj2 hj3 hj4 hj5 (S_CS.ext hold.2) (S_SV.ext hold.2) hcs (by decide) (by decide) (by decide) hsv) hZ (wq hw 151 rfl) (wq hw 7 rfl) (by decide) (by decide)) q4a q4c (g := (mkF m 367 (LQ p0 p1 p2 p3 p4 p5 3 x0 x1 x2 x3 dA sA pk [sR jt, sR sn, sI (-1), sI 3, sI 1]) [(.int 1), (.ref sn)])) rfl (by rw [hml]; rfl) (Steps.refl _) (argsL := [(.int 1)]) (rest := []) (lenOf pd_27 rfl) rfl (leW rfl) (hb hby at_367) (fun _ _ => ⟨rfl, e3, (by decide : 7 + 0 + 0 + 0 + 0 ≤ _), (by decide : 85 + 0 + 0 + 0 + 0 ≤ _)⟩)
  dsimp only [Pt.U, Pt.locs, Pt.cells, Pt.slots] at X4 l4 y4 z4 st4 hQ4
  subst l4 y4 z4
  obtain ⟨rfl, N4q, e4⟩ := hQ4
  have N4 := Fr.app N3 N4q
  refine Go.via (fun t k => st4.trans k) ?_
  refine Vi (T4.setTop (mkF m 401 (LQ p0 p1 p2 p3 p4 p5 3 x0 x1 x2 x3 dA sA pk [sR jt, sR sn, sI (-1), sI 3, sI 1]) [(.int 2), (.ref sn)])) (fun tZ kZ => ?_) ?_
  · refine XS.aload X4.here hx rfl (hb hby at_370) rfl rfl ?_
    refine XS.iload X4.here hx rfl (hb hby at_372) rfl ?_
    refine XS.iconst X4.here hx rfl (hb hby at_374) ?_
    refine XS.iadd X4.here hx rfl (hb hby at_375) rfl ?_
    refine AV.caload VD X4 hx hZ e4 (j := (1 : Int32)) (by decide) (hb hby at_376) ?_
    refine XS.icmpNo X4.here hx rfl (hb hby at_377) rfl (teq (own_rt3 hx1 hf1)).2 ?_
    refine XS.iconst X4.here hx rfl (hb hby at_380) ?_
    refine XS.goto X4.here hx rfl (pc0 := 381) (pc' := 385) rfl (hb hby at_381) (by decide) (by decide) ?_
    refine XS.istore X4.here hx rfl (hb hby at_385) rfl (l' := (LQ p0 p1 p2 p3 p4 p5 3 x0 x1 x2 x3 dA sA pk [sR jt, sR sn, sI (-1), sI 3, sI 1])) rfl ?_
    refine XS.iload X4.here hx rfl (hb hby at_387) rfl ?_
    refine XS.iconst X4.here hx rfl (hb hby at_389) ?_
    refine XS.icmpNo X4.here hx rfl (hb hby at_390) rfl (tlt (by decide)).2.2.2 ?_
    refine XS.iload X4.here hx rfl (hb hby at_393) rfl ?_
    refine XS.ifNo X4.here hx rfl (hb hby at_395) rfl ((if0 _ _).trans (feq (by decide)).1) ?_
    refine XS.aload X4.here hx rfl (hb hby at_398) rfl rfl ?_
    refine XS.iconst X4.here hx rfl (hb hby at_400) ?_
    exact kZ
  obtain ⟨cq5, kq5, q5a, q5b, q5c⟩ := isOf hZ e4 hj2
  obtain ⟨_, _, ⟨T5, L5, k5, n5⟩, -, X5, ⟨Lc5, hQ5, l5, y5, z5⟩, st5⟩ := X4.virtualBack hx (y := y30) (z := y30) hown (mvT hZ (wq hw 147 rfl)) (mvT hZ (wq hw 148 rfl)) (notFace_of_selects (args := #[]) (mvT hZ (wq hw 150 rfl))) (mvT hZ (wq hw 150 rfl)) (mvT hZ (wq hw 149 rfl)) (by decide) (backOf (W := 0) (rm30 l Z a0 hw [] sn (2 : Int32) bA 3 fF cs sv h0 n0 Z0 hj2 hj3 hj4 hj5 (S_CS.ext hold.2) (S_SV.ext hold.2) hcs (by decide) (by decide) (by decide) hsv) hZ (wq hw 151 rfl) (wq hw 7 rfl) (by decide) (by decide)) q5a q5c (g := (mkF m 401 (LQ p0 p1 p2 p3 p4 p5 3 x0 x1 x2 x3 dA sA pk [sR jt, sR sn, sI (-1), sI 3, sI 1]) [(.int 2), (.ref sn)])) rfl (by rw [hml]; rfl) (Steps.refl _) (argsL := [(.int 2)]) (rest := []) (lenOf pd_27 rfl) rfl (leW rfl) (hb hby at_401) (fun _ _ => ⟨rfl, e4, (by decide : 7 + 0 + 0 + 0 + 0 + 0 ≤ _), (by decide : 85 + 0 + 0 + 0 + 0 + 0 ≤ _)⟩)
  dsimp only [Pt.U, Pt.locs, Pt.cells, Pt.slots] at X5 l5 y5 z5 st5 hQ5
  subst l5 y5 z5
  obtain ⟨rfl, N5q, e5⟩ := hQ5
  have N5 := Fr.app N4 N5q
  refine Go.via (fun t k => st5.trans k) ?_
  refine Vi (T5.setTop (mkF m 457 (LQ p0 p1 p2 p3 p4 p5 3 x0 x1 x2 x3 dA sA pk [sR jt, sR sn, sI (-1), sI 3, sI 1]) [(.int 1)])) (fun tZ kZ => ?_) ?_
  · refine XS.aload X5.here hx rfl (hb hby at_404) rfl rfl ?_
    refine XS.iload X5.here hx rfl (hb hby at_406) rfl ?_
    refine XS.iconst X5.here hx rfl (hb hby at_408) ?_
    refine XS.iadd X5.here hx rfl (hb hby at_409) rfl ?_
    refine AV.caload VD X5 hx hZ e5 (j := (2 : Int32)) (by decide) (hb hby at_410) ?_
    refine XS.icmpNo X5.here hx rfl (hb hby at_411) rfl (teq (own_rt3 hx2 hf2)).2 ?_
    refine XS.iconst X5.here hx rfl (hb hby at_414) ?_
    refine XS.goto X5.here hx rfl (pc0 := 415) (pc' := 419) rfl (hb hby at_415) (by decide) (by decide) ?_
    refine XS.istore X5.here hx rfl (hb hby at_419) rfl (l' := (LQ p0 p1 p2 p3 p4 p5 3 x0 x1 x2 x3 dA sA pk [sR jt, sR sn, sI (-1), sI 3, sI 1])) rfl ?_
    refine XS.iload X5.here hx rfl (hb hby at_421) rfl ?_
    refine XS.iconst X5.here hx rfl (hb hby at_423) ?_
    refine XS.icmpYes X5.here hx rfl (pc0 := 424) (pc' := 455) rfl (hb hby at_424) rfl (flt (by decide)).2.2.2 (by decide) (by decide) ?_
    refine XS.iload X5.here hx rfl (hb hby at_455) rfl ?_
    exact kZ
  refine Go.retNW (s := s) (vm₁ := vmT) X5 hx hST (by rw [e5]; exact hkT) hlk (t := .boolean) hret (by simp) (hb hby at_457) (by decide) (by decide) ?_
  exact ⟨rfl, N5⟩
theorem tb_3_1 (l : Launch) (Z : State) (a0 : Array Value) (hw : ∀ d ∈ tables_1, d.before a0 Z = true) {p : Program} {e : Env} {s : State} {m : MethodId} {args : Array Value} {below : List Frame} {meth : Method} {c : Code} {T0 : State} {locs0 : List Loc} {vmT : Vm} {h0 : Heap} {n0 kT : Nat} {x0 x1 x2 x3 cs : Int32} {sv : Value} {em dA : Addr} (hC : Com l Z a0 p e s m args below meth c T0 locs0 vmT 7 85 h0 n0 kT x0 x1 x2 x3 cs sv em dA) (p0 p1 p2 p3 p4 p5 : Int32) (sA pk jt sn bA : Addr) (fF : Nat → Int32) (hj0 : Exa Z h0 jt "com/example/bindery/bindery/compiler/JavaType") (hj1 : Fld Z h0 jt "com/example/bindery/bindery/compiler/JavaType" "name" "Ljava/lang/String;" (.ref sn)) (hj2 : Exa Z h0 sn "java/lang/String") (hj3 : Fld Z h0 sn "java/lang/String" "coder" "B" (.int 0)) (hj4 : Fld Z h0 sn "java/lang/String" "value" "[B" (.ref bA)) (hj5 : AV Z h0 bA .byte 3 (fun k => .int (fF k))) (hfit : ∀ k, k < 3 → fits .byte (.int (fF k)) = true) (hf0 : fF (0 : Int32).toNatClampNeg = nar .byte ((nar .char x0).toInt8.toInt32)) (hf1 : fF (1 : Int32).toNatClampNeg = nar .byte ((nar .char x1).toInt8.toInt32)) (hf2 : fF (2 : Int32).toNatClampNeg = nar .byte ((nar .char x2).toInt8.toInt32)) (hd2 : ¬ x2 = 46) (hd1 : ¬ x1 = 46) (hd0 : x0 = 46) :
    Go p e below (fun o u => ∃ v L, o = .returned v ∧ Q0 n0 v u.heap L ∧ ReturnedEndW s o u L 32 4288) (T0.setTop (mkF m 218 (LQ p0 p1 p2 p3 p4 p5 3 x0 x1 x2 x3 dA sA pk [sR jt, .unset, .unset, .unset, .unset]) [])) := by
  obtain ⟨X0, hx, hby, hml, hlk, hret, hZ, hown, wS, Z0, e0, N0, hST, hkT, hCH, hx0, hx1, hx2, hx3, hcs, hsv, S_CS, S_SV, S_EM, hold, VD⟩ := hC
  refine Vi (T0.setTop (mkF m 220 (LQ p0 p1 p2 p3 p4 p5 3 x0 x1 x2 x3 dA sA pk [sR jt, .unset, .unset, .unset, .unset]) [(.ref jt)])) (fun tZ kZ => ?_) ?_
  · refine XS.aload X0.here hx rfl (hb hby at_218) rfl rfl ?_
    exact kZ
  obtain ⟨cq1, kq1, q1a, q1b, q1c⟩ := isOf hZ e0 hj0
  obtain ⟨_, _, ⟨T1, L1, k1, n1⟩, -, X1, ⟨Lc1, hQ1, l1, y1, z1⟩, st1⟩ := X0.virtualBack hx (y := y9) (z := y9) hown (mvT hZ (wq hw 54 rfl)) (mvT hZ (wq hw 55 rfl)) (notFace_of_selects (args := #[]) (mvT hZ (wq hw 57 rfl))) (mvT hZ (wq hw 57 rfl)) (mvT hZ (wq hw 56 rfl)) (by decide) (backOf (W := 0) (rm9n3C l Z a0 hw [] jt sn bA fF cs sv 1 h0 n0 Z0 hj0 hj1 hj2 hj3 hj4 hj5 (S_CS.ext hold.2) (S_SV.ext hold.2) hcs hsv (by decide) (by decide) (by decide) (by decide) (by decide) (by decide) (by decide) (by decide) (by decide) (by decide) (by decide) hfit (own_l3_1 _ _ _ _ (by rw [hf2]; exact own_ndot hx2 hd2) (by rw [hf1]; exact own_ndot hx1 hd1) (by rw [hf0]; exact own_dot hd0))) hZ (wq hw 58 rfl) (wq hw 16 rfl) (by decide) (by decide)) q1a q1c (g := (mkF m 220 (LQ p0 p1 p2 p3 p4 p5 3 x0 x1 x2 x3 dA sA pk [sR jt, .unset, .unset, .unset, .unset]) [(.ref jt)])) rfl (by rw [hml]; rfl) (Steps.refl _) (argsL := []) (rest := []) (lenOf pd_7 rfl) rfl (leW rfl) (hb hby at_220) (fun _ _ => ⟨rfl, e0, (by decide : 7 + 2 ≤ _), (by decide : 85 + 8 ≤ _)⟩)
  dsimp only [Pt.U, Pt.locs, Pt.cells, Pt.slots] at X1 l1 y1 z1 st1 hQ1
  subst l1 y1 z1
  obtain ⟨b1_0, b1_1, rfl, N1q, Kq1, hz_b1_0, hz_b1_1, f1_0, f1_1, f1_2, f1_3, f1_4, f1_5, f1_6, f1_7, f1_8, f1_9, f1_10, f1_11⟩ := hQ1
  have Ac2 := CHr.keep Kq1 all0 hCH
  have CR2c := CHr.trans (CHr.refl hCH) Ac2
  have c3_0 := hold.keep Kq1 all0
  have c3_3 := S_EM.ext c3_0.2
  have c3_4 := VD.keep Kq1 nin0
  have K1 : Keep h0 T1.heap [] := (Keep.refl h0 []).trans Kq1 all0
  have Z1 : n0 ≤ T1.heap.size := Nat.le_trans Z0 Kq1.1
  have hk1 := Nat.le_trans hkT Kq1.1
  have N1 := Fr.app N0 N1q
  refine Go.via (fun t k => st1.trans k) ?_
  refine Vi (T1.setTop (mkF m 307 (LQ p0 p1 p2 p3 p4 p5 3 x0 x1 x2 x3 dA sA pk [sR jt, sR b1_0, sI 0, sI 2, .unset]) [(.ref b1_0)])) (fun tZ kZ => ?_) ?_
  · refine XS.astore X1.here hx rfl (hb hby at_223) rfl rfl (l' := (LQ p0 p1 p2 p3 p4 p5 3 x0 x1 x2 x3 dA sA pk [sR jt, sR b1_0, .unset, .unset, .unset])) rfl ?_
    refine XS.iconst X1.here hx rfl (hb hby at_225) ?_
    refine XS.istore X1.here hx rfl (hb hby at_226) rfl (l' := (LQ p0 p1 p2 p3 p4 p5 3 x0 x1 x2 x3 dA sA pk [sR jt, sR b1_0, sI (-1), .unset, .unset])) rfl ?_
    refine XS.iload X1.here hx rfl (hb hby at_228) rfl ?_
    refine XS.ifNo X1.here hx rfl (hb hby at_230) rfl ((if0 _ _).trans (tlt (by decide)).2.2.2) ?_
    refine XS.iload X1.here hx rfl (hb hby at_233) rfl ?_
    refine XS.bipush X1.here hx rfl (hb hby at_235) ?_
    refine XS.icmpNo X1.here hx rfl (hb hby at_237) rfl (teq hd0).2 ?_
    refine XS.iconst X1.here hx rfl (hb hby at_240) ?_
    refine XS.istore X1.here hx rfl (hb hby at_241) rfl (l' := (LQ p0 p1 p2 p3 p4 p5 3 x0 x1 x2 x3 dA sA pk [sR jt, sR b1_0, sI 0, .unset, .unset])) rfl ?_
    refine XS.iload X1.here hx rfl (hb hby at_243) rfl ?_
    refine XS.iconst X1.here hx rfl (hb hby at_245) ?_
    refine XS.icmpNo X1.here hx rfl (hb hby at_246) rfl (tlt (by decide)).2.2.2 ?_
    refine XS.iload X1.here hx rfl (hb hby at_249) rfl ?_
    refine XS.bipush X1.here hx rfl (hb hby at_251) ?_
    refine XS.icmpYes X1.here hx rfl (pc0 := 253) (pc' := 259) rfl (hb hby at_253) rfl (feq hd1).2 (by decide) (by decide) ?_
    refine XS.iload X1.here hx rfl (hb hby at_259) rfl ?_
    refine XS.iconst X1.here hx rfl (hb hby at_261) ?_
    refine XS.icmpNo X1.here hx rfl (hb hby at_262) rfl (tlt (by decide)).2.2.2 ?_
    refine XS.iload X1.here hx rfl (hb hby at_265) rfl ?_
    refine XS.bipush X1.here hx rfl (hb hby at_267) ?_
    refine XS.icmpYes X1.here hx rfl (pc0 := 269) (pc' := 275) rfl (hb hby at_269) rfl (feq hd2).2 (by decide) (by decide) ?_
    refine XS.iload X1.here hx rfl (hb hby at_275) rfl ?_
    refine XS.iconst X1.here hx rfl (hb hby at_277) ?_
    refine XS.icmpYes X1.here hx rfl (pc0 := 278) (pc' := 291) rfl (hb hby at_278) rfl (flt (by decide)).2.2.2 (by decide) (by decide) ?_
    refine XS.iload X1.here hx rfl (hb hby at_291) rfl ?_
    refine XS.iload X1.here hx rfl (hb hby at_293) rfl ?_
    refine XS.isub X1.here hx rfl (hb hby at_295) rfl ?_
    refine XS.iconst X1.here hx rfl (hb hby at_296) ?_
    refine XS.isub X1.here hx rfl (hb hby at_297) rfl ?_
    refine XS.istore X1.here hx rfl (hb hby at_298) rfl (l' := (LQ p0 p1 p2 p3 p4 p5 3 x0 x1 x2 x3 dA sA pk [sR jt, sR b1_0, sI 0, sI 2, .unset])) rfl ?_
    refine XS.aload X1.here hx rfl (hb hby at_300) rfl rfl ?_
    refine XS.ifnullNo X1.here hx rfl (hb hby at_302) rfl ?_
    refine XS.aload X1.here hx rfl (hb hby at_305) rfl rfl ?_
    exact kZ
  obtain ⟨cq4, kq4, q4a, q4b, q4c⟩ := isOf hZ rfl f1_8
  obtain ⟨_, _, ⟨T4, L4, k4, n4⟩, -, X4, ⟨Lc4, hQ4, l4, y4, z4⟩, st4⟩ := X1.virtualBack hx (y := y11) (z := y11) hown (mvT hZ (wq hw 114 rfl)) (mvT hZ (wq hw 65 rfl)) (notFace_of_selects (args := #[]) (mvT hZ (wq hw 67 rfl))) (mvT hZ (wq hw 67 rfl)) (mvT hZ (wq hw 66 rfl)) (by decide) (backOf (W := 0) (rm11 l Z a0 hw [] b1_0 b1_1 2 (own_sh fF 1) cs T1.heap n0 Z1 f1_8 f1_10 f1_9 f1_11 f1_6 hcs) hZ (wq hw 68 rfl) (wq hw 7 rfl) (by decide) (by decide)) q4a q4c (g := (mkF m 307 (LQ p0 p1 p2 p3 p4 p5 3 x0 x1 x2 x3 dA sA pk [sR jt, sR b1_0, sI 0, sI 2, .unset]) [(.ref b1_0)])) rfl (by rw [hml]; rfl) (Steps.refl _) (argsL := []) (rest := []) (lenOf pd_9 rfl) rfl (leW rfl) (hb hby at_307) (fun _ _ => ⟨rfl, rfl, (by decide : 7 + 2 + 0 ≤ _), (by decide : 85 + 8 + 0 ≤ _)⟩)
  dsimp only [Pt.U, Pt.locs, Pt.cells, Pt.slots] at X4 l4 y4 z4 st4 hQ4
  subst l4 y4 z4
  obtain ⟨rfl, N4q, e4⟩ := hQ4
  have hv4 : (f11 b1_0 b1_1 2 (own_sh fF 1) cs) = (Int32.ofNat 2) := by unfold f11; exact own_sh0 _
  rw [hv4] at st4
  have N4 := Fr.app N1 N4q
  refine Go.via (fun t k => st4.trans k) ?_
  refine Vi (T4.setTop (mkF m 333 (LQ p0 p1 p2 p3 p4 p5 3 x0 x1 x2 x3 dA sA pk [sR jt, sR b1_0, sI 0, sI 2, sI 1]) [(.int 0), (.ref b1_0)])) (fun tZ kZ => ?_) ?_
  · refine XS.iload X4.here hx rfl (hb hby at_310) rfl ?_
    refine XS.icmpYes X4.here hx rfl (pc0 := 312) (pc' := 317) rfl (hb hby at_312) rfl (teq (by decide)).1 (by decide) (by decide) ?_
    refine XS.iconst X4.here hx rfl (hb hby at_317) ?_
    refine XS.istore X4.here hx rfl (hb hby at_318) rfl (l' := (LQ p0 p1 p2 p3 p4 p5 3 x0 x1 x2 x3 dA sA pk [sR jt, sR b1_0, sI 0, sI 2, sI 1])) rfl ?_
    refine XS.iload X4.here hx rfl (hb hby at_320) rfl ?_
    refine XS.ifNo X4.here hx rfl (hb hby at_322) rfl ((if0 _ _).trans (tlt (by decide)).2.2.2) ?_
    refine XS.iload X4.here hx rfl (hb hby at_325) rfl ?_
    refine XS.ifNo X4.here hx rfl (hb hby at_327) rfl ((if0 _ _).trans (feq (by decide)).1) ?_
    refine XS.aload X4.here hx rfl (hb hby at_330) rfl rfl ?_
    refine XS.iconst X4.here hx rfl (hb hby at_332) ?_
    exact kZ
  obtain ⟨cq5, kq5, q5a, q5b, q5c⟩ := isOf hZ e4 f1_8
  obtain ⟨_, _, ⟨T5, L5, k5, n5⟩, -, X5, ⟨Lc5, hQ5, l5, y5, z5⟩, st5⟩ := X4.virtualBack hx (y := y30) (z := y30) hown (mvT hZ (wq hw 147 rfl)) (mvT hZ (wq hw 148 rfl)) (notFace_of_selects (args := #[]) (mvT hZ (wq hw 150 rfl))) (mvT hZ (wq hw 150 rfl)) (mvT hZ (wq hw 149 rfl)) (by decide) (backOf (W := 0) (rm30 l Z a0 hw [] b1_0 (0 : Int32) b1_1 2 (own_sh fF 1) cs sv T1.heap n0 Z1 f1_8 f1_10 f1_9 f1_11 f1_6 f1_7 hcs (by decide) (by decide) (by decide) hsv) hZ (wq hw 151 rfl) (wq hw 7 rfl) (by decide) (by decide)) q5a q5c (g := (mkF m 333 (LQ p0 p1 p2 p3 p4 p5 3 x0 x1 x2 x3 dA sA pk [sR jt, sR b1_0, sI 0, sI 2, sI 1]) [(.int 0), (.ref b1_0)])) rfl (by rw [hml]; rfl) (Steps.refl _) (argsL := [(.int 0)]) (rest := []) (lenOf pd_27 rfl) rfl (leW rfl) (hb hby at_333) (fun _ _ => ⟨rfl, e4, (by decide : 7 + 2 + 0 + 0 ≤ _), (by decide : 85 + 8 + 0 + 0 ≤ _)⟩)
  dsimp only [Pt.U, Pt.locs, Pt.cells, Pt.slots] at X5 l5 y5 z5 st5 hQ5
  subst l5 y5 z5
  obtain ⟨rfl, N5q, e5⟩ := hQ5
  have N5 := Fr.app N4 N5q
  refine Go.via (fun t k => st5.trans k) ?_
  refine Vi (T5.setTop (mkF m 367 (LQ p0 p1 p2 p3 p4 p5 3 x0 x1 x2 x3 dA sA pk [sR jt, sR b1_0, sI 0, sI 2, sI 1]) [(.int 1), (.ref b1_0)])) (fun tZ kZ => ?_) ?_
  · refine XS.aload X5.here hx rfl (hb hby at_336) rfl rfl ?_
    refine XS.iload X5.here hx rfl (hb hby at_338) rfl ?_
    refine XS.iconst X5.here hx rfl (hb hby at_340) ?_
    refine XS.iadd X5.here hx rfl (hb hby at_341) rfl ?_
    refine AV.caload c3_4 X5 hx hZ e5 (j := (1 : Int32)) (by decide) (hb hby at_342) ?_
    refine XS.icmpNo X5.here hx rfl (hb hby at_343) rfl (teq (own_rt3 hx1 hf1)).2 ?_
    refine XS.iconst X5.here hx rfl (hb hby at_346) ?_
    refine XS.goto X5.here hx rfl (pc0 := 347) (pc' := 351) rfl (hb hby at_347) (by decide) (by decide) ?_
    refine XS.istore X5.here hx rfl (hb hby at_351) rfl (l' := (LQ p0 p1 p2 p3 p4 p5 3 x0 x1 x2 x3 dA sA pk [sR jt, sR b1_0, sI 0, sI 2, sI 1])) rfl ?_
    refine XS.iload X5.here hx rfl (hb hby at_353) rfl ?_
    refine XS.iconst X5.here hx rfl (hb hby at_355) ?_
    refine XS.icmpNo X5.here hx rfl (hb hby at_356) rfl (tlt (by decide)).2.2.2 ?_
    refine XS.iload X5.here hx rfl (hb hby at_359) rfl ?_
    refine XS.ifNo X5.here hx rfl (hb hby at_361) rfl ((if0 _ _).trans (feq (by decide)).1) ?_
    refine XS.aload X5.here hx rfl (hb hby at_364) rfl rfl ?_
    refine XS.iconst X5.here hx rfl (hb hby at_366) ?_
    exact kZ
  obtain ⟨cq6, kq6, q6a, q6b, q6c⟩ := isOf hZ e5 f1_8
  obtain ⟨_, _, ⟨T6, L6, k6, n6⟩, -, X6, ⟨Lc6, hQ6, l6, y6, z6⟩, st6⟩ := X5.virtualBack hx (y := y30) (z := y30) hown (mvT hZ (wq hw 147 rfl)) (mvT hZ (wq hw 148 rfl)) (notFace_of_selects (args := #[]) (mvT hZ (wq hw 150 rfl))) (mvT hZ (wq hw 150 rfl)) (mvT hZ (wq hw 149 rfl)) (by decide) (backOf (W := 0) (rm30 l Z a0 hw [] b1_0 (1 : Int32) b1_1 2 (own_sh fF 1) cs sv T1.heap n0 Z1 f1_8 f1_10 f1_9 f1_11 f1_6 f1_7 hcs (by decide) (by decide) (by decide) hsv) hZ (wq hw 151 rfl) (wq hw 7 rfl) (by decide) (by decide)) q6a q6c (g := (mkF m 367 (LQ p0 p1 p2 p3 p4 p5 3 x0 x1 x2 x3 dA sA pk [sR jt, sR b1_0, sI 0, sI 2, sI 1]) [(.int 1), (.ref b1_0)])) rfl (by rw [hml]; rfl) (Steps.refl _) (argsL := [(.int 1)]) (rest := []) (lenOf pd_27 rfl) rfl (leW rfl) (hb hby at_367) (fun _ _ => ⟨rfl, e5, (by decide : 7 + 2 + 0 + 0 + 0 ≤ _), (by decide : 85 + 8 + 0 + 0 + 0 ≤ _)⟩)
  dsimp only [Pt.U, Pt.locs, Pt.cells, Pt.slots] at X6 l6 y6 z6 st6 hQ6
  subst l6 y6 z6
  obtain ⟨rfl, N6q, e6⟩ := hQ6
  have N6 := Fr.app N5 N6q
  refine Go.via (fun t k => st6.trans k) ?_
  refine Vi (T6.setTop (mkF m 457 (LQ p0 p1 p2 p3 p4 p5 3 x0 x1 x2 x3 dA sA pk [sR jt, sR b1_0, sI 0, sI 2, sI 1]) [(.int 1)])) (fun tZ kZ => ?_) ?_
  · refine XS.aload X6.here hx rfl (hb hby at_370) rfl rfl ?_
    refine XS.iload X6.here hx rfl (hb hby at_372) rfl ?_
    refine XS.iconst X6.here hx rfl (hb hby at_374) ?_
    refine XS.iadd X6.here hx rfl (hb hby at_375) rfl ?_
    refine AV.caload c3_4 X6 hx hZ e6 (j := (2 : Int32)) (by decide) (hb hby at_376) ?_
    refine XS.icmpNo X6.here hx rfl (hb hby at_377) rfl (teq (own_rt3 hx2 hf2)).2 ?_
    refine XS.iconst X6.here hx rfl (hb hby at_380) ?_
    refine XS.goto X6.here hx rfl (pc0 := 381) (pc' := 385) rfl (hb hby at_381) (by decide) (by decide) ?_
    refine XS.istore X6.here hx rfl (hb hby at_385) rfl (l' := (LQ p0 p1 p2 p3 p4 p5 3 x0 x1 x2 x3 dA sA pk [sR jt, sR b1_0, sI 0, sI 2, sI 1])) rfl ?_
    refine XS.iload X6.here hx rfl (hb hby at_387) rfl ?_
    refine XS.iconst X6.here hx rfl (hb hby at_389) ?_
    refine XS.icmpYes X6.here hx rfl (pc0 := 390) (pc' := 421) rfl (hb hby at_390) rfl (flt (by decide)).2.2.2 (by decide) (by decide) ?_
    refine XS.iload X6.here hx rfl (hb hby at_421) rfl ?_
    refine XS.iconst X6.here hx rfl (hb hby at_423) ?_
    refine XS.icmpYes X6.here hx rfl (pc0 := 424) (pc' := 455) rfl (hb hby at_424) rfl (flt (by decide)).2.2.2 (by decide) (by decide) ?_
    refine XS.iload X6.here hx rfl (hb hby at_455) rfl ?_
    exact kZ
  refine Go.retNW (s := s) (vm₁ := vmT) X6 hx hST (by rw [e6]; exact hk1) hlk (t := .boolean) hret (by simp) (hb hby at_457) (by decide) (by decide) ?_
  exact ⟨rfl, N6⟩
theorem tb_3_2 (l : Launch) (Z : State) (a0 : Array Value) (hw : ∀ d ∈ tables_1, d.before a0 Z = true) {p : Program} {e : Env} {s : State} {m : MethodId} {args : Array Value} {below : List Frame} {meth : Method} {c : Code} {T0 : State} {locs0 : List Loc} {vmT : Vm} {h0 : Heap} {n0 kT : Nat} {x0 x1 x2 x3 cs : Int32} {sv : Value} {em dA : Addr} (hC : Com l Z a0 p e s m args below meth c T0 locs0 vmT 7 85 h0 n0 kT x0 x1 x2 x3 cs sv em dA) (p0 p1 p2 p3 p4 p5 : Int32) (sA pk jt sn bA : Addr) (fF : Nat → Int32) (hj0 : Exa Z h0 jt "com/example/bindery/bindery/compiler/JavaType") (hj1 : Fld Z h0 jt "com/example/bindery/bindery/compiler/JavaType" "name" "Ljava/lang/String;" (.ref sn)) (hj2 : Exa Z h0 sn "java/lang/String") (hj3 : Fld Z h0 sn "java/lang/String" "coder" "B" (.int 0)) (hj4 : Fld Z h0 sn "java/lang/String" "value" "[B" (.ref bA)) (hj5 : AV Z h0 bA .byte 3 (fun k => .int (fF k))) (hfit : ∀ k, k < 3 → fits .byte (.int (fF k)) = true) (hf0 : fF (0 : Int32).toNatClampNeg = nar .byte ((nar .char x0).toInt8.toInt32)) (hf1 : fF (1 : Int32).toNatClampNeg = nar .byte ((nar .char x1).toInt8.toInt32)) (hf2 : fF (2 : Int32).toNatClampNeg = nar .byte ((nar .char x2).toInt8.toInt32)) (hd2 : ¬ x2 = 46) (hd1 : x1 = 46) :
    Go p e below (fun o u => ∃ v L, o = .returned v ∧ Q0 n0 v u.heap L ∧ ReturnedEndW s o u L 32 4288) (T0.setTop (mkF m 218 (LQ p0 p1 p2 p3 p4 p5 3 x0 x1 x2 x3 dA sA pk [sR jt, .unset, .unset, .unset, .unset]) [])) := by
  obtain ⟨X0, hx, hby, hml, hlk, hret, hZ, hown, wS, Z0, e0, N0, hST, hkT, hCH, hx0, hx1, hx2, hx3, hcs, hsv, S_CS, S_SV, S_EM, hold, VD⟩ := hC
  refine Vi (T0.setTop (mkF m 220 (LQ p0 p1 p2 p3 p4 p5 3 x0 x1 x2 x3 dA sA pk [sR jt, .unset, .unset, .unset, .unset]) [(.ref jt)])) (fun tZ kZ => ?_) ?_
  · refine XS.aload X0.here hx rfl (hb hby at_218) rfl rfl ?_
    exact kZ
  obtain ⟨cq1, kq1, q1a, q1b, q1c⟩ := isOf hZ e0 hj0
  obtain ⟨_, _, ⟨T1, L1, k1, n1⟩, -, X1, ⟨Lc1, hQ1, l1, y1, z1⟩, st1⟩ := X0.virtualBack hx (y := y9) (z := y9) hown (mvT hZ (wq hw 54 rfl)) (mvT hZ (wq hw 55 rfl)) (notFace_of_selects (args := #[]) (mvT hZ (wq hw 57 rfl))) (mvT hZ (wq hw 57 rfl)) (mvT hZ (wq hw 56 rfl)) (by decide) (backOf (W := 0) (rm9n3C l Z a0 hw [] jt sn bA fF cs sv 2 h0 n0 Z0 hj0 hj1 hj2 hj3 hj4 hj5 (S_CS.ext hold.2) (S_SV.ext hold.2) hcs hsv (by decide) (by decide) (by decide) (by decide) (by decide) (by decide) (by decide) (by decide) (by decide) (by decide) (by decide) hfit (own_l3_2 _ _ _ _ (by rw [hf2]; exact own_ndot hx2 hd2) (by rw [hf1]; exact own_dot hd1))) hZ (wq hw 58 rfl) (wq hw 16 rfl) (by decide) (by decide)) q1a q1c (g := (mkF m 220 (LQ p0 p1 p2 p3 p4 p5 3 x0 x1 x2 x3 dA sA pk [sR jt, .unset, .unset, .unset, .unset]) [(.ref jt)])) rfl (by rw [hml]; rfl) (Steps.refl _) (argsL := []) (rest := []) (lenOf pd_7 rfl) rfl (leW rfl) (hb hby at_220) (fun _ _ => ⟨rfl, e0, (by decide : 7 + 2 ≤ _), (by decide : 85 + 8 ≤ _)⟩)
  dsimp only [Pt.U, Pt.locs, Pt.cells, Pt.slots] at X1 l1 y1 z1 st1 hQ1
  subst l1 y1 z1
  obtain ⟨b1_0, b1_1, rfl, N1q, Kq1, hz_b1_0, hz_b1_1, f1_0, f1_1, f1_2, f1_3, f1_4, f1_5, f1_6, f1_7, f1_8, f1_9, f1_10, f1_11⟩ := hQ1
  have Ac2 := CHr.keep Kq1 all0 hCH
  have CR2c := CHr.trans (CHr.refl hCH) Ac2
  have c3_0 := hold.keep Kq1 all0
  have c3_3 := S_EM.ext c3_0.2
  have c3_4 := VD.keep Kq1 nin0
  have K1 : Keep h0 T1.heap [] := (Keep.refl h0 []).trans Kq1 all0
  have Z1 : n0 ≤ T1.heap.size := Nat.le_trans Z0 Kq1.1
  have hk1 := Nat.le_trans hkT Kq1.1
  have N1 := Fr.app N0 N1q
  refine Go.via (fun t k => st1.trans k) ?_
  refine Vi (T1.setTop (mkF m 307 (LQ p0 p1 p2 p3 p4 p5 3 x0 x1 x2 x3 dA sA pk [sR jt, sR b1_0, sI 1, sI 1, .unset]) [(.ref b1_0)])) (fun tZ kZ => ?_) ?_
  · refine XS.astore X1.here hx rfl (hb hby at_223) rfl rfl (l' := (LQ p0 p1 p2 p3 p4 p5 3 x0 x1 x2 x3 dA sA pk [sR jt, sR b1_0, .unset, .unset, .unset])) rfl ?_
    refine XS.iconst X1.here hx rfl (hb hby at_225) ?_
    refine XS.istore X1.here hx rfl (hb hby at_226) rfl (l' := (LQ p0 p1 p2 p3 p4 p5 3 x0 x1 x2 x3 dA sA pk [sR jt, sR b1_0, sI (-1), .unset, .unset])) rfl ?_
    refine XS.iload X1.here hx rfl (hb hby at_228) rfl ?_
    refine XS.ifNo X1.here hx rfl (hb hby at_230) rfl ((if0 _ _).trans (tlt (by decide)).2.2.2) ?_
    refine XS.iload X1.here hx rfl (hb hby at_233) rfl ?_
    refine XS.bipush X1.here hx rfl (hb hby at_235) ?_
    have sg237 : Steps p.tables e below (T1.setTop (mkF m 243 (LQ p0 p1 p2 p3 p4 p5 3 x0 x1 x2 x3 dA sA pk [sR jt, sR b1_0, sI (if x0 = (46 : Int32) then (0 : Int32) else (-1 : Int32)), .unset, .unset]) [])) tZ → Steps p.tables e below (T1.setTop (mkF m 237 (LQ p0 p1 p2 p3 p4 p5 3 x0 x1 x2 x3 dA sA pk [sR jt, sR b1_0, sI (-1), .unset, .unset]) [(.int 46), (.int x0)])) tZ := by
      intro kj
      by_cases hc237 : x0 = (46 : Int32)
      · try simp only [if_pos hc237] at kj
        refine XS.icmpNo X1.here hx rfl (hb hby at_237) rfl (teq hc237).2 ?_
        refine XS.iconst X1.here hx rfl (hb hby at_240) ?_
        refine XS.istore X1.here hx rfl (hb hby at_241) rfl (l' := (LQ p0 p1 p2 p3 p4 p5 3 x0 x1 x2 x3 dA sA pk [sR jt, sR b1_0, sI 0, .unset, .unset])) rfl ?_
        exact kj
      · try simp only [if_neg hc237] at kj
        refine XS.icmpYes X1.here hx rfl (pc0 := 237) (pc' := 243) rfl (hb hby at_237) rfl (feq hc237).2 (by decide) (by decide) ?_
        exact kj
    refine sg237 ?_
    show Steps p.tables e below (T1.setTop (mkF m 243 (LQ p0 p1 p2 p3 p4 p5 3 x0 x1 x2 x3 dA sA pk [sR jt, sR b1_0, sI (if x0 = (46 : Int32) then (0 : Int32) else (-1 : Int32)), .unset, .unset]) [])) _
    refine XS.iload X1.here hx rfl (hb hby at_243) rfl ?_
    refine XS.iconst X1.here hx rfl (hb hby at_245) ?_
    refine XS.icmpNo X1.here hx rfl (hb hby at_246) rfl (tlt (by decide)).2.2.2 ?_
    refine XS.iload X1.here hx rfl (hb hby at_249) rfl ?_
    refine XS.bipush X1.here hx rfl (hb hby at_251) ?_
    refine XS.icmpNo X1.here hx rfl (hb hby at_253) rfl (teq hd1).2 ?_
    refine XS.iconst X1.here hx rfl (hb hby at_256) ?_
    refine XS.istore X1.here hx rfl (hb hby at_257) rfl (l' := (LQ p0 p1 p2 p3 p4 p5 3 x0 x1 x2 x3 dA sA pk [sR jt, sR b1_0, sI 1, .unset, .unset])) rfl ?_
    refine XS.iload X1.here hx rfl (hb hby at_259) rfl ?_
    refine XS.iconst X1.here hx rfl (hb hby at_261) ?_
    refine XS.icmpNo X1.here hx rfl (hb hby at_262) rfl (tlt (by decide)).2.2.2 ?_
    refine XS.iload X1.here hx rfl (hb hby at_265) rfl ?_
    refine XS.bipush X1.here hx rfl (hb hby at_267) ?_
    refine XS.icmpYes X1.here hx rfl (pc0 := 269) (pc' := 275) rfl (hb hby at_269) rfl (feq hd2).2 (by decide) (by decide) ?_
    refine XS.iload X1.here hx rfl (hb hby at_275) rfl ?_
    refine XS.iconst X1.here hx rfl (hb hby at_277) ?_
    refine XS.icmpYes X1.here hx rfl (pc0 := 278) (pc' := 291) rfl (hb hby at_278) rfl (flt (by decide)).2.2.2 (by decide) (by decide) ?_
    refine XS.iload X1.here hx rfl (hb hby at_291) rfl ?_
    refine XS.iload X1.here hx rfl (hb hby at_293) rfl ?_
    refine XS.isub X1.here hx rfl (hb hby at_295) rfl ?_
    refine XS.iconst X1.here hx rfl (hb hby at_296) ?_
    refine XS.isub X1.here hx rfl (hb hby at_297) rfl ?_
    refine XS.istore X1.here hx rfl (hb hby at_298) rfl (l' := (LQ p0 p1 p2 p3 p4 p5 3 x0 x1 x2 x3 dA sA pk [sR jt, sR b1_0, sI 1, sI 1, .unset])) rfl ?_
    refine XS.aload X1.here hx rfl (hb hby at_300) rfl rfl ?_
    refine XS.ifnullNo X1.here hx rfl (hb hby at_302) rfl ?_
    refine XS.aload X1.here hx rfl (hb hby at_305) rfl rfl ?_
    exact kZ
  obtain ⟨cq4, kq4, q4a, q4b, q4c⟩ := isOf hZ rfl f1_8
  obtain ⟨_, _, ⟨T4, L4, k4, n4⟩, -, X4, ⟨Lc4, hQ4, l4, y4, z4⟩, st4⟩ := X1.virtualBack hx (y := y11) (z := y11) hown (mvT hZ (wq hw 114 rfl)) (mvT hZ (wq hw 65 rfl)) (notFace_of_selects (args := #[]) (mvT hZ (wq hw 67 rfl))) (mvT hZ (wq hw 67 rfl)) (mvT hZ (wq hw 66 rfl)) (by decide) (backOf (W := 0) (rm11 l Z a0 hw [] b1_0 b1_1 1 (own_sh fF 2) cs T1.heap n0 Z1 f1_8 f1_10 f1_9 f1_11 f1_6 hcs) hZ (wq hw 68 rfl) (wq hw 7 rfl) (by decide) (by decide)) q4a q4c (g := (mkF m 307 (LQ p0 p1 p2 p3 p4 p5 3 x0 x1 x2 x3 dA sA pk [sR jt, sR b1_0, sI 1, sI 1, .unset]) [(.ref b1_0)])) rfl (by rw [hml]; rfl) (Steps.refl _) (argsL := []) (rest := []) (lenOf pd_9 rfl) rfl (leW rfl) (hb hby at_307) (fun _ _ => ⟨rfl, rfl, (by decide : 7 + 2 + 0 ≤ _), (by decide : 85 + 8 + 0 ≤ _)⟩)
  dsimp only [Pt.U, Pt.locs, Pt.cells, Pt.slots] at X4 l4 y4 z4 st4 hQ4
  subst l4 y4 z4
  obtain ⟨rfl, N4q, e4⟩ := hQ4
  have hv4 : (f11 b1_0 b1_1 1 (own_sh fF 2) cs) = (Int32.ofNat 1) := by unfold f11; exact own_sh0 _
  rw [hv4] at st4
  have N4 := Fr.app N1 N4q
  refine Go.via (fun t k => st4.trans k) ?_
  refine Vi (T4.setTop (mkF m 333 (LQ p0 p1 p2 p3 p4 p5 3 x0 x1 x2 x3 dA sA pk [sR jt, sR b1_0, sI 1, sI 1, sI 1]) [(.int 0), (.ref b1_0)])) (fun tZ kZ => ?_) ?_
  · refine XS.iload X4.here hx rfl (hb hby at_310) rfl ?_
    refine XS.icmpYes X4.here hx rfl (pc0 := 312) (pc' := 317) rfl (hb hby at_312) rfl (teq (by decide)).1 (by decide) (by decide) ?_
    refine XS.iconst X4.here hx rfl (hb hby at_317) ?_
    refine XS.istore X4.here hx rfl (hb hby at_318) rfl (l' := (LQ p0 p1 p2 p3 p4 p5 3 x0 x1 x2 x3 dA sA pk [sR jt, sR b1_0, sI 1, sI 1, sI 1])) rfl ?_
    refine XS.iload X4.here hx rfl (hb hby at_320) rfl ?_
    refine XS.ifNo X4.here hx rfl (hb hby at_322) rfl ((if0 _ _).trans (tlt (by decide)).2.2.2) ?_
    refine XS.iload X4.here hx rfl (hb hby at_325) rfl ?_
    refine XS.ifNo X4.here hx rfl (hb hby at_327) rfl ((if0 _ _).trans (feq (by decide)).1) ?_
    refine XS.aload X4.here hx rfl (hb hby at_330) rfl rfl ?_
    refine XS.iconst X4.here hx rfl (hb hby at_332) ?_
    exact kZ
  obtain ⟨cq5, kq5, q5a, q5b, q5c⟩ := isOf hZ e4 f1_8
  obtain ⟨_, _, ⟨T5, L5, k5, n5⟩, -, X5, ⟨Lc5, hQ5, l5, y5, z5⟩, st5⟩ := X4.virtualBack hx (y := y30) (z := y30) hown (mvT hZ (wq hw 147 rfl)) (mvT hZ (wq hw 148 rfl)) (notFace_of_selects (args := #[]) (mvT hZ (wq hw 150 rfl))) (mvT hZ (wq hw 150 rfl)) (mvT hZ (wq hw 149 rfl)) (by decide) (backOf (W := 0) (rm30 l Z a0 hw [] b1_0 (0 : Int32) b1_1 1 (own_sh fF 2) cs sv T1.heap n0 Z1 f1_8 f1_10 f1_9 f1_11 f1_6 f1_7 hcs (by decide) (by decide) (by decide) hsv) hZ (wq hw 151 rfl) (wq hw 7 rfl) (by decide) (by decide)) q5a q5c (g := (mkF m 333 (LQ p0 p1 p2 p3 p4 p5 3 x0 x1 x2 x3 dA sA pk [sR jt, sR b1_0, sI 1, sI 1, sI 1]) [(.int 0), (.ref b1_0)])) rfl (by rw [hml]; rfl) (Steps.refl _) (argsL := [(.int 0)]) (rest := []) (lenOf pd_27 rfl) rfl (leW rfl) (hb hby at_333) (fun _ _ => ⟨rfl, e4, (by decide : 7 + 2 + 0 + 0 ≤ _), (by decide : 85 + 8 + 0 + 0 ≤ _)⟩)
  dsimp only [Pt.U, Pt.locs, Pt.cells, Pt.slots] at X5 l5 y5 z5 st5 hQ5
  subst l5 y5 z5
  obtain ⟨rfl, N5q, e5⟩ := hQ5
  have N5 := Fr.app N4 N5q
  refine Go.via (fun t k => st5.trans k) ?_
  refine Vi (T5.setTop (mkF m 457 (LQ p0 p1 p2 p3 p4 p5 3 x0 x1 x2 x3 dA sA pk [sR jt, sR b1_0, sI 1, sI 1, sI 1]) [(.int 1)])) (fun tZ kZ => ?_) ?_
  · refine XS.aload X5.here hx rfl (hb hby at_336) rfl rfl ?_
    refine XS.iload X5.here hx rfl (hb hby at_338) rfl ?_
    refine XS.iconst X5.here hx rfl (hb hby at_340) ?_
    refine XS.iadd X5.here hx rfl (hb hby at_341) rfl ?_
    refine AV.caload c3_4 X5 hx hZ e5 (j := (2 : Int32)) (by decide) (hb hby at_342) ?_
    refine XS.icmpNo X5.here hx rfl (hb hby at_343) rfl (teq (own_rt3 hx2 hf2)).2 ?_
    refine XS.iconst X5.here hx rfl (hb hby at_346) ?_
    refine XS.goto X5.here hx rfl (pc0 := 347) (pc' := 351) rfl (hb hby at_347) (by decide) (by decide) ?_
    refine XS.istore X5.here hx rfl (hb hby at_351) rfl (l' := (LQ p0 p1 p2 p3 p4 p5 3 x0 x1 x2 x3 dA sA pk [sR jt, sR b1_0, sI 1, sI 1, sI 1])) rfl ?_
    refine XS.iload X5.here hx rfl (hb hby at_353) rfl ?_
    refine XS.iconst X5.here hx rfl (hb hby at_355) ?_
    refine XS.icmpYes X5.here hx rfl (pc0 := 356) (pc' := 387) rfl (hb hby at_356) rfl (flt (by decide)).2.2.2 (by decide) (by decide) ?_
    refine XS.iload X5.here hx rfl (hb hby at_387) rfl ?_
    refine XS.iconst X5.here hx rfl (hb hby at_389) ?_
    refine XS.icmpYes X5.here hx rfl (pc0 := 390) (pc' := 421) rfl (hb hby at_390) rfl (flt (by decide)).2.2.2 (by decide) (by decide) ?_
    refine XS.iload X5.here hx rfl (hb hby at_421) rfl ?_
    refine XS.iconst X5.here hx rfl (hb hby at_423) ?_
    refine XS.icmpYes X5.here hx rfl (pc0 := 424) (pc' := 455) rfl (hb hby at_424) rfl (flt (by decide)).2.2.2 (by decide) (by decide) ?_
    refine XS.iload X5.here hx rfl (hb hby at_455) rfl ?_
    exact kZ
  refine Go.retNW (s := s) (vm₁ := vmT) X5 hx hST (by rw [e5]; exact hk1) hlk (t := .boolean) hret (by simp) (hb hby at_457) (by decide) (by decide) ?_
  exact ⟨rfl, N5⟩
theorem tb_3_3 (l : Launch) (Z : State) (a0 : Array Value) (hw : ∀ d ∈ tables_1, d.before a0 Z = true) {p : Program} {e : Env} {s : State} {m : MethodId} {args : Array Value} {below : List Frame} {meth : Method} {c : Code} {T0 : State} {locs0 : List Loc} {vmT : Vm} {h0 : Heap} {n0 kT : Nat} {x0 x1 x2 x3 cs : Int32} {sv : Value} {em dA : Addr} (hC : Com l Z a0 p e s m args below meth c T0 locs0 vmT 7 85 h0 n0 kT x0 x1 x2 x3 cs sv em dA) (p0 p1 p2 p3 p4 p5 : Int32) (sA pk jt sn bA : Addr) (fF : Nat → Int32) (hj0 : Exa Z h0 jt "com/example/bindery/bindery/compiler/JavaType") (hj1 : Fld Z h0 jt "com/example/bindery/bindery/compiler/JavaType" "name" "Ljava/lang/String;" (.ref sn)) (hj2 : Exa Z h0 sn "java/lang/String") (hj3 : Fld Z h0 sn "java/lang/String" "coder" "B" (.int 0)) (hj4 : Fld Z h0 sn "java/lang/String" "value" "[B" (.ref bA)) (hj5 : AV Z h0 bA .byte 3 (fun k => .int (fF k))) (hfit : ∀ k, k < 3 → fits .byte (.int (fF k)) = true) (hf0 : fF (0 : Int32).toNatClampNeg = nar .byte ((nar .char x0).toInt8.toInt32)) (hf1 : fF (1 : Int32).toNatClampNeg = nar .byte ((nar .char x1).toInt8.toInt32)) (hf2 : fF (2 : Int32).toNatClampNeg = nar .byte ((nar .char x2).toInt8.toInt32)) (hd2 : x2 = 46) :
    Go p e below (fun o u => ∃ v L, o = .returned v ∧ Q0 n0 v u.heap L ∧ ReturnedEndW s o u L 32 4288) (T0.setTop (mkF m 218 (LQ p0 p1 p2 p3 p4 p5 3 x0 x1 x2 x3 dA sA pk [sR jt, .unset, .unset, .unset, .unset]) [])) := by
  obtain ⟨X0, hx, hby, hml, hlk, hret, hZ, hown, wS, Z0, e0, N0, hST, hkT, hCH, hx0, hx1, hx2, hx3, hcs, hsv, S_CS, S_SV, S_EM, hold, VD⟩ := hC
  refine Vi (T0.setTop (mkF m 220 (LQ p0 p1 p2 p3 p4 p5 3 x0 x1 x2 x3 dA sA pk [sR jt, .unset, .unset, .unset, .unset]) [(.ref jt)])) (fun tZ kZ => ?_) ?_
  · refine XS.aload X0.here hx rfl (hb hby at_218) rfl rfl ?_
    exact kZ
  obtain ⟨cq1, kq1, q1a, q1b, q1c⟩ := isOf hZ e0 hj0
  obtain ⟨_, _, ⟨T1, L1, k1, n1⟩, -, X1, hS1, -, ⟨Lc1, hQ1, l1, y1, z1, A1⟩, st1⟩ := virtualBackS (s := s.setVm vmT) X0 hx (y := y9) (z := y9) hown (mvT hZ (wq hw 54 rfl)) (mvT hZ (wq hw 55 rfl)) (notFace_of_selects (args := #[]) (mvT hZ (wq hw 57 rfl))) (mvT hZ (wq hw 57 rfl)) (mvT hZ (wq hw 56 rfl)) (by decide) (backOfSH (s := s) (vm0 := vmT) (W := 0) (rm9n3B l Z a0 hw [] jt sn bA fF cs sv 3 h0 n0 Z0 hj0 hj1 hj2 hj3 hj4 hj5 (S_CS.ext hold.2) (S_SV.ext hold.2) hcs hsv (by decide) (by decide) (by decide) (by decide) (by decide) (own_l3_3 _ _ _ _ (by rw [hf2]; exact own_dot hd2))) hZ (wq hw 58 rfl) (wq hw 16 rfl) (by decide) (by decide) (own_EW hw) hCH) q1a q1c (g := (mkF m 220 (LQ p0 p1 p2 p3 p4 p5 3 x0 x1 x2 x3 dA sA pk [sR jt, .unset, .unset, .unset, .unset]) [(.ref jt)])) rfl (by rw [hml]; rfl) (Steps.refl _) (argsL := []) (rest := []) (lenOf pd_7 rfl) rfl (leW rfl) (hb hby at_220) (fun _ _ => ⟨rfl, e0, (by decide : 7 + 2 ≤ _), (by decide : 85 + 68 ≤ _)⟩)
  dsimp only [Pt.U, Pt.locs, Pt.cells, Pt.slots] at X1 hS1 l1 y1 z1 A1 st1 hQ1
  subst l1 y1 z1
  obtain ⟨b1_0, b1_1, rfl, N1q, Kq1, f1_0, f1_1, f1_2, f1_3, f1_4, f1_5, f1_6, f1_7, f1_8, f1_9, f1_10, f1_11⟩ := hQ1
  have CR2c := CHr.trans (CHr.refl hCH) A1
  have c3_0 := hold.keep Kq1 all0
  have c3_3 := S_EM.ext c3_0.2
  have c3_4 := VD.keep Kq1 nin0
  have K1 : Keep h0 T1.heap [] := (Keep.refl h0 []).trans Kq1 all0
  have Z1 : n0 ≤ T1.heap.size := Nat.le_trans Z0 Kq1.1
  have ne_b1_1_jt := AV.neExa f1_11 f1_0 (wq hw 15 rfl)
  have ne_b1_1_sn := AV.neExa f1_11 f1_2 (wq hw 8 rfl)
  have ne_b1_1_b1_0 := AV.neExa f1_11 f1_8 (wq hw 8 rfl)
  have N1 := Fr.app N0 N1q
  have hS1c : s.Since T1.vm T1.heap.size := State.Since.trans hST hS1 (Nat.le_trans hkT Kq1.1)
  replace hZ : Z.Warmed39 (s.setVm T1.vm).vm := State.Warmed39.trans (t := s.setVm vmT) hZ hS1.1
  replace hown : (s.setVm T1.vm).vm.findClass "com/example/bindery/bindery/compiler/JavaTypeSimpleNamePinLaw" = some m.cls := by rw [show (s.setVm T1.vm).vm = T1.vm from rfl, hS1.1.alike.findClass]; exact hown
  refine Go.via (fun t k => st1.trans k) ?_
  refine Vi (T1.setTop (mkF m 307 (LQ p0 p1 p2 p3 p4 p5 3 x0 x1 x2 x3 dA sA pk [sR jt, sR b1_0, sI 2, sI 0, .unset]) [(.ref b1_0)])) (fun tZ kZ => ?_) ?_
  · refine XS.astore X1.here hx rfl (hb hby at_223) rfl rfl (l' := (LQ p0 p1 p2 p3 p4 p5 3 x0 x1 x2 x3 dA sA pk [sR jt, sR b1_0, .unset, .unset, .unset])) rfl ?_
    refine XS.iconst X1.here hx rfl (hb hby at_225) ?_
    refine XS.istore X1.here hx rfl (hb hby at_226) rfl (l' := (LQ p0 p1 p2 p3 p4 p5 3 x0 x1 x2 x3 dA sA pk [sR jt, sR b1_0, sI (-1), .unset, .unset])) rfl ?_
    refine XS.iload X1.here hx rfl (hb hby at_228) rfl ?_
    refine XS.ifNo X1.here hx rfl (hb hby at_230) rfl ((if0 _ _).trans (tlt (by decide)).2.2.2) ?_
    refine XS.iload X1.here hx rfl (hb hby at_233) rfl ?_
    refine XS.bipush X1.here hx rfl (hb hby at_235) ?_
    have sg237 : Steps p.tables e below (T1.setTop (mkF m 243 (LQ p0 p1 p2 p3 p4 p5 3 x0 x1 x2 x3 dA sA pk [sR jt, sR b1_0, sI (if x0 = (46 : Int32) then (0 : Int32) else (-1 : Int32)), .unset, .unset]) [])) tZ → Steps p.tables e below (T1.setTop (mkF m 237 (LQ p0 p1 p2 p3 p4 p5 3 x0 x1 x2 x3 dA sA pk [sR jt, sR b1_0, sI (-1), .unset, .unset]) [(.int 46), (.int x0)])) tZ := by
      intro kj
      by_cases hc237 : x0 = (46 : Int32)
      · try simp only [if_pos hc237] at kj
        refine XS.icmpNo X1.here hx rfl (hb hby at_237) rfl (teq hc237).2 ?_
        refine XS.iconst X1.here hx rfl (hb hby at_240) ?_
        refine XS.istore X1.here hx rfl (hb hby at_241) rfl (l' := (LQ p0 p1 p2 p3 p4 p5 3 x0 x1 x2 x3 dA sA pk [sR jt, sR b1_0, sI 0, .unset, .unset])) rfl ?_
        exact kj
      · try simp only [if_neg hc237] at kj
        refine XS.icmpYes X1.here hx rfl (pc0 := 237) (pc' := 243) rfl (hb hby at_237) rfl (feq hc237).2 (by decide) (by decide) ?_
        exact kj
    refine sg237 ?_
    show Steps p.tables e below (T1.setTop (mkF m 243 (LQ p0 p1 p2 p3 p4 p5 3 x0 x1 x2 x3 dA sA pk [sR jt, sR b1_0, sI (if x0 = (46 : Int32) then (0 : Int32) else (-1 : Int32)), .unset, .unset]) [])) _
    refine XS.iload X1.here hx rfl (hb hby at_243) rfl ?_
    refine XS.iconst X1.here hx rfl (hb hby at_245) ?_
    refine XS.icmpNo X1.here hx rfl (hb hby at_246) rfl (tlt (by decide)).2.2.2 ?_
    refine XS.iload X1.here hx rfl (hb hby at_249) rfl ?_
    refine XS.bipush X1.here hx rfl (hb hby at_251) ?_
    have sg253 : Steps p.tables e below (T1.setTop (mkF m 259 (LQ p0 p1 p2 p3 p4 p5 3 x0 x1 x2 x3 dA sA pk [sR jt, sR b1_0, sI (if x1 = (46 : Int32) then (1 : Int32) else (if x0 = (46 : Int32) then (0 : Int32) else (-1 : Int32))), .unset, .unset]) [])) tZ → Steps p.tables e below (T1.setTop (mkF m 253 (LQ p0 p1 p2 p3 p4 p5 3 x0 x1 x2 x3 dA sA pk [sR jt, sR b1_0, sI (if x0 = (46 : Int32) then (0 : Int32) else (-1 : Int32)), .unset, .unset]) [(.int 46), (.int x1)])) tZ := by
      intro kj
      by_cases hc253 : x1 = (46 : Int32)
      · try simp only [if_pos hc253] at kj
        refine XS.icmpNo X1.here hx rfl (hb hby at_253) rfl (teq hc253).2 ?_
        refine XS.iconst X1.here hx rfl (hb hby at_256) ?_
        refine XS.istore X1.here hx rfl (hb hby at_257) rfl (l' := (LQ p0 p1 p2 p3 p4 p5 3 x0 x1 x2 x3 dA sA pk [sR jt, sR b1_0, sI 1, .unset, .unset])) rfl ?_
        exact kj
      · try simp only [if_neg hc253] at kj
        refine XS.icmpYes X1.here hx rfl (pc0 := 253) (pc' := 259) rfl (hb hby at_253) rfl (feq hc253).2 (by decide) (by decide) ?_
        exact kj
    refine sg253 ?_
    show Steps p.tables e below (T1.setTop (mkF m 259 (LQ p0 p1 p2 p3 p4 p5 3 x0 x1 x2 x3 dA sA pk [sR jt, sR b1_0, sI (if x1 = (46 : Int32) then (1 : Int32) else (if x0 = (46 : Int32) then (0 : Int32) else (-1 : Int32))), .unset, .unset]) [])) _
    refine XS.iload X1.here hx rfl (hb hby at_259) rfl ?_
    refine XS.iconst X1.here hx rfl (hb hby at_261) ?_
    refine XS.icmpNo X1.here hx rfl (hb hby at_262) rfl (tlt (by decide)).2.2.2 ?_
    refine XS.iload X1.here hx rfl (hb hby at_265) rfl ?_
    refine XS.bipush X1.here hx rfl (hb hby at_267) ?_
    refine XS.icmpNo X1.here hx rfl (hb hby at_269) rfl (teq hd2).2 ?_
    refine XS.iconst X1.here hx rfl (hb hby at_272) ?_
    refine XS.istore X1.here hx rfl (hb hby at_273) rfl (l' := (LQ p0 p1 p2 p3 p4 p5 3 x0 x1 x2 x3 dA sA pk [sR jt, sR b1_0, sI 2, .unset, .unset])) rfl ?_
    refine XS.iload X1.here hx rfl (hb hby at_275) rfl ?_
    refine XS.iconst X1.here hx rfl (hb hby at_277) ?_
    refine XS.icmpYes X1.here hx rfl (pc0 := 278) (pc' := 291) rfl (hb hby at_278) rfl (flt (by decide)).2.2.2 (by decide) (by decide) ?_
    refine XS.iload X1.here hx rfl (hb hby at_291) rfl ?_
    refine XS.iload X1.here hx rfl (hb hby at_293) rfl ?_
    refine XS.isub X1.here hx rfl (hb hby at_295) rfl ?_
    refine XS.iconst X1.here hx rfl (hb hby at_296) ?_
    refine XS.isub X1.here hx rfl (hb hby at_297) rfl ?_
    refine XS.istore X1.here hx rfl (hb hby at_298) rfl (l' := (LQ p0 p1 p2 p3 p4 p5 3 x0 x1 x2 x3 dA sA pk [sR jt, sR b1_0, sI 2, sI 0, .unset])) rfl ?_
    refine XS.aload X1.here hx rfl (hb hby at_300) rfl rfl ?_
    refine XS.ifnullNo X1.here hx rfl (hb hby at_302) rfl ?_
    refine XS.aload X1.here hx rfl (hb hby at_305) rfl rfl ?_
    exact kZ
  obtain ⟨cq4, kq4, q4a, q4b, q4c⟩ := isOf hZ rfl f1_8
  obtain ⟨_, _, ⟨T4, L4, k4, n4⟩, -, X4, ⟨Lc4, hQ4, l4, y4, z4⟩, st4⟩ := X1.virtualBack hx (y := y11) (z := y11) hown (mvT hZ (wq hw 114 rfl)) (mvT hZ (wq hw 65 rfl)) (notFace_of_selects (args := #[]) (mvT hZ (wq hw 67 rfl))) (mvT hZ (wq hw 67 rfl)) (mvT hZ (wq hw 66 rfl)) (by decide) (backOf (W := 0) (rm11 l Z a0 hw [] b1_0 b1_1 0 (own_t []) cs T1.heap n0 Z1 f1_8 f1_9 f1_10 f1_11 f1_6 hcs) hZ (wq hw 68 rfl) (wq hw 7 rfl) (by decide) (by decide)) q4a q4c (g := (mkF m 307 (LQ p0 p1 p2 p3 p4 p5 3 x0 x1 x2 x3 dA sA pk [sR jt, sR b1_0, sI 2, sI 0, .unset]) [(.ref b1_0)])) rfl (by rw [hml]; rfl) (Steps.refl _) (argsL := []) (rest := []) (lenOf pd_9 rfl) rfl (leW rfl) (hb hby at_307) (fun _ _ => ⟨rfl, rfl, (by decide : 7 + 2 + 0 ≤ _), (by decide : 85 + 68 + 0 ≤ _)⟩)
  dsimp only [Pt.U, Pt.locs, Pt.cells, Pt.slots] at X4 l4 y4 z4 st4 hQ4
  subst l4 y4 z4
  obtain ⟨rfl, N4q, e4⟩ := hQ4
  have hv4 : (f11 b1_0 b1_1 0 (own_t []) cs) = (Int32.ofNat 0) := by unfold f11; exact own_sh0 _
  rw [hv4] at st4
  have N4 := Fr.app N1 N4q
  refine Go.via (fun t k => st4.trans k) ?_
  refine Vi (T4.setTop (mkF m 457 (LQ p0 p1 p2 p3 p4 p5 3 x0 x1 x2 x3 dA sA pk [sR jt, sR b1_0, sI 2, sI 0, sI 1]) [(.int 1)])) (fun tZ kZ => ?_) ?_
  · refine XS.iload X4.here hx rfl (hb hby at_310) rfl ?_
    refine XS.icmpYes X4.here hx rfl (pc0 := 312) (pc' := 317) rfl (hb hby at_312) rfl (teq (by decide)).1 (by decide) (by decide) ?_
    refine XS.iconst X4.here hx rfl (hb hby at_317) ?_
    refine XS.istore X4.here hx rfl (hb hby at_318) rfl (l' := (LQ p0 p1 p2 p3 p4 p5 3 x0 x1 x2 x3 dA sA pk [sR jt, sR b1_0, sI 2, sI 0, sI 1])) rfl ?_
    refine XS.iload X4.here hx rfl (hb hby at_320) rfl ?_
    refine XS.ifYes X4.here hx rfl (pc0 := 322) (pc' := 353) rfl (hb hby at_322) rfl ((if0 _ _).trans (flt (by decide)).2.2.2) (by decide) (by decide) ?_
    refine XS.iload X4.here hx rfl (hb hby at_353) rfl ?_
    refine XS.iconst X4.here hx rfl (hb hby at_355) ?_
    refine XS.icmpYes X4.here hx rfl (pc0 := 356) (pc' := 387) rfl (hb hby at_356) rfl (flt (by decide)).2.2.2 (by decide) (by decide) ?_
    refine XS.iload X4.here hx rfl (hb hby at_387) rfl ?_
    refine XS.iconst X4.here hx rfl (hb hby at_389) ?_
    refine XS.icmpYes X4.here hx rfl (pc0 := 390) (pc' := 421) rfl (hb hby at_390) rfl (flt (by decide)).2.2.2 (by decide) (by decide) ?_
    refine XS.iload X4.here hx rfl (hb hby at_421) rfl ?_
    refine XS.iconst X4.here hx rfl (hb hby at_423) ?_
    refine XS.icmpYes X4.here hx rfl (pc0 := 424) (pc' := 455) rfl (hb hby at_424) rfl (flt (by decide)).2.2.2 (by decide) (by decide) ?_
    refine XS.iload X4.here hx rfl (hb hby at_455) rfl ?_
    exact kZ
  refine Go.retNW (s := s) (vm₁ := T1.vm) X4 hx hS1c (by rw [e4]; exact (Nat.le_refl _)) hlk (t := .boolean) hret (by simp) (hb hby at_457) (by decide) (by decide) ?_
  exact ⟨rfl, N4⟩
theorem ta_3 (l : Launch) (Z : State) (a0 : Array Value) (hw : ∀ d ∈ tables_1, d.before a0 Z = true) {p : Program} {e : Env} {s : State} {m : MethodId} {args : Array Value} {below : List Frame} {meth : Method} {c : Code} {T0 : State} {locs0 : List Loc} {vmT : Vm} {h0 : Heap} {n0 kT : Nat} {x0 x1 x2 x3 cs : Int32} {sv : Value} {em dA : Addr} (hC : Com l Z a0 p e s m args below meth c T0 locs0 vmT 4 75 h0 n0 kT x0 x1 x2 x3 cs sv em dA) (p0 p1 p2 p3 p4 p5 : Int32) (sA pk : Addr) (VS : AV Z h0 sA .char 3 (fun k => .int ((up (up (up (fun _ => (0 : Int32)) (0 : Int32).toNatClampNeg (nar .char x0)) (1 : Int32).toNatClampNeg (nar .char x1)) (2 : Int32).toNatClampNeg (nar .char x2)) k))) :
    Go p e below (fun o u => ∃ v L, o = .returned v ∧ Q0 n0 v u.heap L ∧ ReturnedEndW s o u L 32 4288) (T0.setTop (mkF m 198 (LQ p0 p1 p2 p3 p4 p5 3 x0 x1 x2 x3 dA sA pk [.unset, .unset, .unset, .unset, .unset]) [])) := by
  obtain ⟨X0, hx, hby, hml, hlk, hret, hZ, hown, wS, Z0, e0, N0, hST, hkT, hCH, hx0, hx1, hx2, hx3, hcs, hsv, S_CS, S_SV, S_EM, hold, VD⟩ := hC
  obtain ⟨T1, h1, X1, e1, E1, A1, D1, -, st1⟩ := newO X0 hx hZ hown (wq hw 14 rfl) (wq hw 15 rfl) (wq hw 16 rfl) e0 (g := (mkF m 198 (LQ p0 p1 p2 p3 p4 p5 3 x0 x1 x2 x3 dA sA pk [.unset, .unset, .unset, .unset, .unset]) [])) rfl (hb hby at_198) (by decide) (by decide)
  obtain ⟨b1, g1⟩ : ∃ z, z = h0.size := ⟨_, rfl⟩
  rw [← g1] at A1 D1 st1
  have g_b1 : n0 ≤ b1 := Nat.le_trans Z0 (Nat.le_of_eq g1.symm)
  have sz_b1 : h0.size ≤ b1 := Nat.le_trans ((Keep.refl h0 [])).1 (Nat.le_of_eq g1.symm)
  have ne_dA_b1 : dA ≠ b1 := Nat.ne_of_lt (Nat.lt_of_lt_of_le VD.lt (Nat.le_of_eq g1.symm))
  have ne_sA_b1 : sA ≠ b1 := Nat.ne_of_lt (Nat.lt_of_lt_of_le VS.lt (Nat.le_of_eq g1.symm))
  have Ac2 := CHr.ext E1 hCH
  have CR2c := CHr.trans (CHr.refl hCH) Ac2
  have c3_0 := hold.ext E1
  have c3_1 := S_CS.ext c3_0.2
  have c3_2 := S_SV.ext c3_0.2
  have c3_3 := S_EM.ext c3_0.2
  have c3_4 := VD.ext E1
  have c3_5 := VS.ext E1
  have K1 : Keep h0 h1 [] := (Keep.refl h0 []).ext E1
  have Z1 : n0 ≤ h1.size := Nat.le_trans Z0 E1.1
  have hk1 := Nat.le_trans hkT E1.1
  have Sf_b1 := Safe.ext E1 hCH (Safe.new (Nat.le_of_eq g1.symm))
  have F1_packageName : Fld Z h1 b1 "com/example/bindery/bindery/compiler/JavaType" "packageName" "Ljava/lang/String;" .null := D1 (Or.inr (wq hw 49 rfl)) (ty := (.object "java/lang/String")) (by decide)
  have F1_name : Fld Z h1 b1 "com/example/bindery/bindery/compiler/JavaType" "name" "Ljava/lang/String;" .null := D1 (Or.inr (wq hw 51 rfl)) (ty := (.object "java/lang/String")) (by decide)
  have F1_argument : Fld Z h1 b1 "com/example/bindery/bindery/compiler/JavaType" "argument" "Ljava/util/Optional;" .null := D1 (Or.inr (wq hw 53 rfl)) (ty := (.object "java/util/Optional")) (by decide)
  refine Go.via st1 ?_
  refine Vi (T1.setTop (mkF m 204 (LQ p0 p1 p2 p3 p4 p5 3 x0 x1 x2 x3 dA sA pk [.unset, .unset, .unset, .unset, .unset]) [(.ref pk), (.ref b1), (.ref b1)])) (fun tZ kZ => ?_) ?_
  · refine XS.dup X1.here hx rfl (hb hby at_201) rfl rfl ?_
    refine XS.aload X1.here hx rfl (hb hby at_202) rfl rfl ?_
    exact kZ
  obtain ⟨T4, h4, X4, e4, E4, A4, D4, -, st4⟩ := newO X1 hx hZ hown (wq hw 17 rfl) (wq hw 8 rfl) (wq hw 7 rfl) e1 (g := (mkF m 204 (LQ p0 p1 p2 p3 p4 p5 3 x0 x1 x2 x3 dA sA pk [.unset, .unset, .unset, .unset, .unset]) [(.ref pk), (.ref b1), (.ref b1)])) rfl (hb hby at_204) (by decide) (by decide)
  obtain ⟨b4, g4⟩ : ∃ z, z = h1.size := ⟨_, rfl⟩
  rw [← g4] at A4 D4 st4
  have g_b4 : n0 ≤ b4 := Nat.le_trans Z1 (Nat.le_of_eq g4.symm)
  have sz_b4 : h0.size ≤ b4 := Nat.le_trans (K1).1 (Nat.le_of_eq g4.symm)
  have ne_dA_b4 : dA ≠ b4 := Nat.ne_of_lt (Nat.lt_of_lt_of_le c3_4.lt (Nat.le_of_eq g4.symm))
  have ne_sA_b4 : sA ≠ b4 := Nat.ne_of_lt (Nat.lt_of_lt_of_le c3_5.lt (Nat.le_of_eq g4.symm))
  have ne_b1_b4 : b1 ≠ b4 := Nat.ne_of_lt (Nat.lt_of_lt_of_le A1.lt (Nat.le_of_eq g4.symm))
  have Ac5 := CHr.ext E4 Ac2.1
  have Sf5_0 := Ac5.safe A1.lt Sf_b1
  have CR5c := CHr.trans CR2c Ac5
  have c6_0 := c3_0.ext E4
  have c6_1 := S_CS.ext c6_0.2
  have c6_2 := S_SV.ext c6_0.2
  have c6_3 := S_EM.ext c6_0.2
  have c6_4 := c3_4.ext E4
  have c6_5 := c3_5.ext E4
  have c6_7 := A1.ext E4
  have c6_8 := F1_packageName.ext E4
  have c6_9 := F1_name.ext E4
  have c6_10 := F1_argument.ext E4
  have K4 : Keep h0 h4 [] := K1.ext E4
  have Z4 : n0 ≤ h4.size := Nat.le_trans Z1 E4.1
  have hk4 := Nat.le_trans hk1 E4.1
  have Sf_b4 := Safe.ext E4 Ac2.1 (Safe.new (Nat.le_of_eq g4.symm))
  have F4_value : Fld Z h4 b4 "java/lang/String" "value" "[B" .null := D4 (Or.inr (wq hw 10 rfl)) (ty := (.array .byte)) (by decide)
  have F4_coder : Fld Z h4 b4 "java/lang/String" "coder" "B" (.int 0) := D4 (Or.inr (wq hw 11 rfl)) (ty := .byte) (by decide)
  refine Go.via st4 ?_
  refine Vi (T4.setTop (mkF m 210 (LQ p0 p1 p2 p3 p4 p5 3 x0 x1 x2 x3 dA sA pk [.unset, .unset, .unset, .unset, .unset]) [(.ref sA), (.ref b4), (.ref b4), (.ref pk), (.ref b1), (.ref b1)])) (fun tZ kZ => ?_) ?_
  · refine XS.dup X4.here hx rfl (hb hby at_207) rfl rfl ?_
    refine XS.aload X4.here hx rfl (hb hby at_208) rfl rfl ?_
    exact kZ
  obtain ⟨_, _, ⟨T7, L7, k7, n7⟩, -, X7, ⟨Lc7, hQ7, l7, y7, z7⟩, st7⟩ := X4.specialBack hx (y := y2) rfl hown (mvT hZ (wq hw 18 rfl)) (mvT hZ (wq hw 19 rfl)) (mvT hZ (wq hw 20 rfl)) (by decide) (backOf (W := 4) (rm2n3 l Z a0 hw [] b4 sA (up (up (up (fun _ => (0 : Int32)) (0 : Int32).toNatClampNeg (nar .char x0)) (1 : Int32).toNatClampNeg (nar .char x1)) (2 : Int32).toNatClampNeg (nar .char x2)) cs h4 n0 Z4 A4 F4_value F4_coder g_b4 c6_5 c6_1 ne_sA_b4 (own_hch hx0) (own_hch hx1) (own_hch hx2) hcs) hZ (wq hw 20 rfl) (wq hw 7 rfl) (by decide) (by decide)) (g := (mkF m 210 (LQ p0 p1 p2 p3 p4 p5 3 x0 x1 x2 x3 dA sA pk [.unset, .unset, .unset, .unset, .unset]) [(.ref sA), (.ref b4), (.ref b4), (.ref pk), (.ref b1), (.ref b1)])) rfl (by rw [hml]; rfl) (Steps.refl _) (a := b4) (argsL := [(.ref sA)]) (rest := [(.ref b4), (.ref pk), (.ref b1), (.ref b1)]) (lenOf pd_1 rfl) rfl (leW rfl) (hb hby at_210) (fun _ _ => ⟨rfl, e4, (by decide : 4 + 1 + 1 + 1 ≤ _), (by decide : 75 + 3 + 4 + 3 ≤ _)⟩)
  dsimp only [Pt.U, Pt.locs, Pt.cells, Pt.slots] at X7 l7 y7 z7 st7 hQ7
  subst l7 y7 z7
  obtain ⟨b7_0, rfl, N7q, Kq7, hz_b7_0, f7_0, f7_1, f7_2, f7_3, f7_4, f7_5⟩ := hQ7
  have g_b7_0 : n0 ≤ b7_0 := Nat.le_trans Z4 hz_b7_0
  have sz_b7_0 : h0.size ≤ b7_0 := Nat.le_trans (K4).1 hz_b7_0
  have ne_dA_b7_0 : dA ≠ b7_0 := Nat.ne_of_lt (Nat.lt_of_lt_of_le c6_4.lt hz_b7_0)
  have ne_sA_b7_0 : sA ≠ b7_0 := Nat.ne_of_lt (Nat.lt_of_lt_of_le c6_5.lt hz_b7_0)
  have ne_b1_b7_0 : b1 ≠ b7_0 := Nat.ne_of_lt (Nat.lt_of_lt_of_le c6_7.lt hz_b7_0)
  have ne_b4_b7_0 : b4 ≠ b7_0 := Nat.ne_of_lt (Nat.lt_of_lt_of_le A4.lt hz_b7_0)
  have Ac8 := CHr.keep Kq7 (allS Sf_b4 all0) Ac5.1
  have Sf8_0 := Ac8.safe c6_7.lt Sf5_0
  have Sf8_1 := Ac8.safe A4.lt Sf_b4
  have CR8c := CHr.trans CR5c Ac8
  have c9_0 := c6_0.keep Kq7 (allS g_b4 all0)
  have c9_2 := S_SV.ext c9_0.2
  have c9_3 := S_EM.ext c9_0.2
  have c9_4 := c6_4.keep Kq7 (ninS ne_dA_b4 nin0)
  have c9_7 := c6_7.keep Kq7
  have c9_8 := c6_8.keep Kq7 (ninS ne_b1_b4 nin0)
  have c9_9 := c6_9.keep Kq7 (ninS ne_b1_b4 nin0)
  have c9_10 := c6_10.keep Kq7 (ninS ne_b1_b4 nin0)
  have K7 : Keep h0 T7.heap [] := K4.trans Kq7 (allS (Or.inr sz_b4) all0)
  have Z7 : n0 ≤ T7.heap.size := Nat.le_trans Z4 Kq7.1
  have hk7 := Nat.le_trans hk4 Kq7.1
  have N7 := Fr.app N0 N7q
  refine Go.via (fun t k => st7.trans k) ?_
  obtain ⟨fF, hfE⟩ : ∃ f : Nat → Int32, f = (up (up (up (fun _ => (0 : Int32)) (0 : Int32).toNatClampNeg (nar .byte (((up (up (up (fun _ => (0 : Int32)) (0 : Int32).toNatClampNeg (nar .char x0)) (1 : Int32).toNatClampNeg (nar .char x1)) (2 : Int32).toNatClampNeg (nar .char x2)) (0 : Int32).toNatClampNeg).toInt8.toInt32))) (1 : Int32).toNatClampNeg (nar .byte (((up (up (up (fun _ => (0 : Int32)) (0 : Int32).toNatClampNeg (nar .char x0)) (1 : Int32).toNatClampNeg (nar .char x1)) (2 : Int32).toNatClampNeg (nar .char x2)) (1 : Int32).toNatClampNeg).toInt8.toInt32))) (2 : Int32).toNatClampNeg (nar .byte (((up (up (up (fun _ => (0 : Int32)) (0 : Int32).toNatClampNeg (nar .char x0)) (1 : Int32).toNatClampNeg (nar .char x1)) (2 : Int32).toNatClampNeg (nar .char x2)) (2 : Int32).toNatClampNeg).toInt8.toInt32))) := ⟨_, rfl⟩
  rw [← hfE] at f7_5
  have hfit : ∀ k, k < 3 → fits .byte (.int (fF k)) = true := by rw [hfE]; exact (fun k hk => by match k, hk with | 0, _ => exact fits_nar_byte _ | 1, _ => exact fits_nar_byte _ | 2, _ => exact fits_nar_byte _ | k + 3, hk => exact absurd hk (by omega))
  have hf0 : fF (0 : Int32).toNatClampNeg = nar .byte ((nar .char x0).toInt8.toInt32) := by rw [hfE]; rfl
  have hf1 : fF (1 : Int32).toNatClampNeg = nar .byte ((nar .char x1).toInt8.toInt32) := by rw [hfE]; rfl
  have hf2 : fF (2 : Int32).toNatClampNeg = nar .byte ((nar .char x2).toInt8.toInt32) := by rw [hfE]; rfl
  obtain ⟨_, _, ⟨T10, L10, k10, n10⟩, -, X10, ⟨Lc10, hQ10, l10, y10, z10⟩, st10⟩ := X7.specialBack hx (y := y5) rfl hown (mvT hZ (wq hw 31 rfl)) (mvT hZ (wq hw 32 rfl)) (mvT hZ (wq hw 33 rfl)) (by decide) (backOf (W := 1) (rm5 l Z a0 hw [] b1 pk b4 em T7.heap n0 Z7 c9_7 c9_8 c9_9 c9_10 g_b1 c9_3) hZ (wq hw 33 rfl) (wq hw 16 rfl) (by decide) (by decide)) (g := (mkF m 213 (LQ p0 p1 p2 p3 p4 p5 3 x0 x1 x2 x3 dA sA pk [.unset, .unset, .unset, .unset, .unset]) [(.ref b4), (.ref pk), (.ref b1), (.ref b1)])) rfl (by rw [hml]; rfl) (Steps.refl _) (a := b1) (argsL := [(.ref pk), (.ref b4)]) (rest := [(.ref b1)]) (lenOf pd_4 rfl) rfl (leW rfl) (hb hby at_213) (fun _ _ => ⟨rfl, rfl, (by decide : 4 + 1 + 1 + 1 + 0 ≤ _), (by decide : 75 + 3 + 4 + 3 + 0 ≤ _)⟩)
  dsimp only [Pt.U, Pt.locs, Pt.cells, Pt.slots] at X10 l10 y10 z10 st10 hQ10
  subst l10 y10 z10
  obtain ⟨rfl, N10q, Kq10, f10_0, f10_1, f10_2, f10_3, f10_4⟩ := hQ10
  have Ac11 := CHr.keep Kq10 (allS Sf8_0 all0) Ac8.1
  have Sf11_0 := Ac11.safe c9_7.lt Sf8_0
  have Sf11_1 := Ac11.safe f7_0.lt Sf8_1
  have CR11c := CHr.trans CR8c Ac11
  have c12_0 := c9_0.keep Kq10 (allS g_b1 all0)
  have c12_1 := S_CS.ext c12_0.2
  have c12_2 := S_SV.ext c12_0.2
  have c12_4 := c9_4.keep Kq10 (ninS ne_dA_b1 nin0)
  have c12_11 := f7_0.keep Kq10
  have c12_12 := f7_1.keep Kq10 (ninS (Ne.symm ne_b1_b4) nin0)
  have c12_13 := f7_2.keep Kq10 (ninS (Ne.symm ne_b1_b4) nin0)
  have c12_14 := f7_5.keep Kq10 (ninS (Ne.symm ne_b1_b7_0) nin0)
  have K10 : Keep h0 T10.heap [] := K7.trans Kq10 (allS (Or.inr sz_b1) all0)
  have Z10 : n0 ≤ T10.heap.size := Nat.le_trans Z7 Kq10.1
  have hk10 := Nat.le_trans hk7 Kq10.1
  have N10 := Fr.app N7 N10q
  refine Go.via (fun t k => st10.trans k) ?_
  refine Vi (T10.setTop (mkF m 218 (LQ p0 p1 p2 p3 p4 p5 3 x0 x1 x2 x3 dA sA pk [sR b1, .unset, .unset, .unset, .unset]) [])) (fun tZ kZ => ?_) ?_
  · refine XS.astore X10.here hx rfl (hb hby at_216) rfl rfl (l' := (LQ p0 p1 p2 p3 p4 p5 3 x0 x1 x2 x3 dA sA pk [sR b1, .unset, .unset, .unset, .unset])) rfl ?_
    exact kZ
  by_cases hd2 : x2 = 46
  · exact tb_3_3 l Z a0 hw (s := s) (vmT := vmT) ⟨X10, hx, hby, hml, hlk, hret, hZ, hown, wS, Z10, rfl, N10, hST, hk10, Ac11.1, hx0, hx1, hx2, hx3, hcs, hsv, S_CS, S_SV, S_EM, c12_0, c12_4⟩ p0 p1 p2 p3 p4 p5 sA pk b1 b4 b7_0 fF f10_0 f10_2 c12_11 c12_13 c12_12 c12_14 hfit hf0 hf1 hf2 hd2
  · skip
    by_cases hd1 : x1 = 46
    · exact tb_3_2 l Z a0 hw (s := s) (vmT := vmT) ⟨X10, hx, hby, hml, hlk, hret, hZ, hown, wS, Z10, rfl, N10, hST, hk10, Ac11.1, hx0, hx1, hx2, hx3, hcs, hsv, S_CS, S_SV, S_EM, c12_0, c12_4⟩ p0 p1 p2 p3 p4 p5 sA pk b1 b4 b7_0 fF f10_0 f10_2 c12_11 c12_13 c12_12 c12_14 hfit hf0 hf1 hf2 hd2 hd1
    · skip
      by_cases hd0 : x0 = 46
      · exact tb_3_1 l Z a0 hw (s := s) (vmT := vmT) ⟨X10, hx, hby, hml, hlk, hret, hZ, hown, wS, Z10, rfl, N10, hST, hk10, Ac11.1, hx0, hx1, hx2, hx3, hcs, hsv, S_CS, S_SV, S_EM, c12_0, c12_4⟩ p0 p1 p2 p3 p4 p5 sA pk b1 b4 b7_0 fF f10_0 f10_2 c12_11 c12_13 c12_12 c12_14 hfit hf0 hf1 hf2 hd2 hd1 hd0
      · skip
        exact tb_3_0 l Z a0 hw (s := s) (vmT := vmT) ⟨X10, hx, hby, hml, hlk, hret, hZ, hown, wS, Z10, rfl, N10, hST, hk10, Ac11.1, hx0, hx1, hx2, hx3, hcs, hsv, S_CS, S_SV, S_EM, c12_0, c12_4⟩ p0 p1 p2 p3 p4 p5 sA pk b1 b4 b7_0 fF f10_0 f10_2 c12_11 c12_13 c12_12 c12_14 hfit hf0 hf1 hf2 hd2 hd1 hd0
theorem tb_4_0 (l : Launch) (Z : State) (a0 : Array Value) (hw : ∀ d ∈ tables_1, d.before a0 Z = true) {p : Program} {e : Env} {s : State} {m : MethodId} {args : Array Value} {below : List Frame} {meth : Method} {c : Code} {T0 : State} {locs0 : List Loc} {vmT : Vm} {h0 : Heap} {n0 kT : Nat} {x0 x1 x2 x3 cs : Int32} {sv : Value} {em dA : Addr} (hC : Com l Z a0 p e s m args below meth c T0 locs0 vmT 7 87 h0 n0 kT x0 x1 x2 x3 cs sv em dA) (p0 p1 p2 p3 p4 p5 : Int32) (sA pk jt sn bA : Addr) (fF : Nat → Int32) (hj0 : Exa Z h0 jt "com/example/bindery/bindery/compiler/JavaType") (hj1 : Fld Z h0 jt "com/example/bindery/bindery/compiler/JavaType" "name" "Ljava/lang/String;" (.ref sn)) (hj2 : Exa Z h0 sn "java/lang/String") (hj3 : Fld Z h0 sn "java/lang/String" "coder" "B" (.int 0)) (hj4 : Fld Z h0 sn "java/lang/String" "value" "[B" (.ref bA)) (hj5 : AV Z h0 bA .byte 4 (fun k => .int (fF k))) (hfit : ∀ k, k < 4 → fits .byte (.int (fF k)) = true) (hf0 : fF (0 : Int32).toNatClampNeg = nar .byte ((nar .char x0).toInt8.toInt32)) (hf1 : fF (1 : Int32).toNatClampNeg = nar .byte ((nar .char x1).toInt8.toInt32)) (hf2 : fF (2 : Int32).toNatClampNeg = nar .byte ((nar .char x2).toInt8.toInt32)) (hf3 : fF (3 : Int32).toNatClampNeg = nar .byte ((nar .char x3).toInt8.toInt32)) (hd3 : ¬ x3 = 46) (hd2 : ¬ x2 = 46) (hd1 : ¬ x1 = 46) (hd0 : ¬ x0 = 46) :
    Go p e below (fun o u => ∃ v L, o = .returned v ∧ Q0 n0 v u.heap L ∧ ReturnedEndW s o u L 32 4288) (T0.setTop (mkF m 218 (LQ p0 p1 p2 p3 p4 p5 4 x0 x1 x2 x3 dA sA pk [sR jt, .unset, .unset, .unset, .unset]) [])) := by
  obtain ⟨X0, hx, hby, hml, hlk, hret, hZ, hown, wS, Z0, e0, N0, hST, hkT, hCH, hx0, hx1, hx2, hx3, hcs, hsv, S_CS, S_SV, S_EM, hold, VD⟩ := hC
  refine Vi (T0.setTop (mkF m 220 (LQ p0 p1 p2 p3 p4 p5 4 x0 x1 x2 x3 dA sA pk [sR jt, .unset, .unset, .unset, .unset]) [(.ref jt)])) (fun tZ kZ => ?_) ?_
  · refine XS.aload X0.here hx rfl (hb hby at_218) rfl rfl ?_
    exact kZ
  obtain ⟨cq1, kq1, q1a, q1b, q1c⟩ := isOf hZ e0 hj0
  obtain ⟨_, _, ⟨T1, L1, k1, n1⟩, -, X1, ⟨Lc1, hQ1, l1, y1, z1⟩, st1⟩ := X0.virtualBack hx (y := y9) (z := y9) hown (mvT hZ (wq hw 54 rfl)) (mvT hZ (wq hw 55 rfl)) (notFace_of_selects (args := #[]) (mvT hZ (wq hw 57 rfl))) (mvT hZ (wq hw 57 rfl)) (mvT hZ (wq hw 56 rfl)) (by decide) (backOf (W := 0) (rm9n4A l Z a0 hw [] jt sn bA fF cs sv 0 h0 n0 Z0 hj0 hj1 hj2 hj3 hj4 hj5 (S_CS.ext hold.2) (S_SV.ext hold.2) hcs hsv (by decide) (by decide) (by decide) (by decide) (own_l4_0 _ _ _ _ (by rw [hf3]; exact own_ndot hx3 hd3) (by rw [hf2]; exact own_ndot hx2 hd2) (by rw [hf1]; exact own_ndot hx1 hd1) (by rw [hf0]; exact own_ndot hx0 hd0))) hZ (wq hw 58 rfl) (wq hw 16 rfl) (by decide) (by decide)) q1a q1c (g := (mkF m 220 (LQ p0 p1 p2 p3 p4 p5 4 x0 x1 x2 x3 dA sA pk [sR jt, .unset, .unset, .unset, .unset]) [(.ref jt)])) rfl (by rw [hml]; rfl) (Steps.refl _) (argsL := []) (rest := []) (lenOf pd_7 rfl) rfl (leW rfl) (hb hby at_220) (fun _ _ => ⟨rfl, e0, (by decide : 7 + 0 ≤ _), (by decide : 87 + 0 ≤ _)⟩)
  dsimp only [Pt.U, Pt.locs, Pt.cells, Pt.slots] at X1 l1 y1 z1 st1 hQ1
  subst l1 y1 z1
  obtain ⟨rfl, N1q, e1⟩ := hQ1
  have N1 := Fr.app N0 N1q
  refine Go.via (fun t k => st1.trans k) ?_
  refine Vi (T1.setTop (mkF m 307 (LQ p0 p1 p2 p3 p4 p5 4 x0 x1 x2 x3 dA sA pk [sR jt, sR sn, sI (-1), sI 4, .unset]) [(.ref sn)])) (fun tZ kZ => ?_) ?_
  · refine XS.astore X1.here hx rfl (hb hby at_223) rfl rfl (l' := (LQ p0 p1 p2 p3 p4 p5 4 x0 x1 x2 x3 dA sA pk [sR jt, sR sn, .unset, .unset, .unset])) rfl ?_
    refine XS.iconst X1.here hx rfl (hb hby at_225) ?_
    refine XS.istore X1.here hx rfl (hb hby at_226) rfl (l' := (LQ p0 p1 p2 p3 p4 p5 4 x0 x1 x2 x3 dA sA pk [sR jt, sR sn, sI (-1), .unset, .unset])) rfl ?_
    refine XS.iload X1.here hx rfl (hb hby at_228) rfl ?_
    refine XS.ifNo X1.here hx rfl (hb hby at_230) rfl ((if0 _ _).trans (tlt (by decide)).2.2.2) ?_
    refine XS.iload X1.here hx rfl (hb hby at_233) rfl ?_
    refine XS.bipush X1.here hx rfl (hb hby at_235) ?_
    refine XS.icmpYes X1.here hx rfl (pc0 := 237) (pc' := 243) rfl (hb hby at_237) rfl (feq hd0).2 (by decide) (by decide) ?_
    refine XS.iload X1.here hx rfl (hb hby at_243) rfl ?_
    refine XS.iconst X1.here hx rfl (hb hby at_245) ?_
    refine XS.icmpNo X1.here hx rfl (hb hby at_246) rfl (tlt (by decide)).2.2.2 ?_
    refine XS.iload X1.here hx rfl (hb hby at_249) rfl ?_
    refine XS.bipush X1.here hx rfl (hb hby at_251) ?_
    refine XS.icmpYes X1.here hx rfl (pc0 := 253) (pc' := 259) rfl (hb hby at_253) rfl (feq hd1).2 (by decide) (by decide) ?_
    refine XS.iload X1.here hx rfl (hb hby at_259) rfl ?_
    refine XS.iconst X1.here hx rfl (hb hby at_261) ?_
    refine XS.icmpNo X1.here hx rfl (hb hby at_262) rfl (tlt (by decide)).2.2.2 ?_
    refine XS.iload X1.here hx rfl (hb hby at_265) rfl ?_
    refine XS.bipush X1.here hx rfl (hb hby at_267) ?_
    refine XS.icmpYes X1.here hx rfl (pc0 := 269) (pc' := 275) rfl (hb hby at_269) rfl (feq hd2).2 (by decide) (by decide) ?_
    refine XS.iload X1.here hx rfl (hb hby at_275) rfl ?_
    refine XS.iconst X1.here hx rfl (hb hby at_277) ?_
    refine XS.icmpNo X1.here hx rfl (hb hby at_278) rfl (tlt (by decide)).2.2.2 ?_
    refine XS.iload X1.here hx rfl (hb hby at_281) rfl ?_
    refine XS.bipush X1.here hx rfl (hb hby at_283) ?_
    refine XS.icmpYes X1.here hx rfl (pc0 := 285) (pc' := 291) rfl (hb hby at_285) rfl (feq hd3).2 (by decide) (by decide) ?_
    refine XS.iload X1.here hx rfl (hb hby at_291) rfl ?_
    refine XS.iload X1.here hx rfl (hb hby at_293) rfl ?_
    refine XS.isub X1.here hx rfl (hb hby at_295) rfl ?_
    refine XS.iconst X1.here hx rfl (hb hby at_296) ?_
    refine XS.isub X1.here hx rfl (hb hby at_297) rfl ?_
    refine XS.istore X1.here hx rfl (hb hby at_298) rfl (l' := (LQ p0 p1 p2 p3 p4 p5 4 x0 x1 x2 x3 dA sA pk [sR jt, sR sn, sI (-1), sI 4, .unset])) rfl ?_
    refine XS.aload X1.here hx rfl (hb hby at_300) rfl rfl ?_
    refine XS.ifnullNo X1.here hx rfl (hb hby at_302) rfl ?_
    refine XS.aload X1.here hx rfl (hb hby at_305) rfl rfl ?_
    exact kZ
  obtain ⟨cq2, kq2, q2a, q2b, q2c⟩ := isOf hZ e1 hj2
  obtain ⟨_, _, ⟨T2, L2, k2, n2⟩, -, X2, ⟨Lc2, hQ2, l2, y2, z2⟩, st2⟩ := X1.virtualBack hx (y := y11) (z := y11) hown (mvT hZ (wq hw 114 rfl)) (mvT hZ (wq hw 65 rfl)) (notFace_of_selects (args := #[]) (mvT hZ (wq hw 67 rfl))) (mvT hZ (wq hw 67 rfl)) (mvT hZ (wq hw 66 rfl)) (by decide) (backOf (W := 0) (rm11 l Z a0 hw [] sn bA 4 fF cs h0 n0 Z0 hj2 hj3 hj4 hj5 (S_CS.ext hold.2) hcs) hZ (wq hw 68 rfl) (wq hw 7 rfl) (by decide) (by decide)) q2a q2c (g := (mkF m 307 (LQ p0 p1 p2 p3 p4 p5 4 x0 x1 x2 x3 dA sA pk [sR jt, sR sn, sI (-1), sI 4, .unset]) [(.ref sn)])) rfl (by rw [hml]; rfl) (Steps.refl _) (argsL := []) (rest := []) (lenOf pd_9 rfl) rfl (leW rfl) (hb hby at_307) (fun _ _ => ⟨rfl, e1, (by decide : 7 + 0 + 0 ≤ _), (by decide : 87 + 0 + 0 ≤ _)⟩)
  dsimp only [Pt.U, Pt.locs, Pt.cells, Pt.slots] at X2 l2 y2 z2 st2 hQ2
  subst l2 y2 z2
  obtain ⟨rfl, N2q, e2⟩ := hQ2
  have hv2 : (f11 sn bA 4 fF cs) = (Int32.ofNat 4) := by unfold f11; exact own_sh0 _
  rw [hv2] at st2
  have N2 := Fr.app N1 N2q
  refine Go.via (fun t k => st2.trans k) ?_
  refine Vi (T2.setTop (mkF m 333 (LQ p0 p1 p2 p3 p4 p5 4 x0 x1 x2 x3 dA sA pk [sR jt, sR sn, sI (-1), sI 4, sI 1]) [(.int 0), (.ref sn)])) (fun tZ kZ => ?_) ?_
  · refine XS.iload X2.here hx rfl (hb hby at_310) rfl ?_
    refine XS.icmpYes X2.here hx rfl (pc0 := 312) (pc' := 317) rfl (hb hby at_312) rfl (teq (by decide)).1 (by decide) (by decide) ?_
    refine XS.iconst X2.here hx rfl (hb hby at_317) ?_
    refine XS.istore X2.here hx rfl (hb hby at_318) rfl (l' := (LQ p0 p1 p2 p3 p4 p5 4 x0 x1 x2 x3 dA sA pk [sR jt, sR sn, sI (-1), sI 4, sI 1])) rfl ?_
    refine XS.iload X2.here hx rfl (hb hby at_320) rfl ?_
    refine XS.ifNo X2.here hx rfl (hb hby at_322) rfl ((if0 _ _).trans (tlt (by decide)).2.2.2) ?_
    refine XS.iload X2.here hx rfl (hb hby at_325) rfl ?_
    refine XS.ifNo X2.here hx rfl (hb hby at_327) rfl ((if0 _ _).trans (feq (by decide)).1) ?_
    refine XS.aload X2.here hx rfl (hb hby at_330) rfl rfl ?_
    refine XS.iconst X2.here hx rfl (hb hby at_332) ?_
    exact kZ
  obtain ⟨cq3, kq3, q3a, q3b, q3c⟩ := isOf hZ e2 hj2
  obtain ⟨_, _, ⟨T3, L3, k3, n3⟩, -, X3, ⟨Lc3, hQ3, l3, y3, z3⟩, st3⟩ := X2.virtualBack hx (y := y30) (z := y30) hown (mvT hZ (wq hw 147 rfl)) (mvT hZ (wq hw 148 rfl)) (notFace_of_selects (args := #[]) (mvT hZ (wq hw 150 rfl))) (mvT hZ (wq hw 150 rfl)) (mvT hZ (wq hw 149 rfl)) (by decide) (backOf (W := 0) (rm30 l Z a0 hw [] sn (0 : Int32) bA 4 fF cs sv h0 n0 Z0 hj2 hj3 hj4 hj5 (S_CS.ext hold.2) (S_SV.ext hold.2) hcs (by decide) (by decide) (by decide) hsv) hZ (wq hw 151 rfl) (wq hw 7 rfl) (by decide) (by decide)) q3a q3c (g := (mkF m 333 (LQ p0 p1 p2 p3 p4 p5 4 x0 x1 x2 x3 dA sA pk [sR jt, sR sn, sI (-1), sI 4, sI 1]) [(.int 0), (.ref sn)])) rfl (by rw [hml]; rfl) (Steps.refl _) (argsL := [(.int 0)]) (rest := []) (lenOf pd_27 rfl) rfl (leW rfl) (hb hby at_333) (fun _ _ => ⟨rfl, e2, (by decide : 7 + 0 + 0 + 0 ≤ _), (by decide : 87 + 0 + 0 + 0 ≤ _)⟩)
  dsimp only [Pt.U, Pt.locs, Pt.cells, Pt.slots] at X3 l3 y3 z3 st3 hQ3
  subst l3 y3 z3
  obtain ⟨rfl, N3q, e3⟩ := hQ3
  have N3 := Fr.app N2 N3q
  refine Go.via (fun t k => st3.trans k) ?_
  refine Vi (T3.setTop (mkF m 367 (LQ p0 p1 p2 p3 p4 p5 4 x0 x1 x2 x3 dA sA pk [sR jt, sR sn, sI (-1), sI 4, sI 1]) [(.int 1), (.ref sn)])) (fun tZ kZ => ?_) ?_
  · refine XS.aload X3.here hx rfl (hb hby at_336) rfl rfl ?_
    refine XS.iload X3.here hx rfl (hb hby at_338) rfl ?_
    refine XS.iconst X3.here hx rfl (hb hby at_340) ?_
    refine XS.iadd X3.here hx rfl (hb hby at_341) rfl ?_
    refine AV.caload VD X3 hx hZ e3 (j := (0 : Int32)) (by decide) (hb hby at_342) ?_
    refine XS.icmpNo X3.here hx rfl (hb hby at_343) rfl (teq (own_rt3 hx0 hf0)).2 ?_
    refine XS.iconst X3.here hx rfl (hb hby at_346) ?_
    refine XS.goto X3.here hx rfl (pc0 := 347) (pc' := 351) rfl (hb hby at_347) (by decide) (by decide) ?_
    refine XS.istore X3.here hx rfl (hb hby at_351) rfl (l' := (LQ p0 p1 p2 p3 p4 p5 4 x0 x1 x2 x3 dA sA pk [sR jt, sR sn, sI (-1), sI 4, sI 1])) rfl ?_
    refine XS.iload X3.here hx rfl (hb hby at_353) rfl ?_
    refine XS.iconst X3.here hx rfl (hb hby at_355) ?_
    refine XS.icmpNo X3.here hx rfl (hb hby at_356) rfl (tlt (by decide)).2.2.2 ?_
    refine XS.iload X3.here hx rfl (hb hby at_359) rfl ?_
    refine XS.ifNo X3.here hx rfl (hb hby at_361) rfl ((if0 _ _).trans (feq (by decide)).1) ?_
    refine XS.aload X3.here hx rfl (hb hby at_364) rfl rfl ?_
    refine XS.iconst X3.here hx rfl (hb hby at_366) ?_
    exact kZ
  obtain ⟨cq4, kq4, q4a, q4b, q4c⟩ := isOf hZ e3 hj2
  obtain ⟨_, _, ⟨T4, L4, k4, n4⟩, -, X4, ⟨Lc4, hQ4, l4, y4, z4⟩, st4⟩ := X3.virtualBack hx (y := y30) (z := y30) hown (mvT hZ (wq hw 147 rfl)) (mvT hZ (wq hw 148 rfl)) (notFace_of_selects (args := #[]) (mvT hZ (wq hw 150 rfl))) (mvT hZ (wq hw 150 rfl)) (mvT hZ (wq hw 149 rfl)) (by decide) (backOf (W := 0) (rm30 l Z a0 hw [] sn (1 : Int32) bA 4 fF cs sv h0 n0 Z0 hj2 hj3 hj4 hj5 (S_CS.ext hold.2) (S_SV.ext hold.2) hcs (by decide) (by decide) (by decide) hsv) hZ (wq hw 151 rfl) (wq hw 7 rfl) (by decide) (by decide)) q4a q4c (g := (mkF m 367 (LQ p0 p1 p2 p3 p4 p5 4 x0 x1 x2 x3 dA sA pk [sR jt, sR sn, sI (-1), sI 4, sI 1]) [(.int 1), (.ref sn)])) rfl (by rw [hml]; rfl) (Steps.refl _) (argsL := [(.int 1)]) (rest := []) (lenOf pd_27 rfl) rfl (leW rfl) (hb hby at_367) (fun _ _ => ⟨rfl, e3, (by decide : 7 + 0 + 0 + 0 + 0 ≤ _), (by decide : 87 + 0 + 0 + 0 + 0 ≤ _)⟩)
  dsimp only [Pt.U, Pt.locs, Pt.cells, Pt.slots] at X4 l4 y4 z4 st4 hQ4
  subst l4 y4 z4
  obtain ⟨rfl, N4q, e4⟩ := hQ4
  have N4 := Fr.app N3 N4q
  refine Go.via (fun t k => st4.trans k) ?_
  refine Vi (T4.setTop (mkF m 401 (LQ p0 p1 p2 p3 p4 p5 4 x0 x1 x2 x3 dA sA pk [sR jt, sR sn, sI (-1), sI 4, sI 1]) [(.int 2), (.ref sn)])) (fun tZ kZ => ?_) ?_
  · refine XS.aload X4.here hx rfl (hb hby at_370) rfl rfl ?_
    refine XS.iload X4.here hx rfl (hb hby at_372) rfl ?_
    refine XS.iconst X4.here hx rfl (hb hby at_374) ?_
    refine XS.iadd X4.here hx rfl (hb hby at_375) rfl ?_
    refine AV.caload VD X4 hx hZ e4 (j := (1 : Int32)) (by decide) (hb hby at_376) ?_
    refine XS.icmpNo X4.here hx rfl (hb hby at_377) rfl (teq (own_rt3 hx1 hf1)).2 ?_
    refine XS.iconst X4.here hx rfl (hb hby at_380) ?_
    refine XS.goto X4.here hx rfl (pc0 := 381) (pc' := 385) rfl (hb hby at_381) (by decide) (by decide) ?_
    refine XS.istore X4.here hx rfl (hb hby at_385) rfl (l' := (LQ p0 p1 p2 p3 p4 p5 4 x0 x1 x2 x3 dA sA pk [sR jt, sR sn, sI (-1), sI 4, sI 1])) rfl ?_
    refine XS.iload X4.here hx rfl (hb hby at_387) rfl ?_
    refine XS.iconst X4.here hx rfl (hb hby at_389) ?_
    refine XS.icmpNo X4.here hx rfl (hb hby at_390) rfl (tlt (by decide)).2.2.2 ?_
    refine XS.iload X4.here hx rfl (hb hby at_393) rfl ?_
    refine XS.ifNo X4.here hx rfl (hb hby at_395) rfl ((if0 _ _).trans (feq (by decide)).1) ?_
    refine XS.aload X4.here hx rfl (hb hby at_398) rfl rfl ?_
    refine XS.iconst X4.here hx rfl (hb hby at_400) ?_
    exact kZ
  obtain ⟨cq5, kq5, q5a, q5b, q5c⟩ := isOf hZ e4 hj2
  obtain ⟨_, _, ⟨T5, L5, k5, n5⟩, -, X5, ⟨Lc5, hQ5, l5, y5, z5⟩, st5⟩ := X4.virtualBack hx (y := y30) (z := y30) hown (mvT hZ (wq hw 147 rfl)) (mvT hZ (wq hw 148 rfl)) (notFace_of_selects (args := #[]) (mvT hZ (wq hw 150 rfl))) (mvT hZ (wq hw 150 rfl)) (mvT hZ (wq hw 149 rfl)) (by decide) (backOf (W := 0) (rm30 l Z a0 hw [] sn (2 : Int32) bA 4 fF cs sv h0 n0 Z0 hj2 hj3 hj4 hj5 (S_CS.ext hold.2) (S_SV.ext hold.2) hcs (by decide) (by decide) (by decide) hsv) hZ (wq hw 151 rfl) (wq hw 7 rfl) (by decide) (by decide)) q5a q5c (g := (mkF m 401 (LQ p0 p1 p2 p3 p4 p5 4 x0 x1 x2 x3 dA sA pk [sR jt, sR sn, sI (-1), sI 4, sI 1]) [(.int 2), (.ref sn)])) rfl (by rw [hml]; rfl) (Steps.refl _) (argsL := [(.int 2)]) (rest := []) (lenOf pd_27 rfl) rfl (leW rfl) (hb hby at_401) (fun _ _ => ⟨rfl, e4, (by decide : 7 + 0 + 0 + 0 + 0 + 0 ≤ _), (by decide : 87 + 0 + 0 + 0 + 0 + 0 ≤ _)⟩)
  dsimp only [Pt.U, Pt.locs, Pt.cells, Pt.slots] at X5 l5 y5 z5 st5 hQ5
  subst l5 y5 z5
  obtain ⟨rfl, N5q, e5⟩ := hQ5
  have N5 := Fr.app N4 N5q
  refine Go.via (fun t k => st5.trans k) ?_
  refine Vi (T5.setTop (mkF m 435 (LQ p0 p1 p2 p3 p4 p5 4 x0 x1 x2 x3 dA sA pk [sR jt, sR sn, sI (-1), sI 4, sI 1]) [(.int 3), (.ref sn)])) (fun tZ kZ => ?_) ?_
  · refine XS.aload X5.here hx rfl (hb hby at_404) rfl rfl ?_
    refine XS.iload X5.here hx rfl (hb hby at_406) rfl ?_
    refine XS.iconst X5.here hx rfl (hb hby at_408) ?_
    refine XS.iadd X5.here hx rfl (hb hby at_409) rfl ?_
    refine AV.caload VD X5 hx hZ e5 (j := (2 : Int32)) (by decide) (hb hby at_410) ?_
    refine XS.icmpNo X5.here hx rfl (hb hby at_411) rfl (teq (own_rt3 hx2 hf2)).2 ?_
    refine XS.iconst X5.here hx rfl (hb hby at_414) ?_
    refine XS.goto X5.here hx rfl (pc0 := 415) (pc' := 419) rfl (hb hby at_415) (by decide) (by decide) ?_
    refine XS.istore X5.here hx rfl (hb hby at_419) rfl (l' := (LQ p0 p1 p2 p3 p4 p5 4 x0 x1 x2 x3 dA sA pk [sR jt, sR sn, sI (-1), sI 4, sI 1])) rfl ?_
    refine XS.iload X5.here hx rfl (hb hby at_421) rfl ?_
    refine XS.iconst X5.here hx rfl (hb hby at_423) ?_
    refine XS.icmpNo X5.here hx rfl (hb hby at_424) rfl (tlt (by decide)).2.2.2 ?_
    refine XS.iload X5.here hx rfl (hb hby at_427) rfl ?_
    refine XS.ifNo X5.here hx rfl (hb hby at_429) rfl ((if0 _ _).trans (feq (by decide)).1) ?_
    refine XS.aload X5.here hx rfl (hb hby at_432) rfl rfl ?_
    refine XS.iconst X5.here hx rfl (hb hby at_434) ?_
    exact kZ
  obtain ⟨cq6, kq6, q6a, q6b, q6c⟩ := isOf hZ e5 hj2
  obtain ⟨_, _, ⟨T6, L6, k6, n6⟩, -, X6, ⟨Lc6, hQ6, l6, y6, z6⟩, st6⟩ := X5.virtualBack hx (y := y30) (z := y30) hown (mvT hZ (wq hw 147 rfl)) (mvT hZ (wq hw 148 rfl)) (notFace_of_selects (args := #[]) (mvT hZ (wq hw 150 rfl))) (mvT hZ (wq hw 150 rfl)) (mvT hZ (wq hw 149 rfl)) (by decide) (backOf (W := 0) (rm30 l Z a0 hw [] sn (3 : Int32) bA 4 fF cs sv h0 n0 Z0 hj2 hj3 hj4 hj5 (S_CS.ext hold.2) (S_SV.ext hold.2) hcs (by decide) (by decide) (by decide) hsv) hZ (wq hw 151 rfl) (wq hw 7 rfl) (by decide) (by decide)) q6a q6c (g := (mkF m 435 (LQ p0 p1 p2 p3 p4 p5 4 x0 x1 x2 x3 dA sA pk [sR jt, sR sn, sI (-1), sI 4, sI 1]) [(.int 3), (.ref sn)])) rfl (by rw [hml]; rfl) (Steps.refl _) (argsL := [(.int 3)]) (rest := []) (lenOf pd_27 rfl) rfl (leW rfl) (hb hby at_435) (fun _ _ => ⟨rfl, e5, (by decide : 7 + 0 + 0 + 0 + 0 + 0 + 0 ≤ _), (by decide : 87 + 0 + 0 + 0 + 0 + 0 + 0 ≤ _)⟩)
  dsimp only [Pt.U, Pt.locs, Pt.cells, Pt.slots] at X6 l6 y6 z6 st6 hQ6
  subst l6 y6 z6
  obtain ⟨rfl, N6q, e6⟩ := hQ6
  have N6 := Fr.app N5 N6q
  refine Go.via (fun t k => st6.trans k) ?_
  refine Vi (T6.setTop (mkF m 457 (LQ p0 p1 p2 p3 p4 p5 4 x0 x1 x2 x3 dA sA pk [sR jt, sR sn, sI (-1), sI 4, sI 1]) [(.int 1)])) (fun tZ kZ => ?_) ?_
  · refine XS.aload X6.here hx rfl (hb hby at_438) rfl rfl ?_
    refine XS.iload X6.here hx rfl (hb hby at_440) rfl ?_
    refine XS.iconst X6.here hx rfl (hb hby at_442) ?_
    refine XS.iadd X6.here hx rfl (hb hby at_443) rfl ?_
    refine AV.caload VD X6 hx hZ e6 (j := (3 : Int32)) (by decide) (hb hby at_444) ?_
    refine XS.icmpNo X6.here hx rfl (hb hby at_445) rfl (teq (own_rt3 hx3 hf3)).2 ?_
    refine XS.iconst X6.here hx rfl (hb hby at_448) ?_
    refine XS.goto X6.here hx rfl (pc0 := 449) (pc' := 453) rfl (hb hby at_449) (by decide) (by decide) ?_
    refine XS.istore X6.here hx rfl (hb hby at_453) rfl (l' := (LQ p0 p1 p2 p3 p4 p5 4 x0 x1 x2 x3 dA sA pk [sR jt, sR sn, sI (-1), sI 4, sI 1])) rfl ?_
    refine XS.iload X6.here hx rfl (hb hby at_455) rfl ?_
    exact kZ
  refine Go.retNW (s := s) (vm₁ := vmT) X6 hx hST (by rw [e6]; exact hkT) hlk (t := .boolean) hret (by simp) (hb hby at_457) (by decide) (by decide) ?_
  exact ⟨rfl, N6⟩
theorem tb_4_1 (l : Launch) (Z : State) (a0 : Array Value) (hw : ∀ d ∈ tables_1, d.before a0 Z = true) {p : Program} {e : Env} {s : State} {m : MethodId} {args : Array Value} {below : List Frame} {meth : Method} {c : Code} {T0 : State} {locs0 : List Loc} {vmT : Vm} {h0 : Heap} {n0 kT : Nat} {x0 x1 x2 x3 cs : Int32} {sv : Value} {em dA : Addr} (hC : Com l Z a0 p e s m args below meth c T0 locs0 vmT 7 87 h0 n0 kT x0 x1 x2 x3 cs sv em dA) (p0 p1 p2 p3 p4 p5 : Int32) (sA pk jt sn bA : Addr) (fF : Nat → Int32) (hj0 : Exa Z h0 jt "com/example/bindery/bindery/compiler/JavaType") (hj1 : Fld Z h0 jt "com/example/bindery/bindery/compiler/JavaType" "name" "Ljava/lang/String;" (.ref sn)) (hj2 : Exa Z h0 sn "java/lang/String") (hj3 : Fld Z h0 sn "java/lang/String" "coder" "B" (.int 0)) (hj4 : Fld Z h0 sn "java/lang/String" "value" "[B" (.ref bA)) (hj5 : AV Z h0 bA .byte 4 (fun k => .int (fF k))) (hfit : ∀ k, k < 4 → fits .byte (.int (fF k)) = true) (hf0 : fF (0 : Int32).toNatClampNeg = nar .byte ((nar .char x0).toInt8.toInt32)) (hf1 : fF (1 : Int32).toNatClampNeg = nar .byte ((nar .char x1).toInt8.toInt32)) (hf2 : fF (2 : Int32).toNatClampNeg = nar .byte ((nar .char x2).toInt8.toInt32)) (hf3 : fF (3 : Int32).toNatClampNeg = nar .byte ((nar .char x3).toInt8.toInt32)) (hd3 : ¬ x3 = 46) (hd2 : ¬ x2 = 46) (hd1 : ¬ x1 = 46) (hd0 : x0 = 46) :
    Go p e below (fun o u => ∃ v L, o = .returned v ∧ Q0 n0 v u.heap L ∧ ReturnedEndW s o u L 32 4288) (T0.setTop (mkF m 218 (LQ p0 p1 p2 p3 p4 p5 4 x0 x1 x2 x3 dA sA pk [sR jt, .unset, .unset, .unset, .unset]) [])) := by
  obtain ⟨X0, hx, hby, hml, hlk, hret, hZ, hown, wS, Z0, e0, N0, hST, hkT, hCH, hx0, hx1, hx2, hx3, hcs, hsv, S_CS, S_SV, S_EM, hold, VD⟩ := hC
  refine Vi (T0.setTop (mkF m 220 (LQ p0 p1 p2 p3 p4 p5 4 x0 x1 x2 x3 dA sA pk [sR jt, .unset, .unset, .unset, .unset]) [(.ref jt)])) (fun tZ kZ => ?_) ?_
  · refine XS.aload X0.here hx rfl (hb hby at_218) rfl rfl ?_
    exact kZ
  obtain ⟨cq1, kq1, q1a, q1b, q1c⟩ := isOf hZ e0 hj0
  obtain ⟨_, _, ⟨T1, L1, k1, n1⟩, -, X1, ⟨Lc1, hQ1, l1, y1, z1⟩, st1⟩ := X0.virtualBack hx (y := y9) (z := y9) hown (mvT hZ (wq hw 54 rfl)) (mvT hZ (wq hw 55 rfl)) (notFace_of_selects (args := #[]) (mvT hZ (wq hw 57 rfl))) (mvT hZ (wq hw 57 rfl)) (mvT hZ (wq hw 56 rfl)) (by decide) (backOf (W := 0) (rm9n4C l Z a0 hw [] jt sn bA fF cs sv 1 h0 n0 Z0 hj0 hj1 hj2 hj3 hj4 hj5 (S_CS.ext hold.2) (S_SV.ext hold.2) hcs hsv (by decide) (by decide) (by decide) (by decide) (by decide) (by decide) (by decide) (by decide) (by decide) (by decide) (by decide) hfit (own_l4_1 _ _ _ _ (by rw [hf3]; exact own_ndot hx3 hd3) (by rw [hf2]; exact own_ndot hx2 hd2) (by rw [hf1]; exact own_ndot hx1 hd1) (by rw [hf0]; exact own_dot hd0))) hZ (wq hw 58 rfl) (wq hw 16 rfl) (by decide) (by decide)) q1a q1c (g := (mkF m 220 (LQ p0 p1 p2 p3 p4 p5 4 x0 x1 x2 x3 dA sA pk [sR jt, .unset, .unset, .unset, .unset]) [(.ref jt)])) rfl (by rw [hml]; rfl) (Steps.refl _) (argsL := []) (rest := []) (lenOf pd_7 rfl) rfl (leW rfl) (hb hby at_220) (fun _ _ => ⟨rfl, e0, (by decide : 7 + 2 ≤ _), (by decide : 87 + 8 ≤ _)⟩)
  dsimp only [Pt.U, Pt.locs, Pt.cells, Pt.slots] at X1 l1 y1 z1 st1 hQ1
  subst l1 y1 z1
  obtain ⟨b1_0, b1_1, rfl, N1q, Kq1, hz_b1_0, hz_b1_1, f1_0, f1_1, f1_2, f1_3, f1_4, f1_5, f1_6, f1_7, f1_8, f1_9, f1_10, f1_11⟩ := hQ1
  have Ac2 := CHr.keep Kq1 all0 hCH
  have CR2c := CHr.trans (CHr.refl hCH) Ac2
  have c3_0 := hold.keep Kq1 all0
  have c3_3 := S_EM.ext c3_0.2
  have c3_4 := VD.keep Kq1 nin0
  have K1 : Keep h0 T1.heap [] := (Keep.refl h0 []).trans Kq1 all0
  have Z1 : n0 ≤ T1.heap.size := Nat.le_trans Z0 Kq1.1
  have hk1 := Nat.le_trans hkT Kq1.1
  have N1 := Fr.app N0 N1q
  refine Go.via (fun t k => st1.trans k) ?_
  refine Vi (T1.setTop (mkF m 307 (LQ p0 p1 p2 p3 p4 p5 4 x0 x1 x2 x3 dA sA pk [sR jt, sR b1_0, sI 0, sI 3, .unset]) [(.ref b1_0)])) (fun tZ kZ => ?_) ?_
  · refine XS.astore X1.here hx rfl (hb hby at_223) rfl rfl (l' := (LQ p0 p1 p2 p3 p4 p5 4 x0 x1 x2 x3 dA sA pk [sR jt, sR b1_0, .unset, .unset, .unset])) rfl ?_
    refine XS.iconst X1.here hx rfl (hb hby at_225) ?_
    refine XS.istore X1.here hx rfl (hb hby at_226) rfl (l' := (LQ p0 p1 p2 p3 p4 p5 4 x0 x1 x2 x3 dA sA pk [sR jt, sR b1_0, sI (-1), .unset, .unset])) rfl ?_
    refine XS.iload X1.here hx rfl (hb hby at_228) rfl ?_
    refine XS.ifNo X1.here hx rfl (hb hby at_230) rfl ((if0 _ _).trans (tlt (by decide)).2.2.2) ?_
    refine XS.iload X1.here hx rfl (hb hby at_233) rfl ?_
    refine XS.bipush X1.here hx rfl (hb hby at_235) ?_
    refine XS.icmpNo X1.here hx rfl (hb hby at_237) rfl (teq hd0).2 ?_
    refine XS.iconst X1.here hx rfl (hb hby at_240) ?_
    refine XS.istore X1.here hx rfl (hb hby at_241) rfl (l' := (LQ p0 p1 p2 p3 p4 p5 4 x0 x1 x2 x3 dA sA pk [sR jt, sR b1_0, sI 0, .unset, .unset])) rfl ?_
    refine XS.iload X1.here hx rfl (hb hby at_243) rfl ?_
    refine XS.iconst X1.here hx rfl (hb hby at_245) ?_
    refine XS.icmpNo X1.here hx rfl (hb hby at_246) rfl (tlt (by decide)).2.2.2 ?_
    refine XS.iload X1.here hx rfl (hb hby at_249) rfl ?_
    refine XS.bipush X1.here hx rfl (hb hby at_251) ?_
    refine XS.icmpYes X1.here hx rfl (pc0 := 253) (pc' := 259) rfl (hb hby at_253) rfl (feq hd1).2 (by decide) (by decide) ?_
    refine XS.iload X1.here hx rfl (hb hby at_259) rfl ?_
    refine XS.iconst X1.here hx rfl (hb hby at_261) ?_
    refine XS.icmpNo X1.here hx rfl (hb hby at_262) rfl (tlt (by decide)).2.2.2 ?_
    refine XS.iload X1.here hx rfl (hb hby at_265) rfl ?_
    refine XS.bipush X1.here hx rfl (hb hby at_267) ?_
    refine XS.icmpYes X1.here hx rfl (pc0 := 269) (pc' := 275) rfl (hb hby at_269) rfl (feq hd2).2 (by decide) (by decide) ?_
    refine XS.iload X1.here hx rfl (hb hby at_275) rfl ?_
    refine XS.iconst X1.here hx rfl (hb hby at_277) ?_
    refine XS.icmpNo X1.here hx rfl (hb hby at_278) rfl (tlt (by decide)).2.2.2 ?_
    refine XS.iload X1.here hx rfl (hb hby at_281) rfl ?_
    refine XS.bipush X1.here hx rfl (hb hby at_283) ?_
    refine XS.icmpYes X1.here hx rfl (pc0 := 285) (pc' := 291) rfl (hb hby at_285) rfl (feq hd3).2 (by decide) (by decide) ?_
    refine XS.iload X1.here hx rfl (hb hby at_291) rfl ?_
    refine XS.iload X1.here hx rfl (hb hby at_293) rfl ?_
    refine XS.isub X1.here hx rfl (hb hby at_295) rfl ?_
    refine XS.iconst X1.here hx rfl (hb hby at_296) ?_
    refine XS.isub X1.here hx rfl (hb hby at_297) rfl ?_
    refine XS.istore X1.here hx rfl (hb hby at_298) rfl (l' := (LQ p0 p1 p2 p3 p4 p5 4 x0 x1 x2 x3 dA sA pk [sR jt, sR b1_0, sI 0, sI 3, .unset])) rfl ?_
    refine XS.aload X1.here hx rfl (hb hby at_300) rfl rfl ?_
    refine XS.ifnullNo X1.here hx rfl (hb hby at_302) rfl ?_
    refine XS.aload X1.here hx rfl (hb hby at_305) rfl rfl ?_
    exact kZ
  obtain ⟨cq4, kq4, q4a, q4b, q4c⟩ := isOf hZ rfl f1_8
  obtain ⟨_, _, ⟨T4, L4, k4, n4⟩, -, X4, ⟨Lc4, hQ4, l4, y4, z4⟩, st4⟩ := X1.virtualBack hx (y := y11) (z := y11) hown (mvT hZ (wq hw 114 rfl)) (mvT hZ (wq hw 65 rfl)) (notFace_of_selects (args := #[]) (mvT hZ (wq hw 67 rfl))) (mvT hZ (wq hw 67 rfl)) (mvT hZ (wq hw 66 rfl)) (by decide) (backOf (W := 0) (rm11 l Z a0 hw [] b1_0 b1_1 3 (own_sh fF 1) cs T1.heap n0 Z1 f1_8 f1_10 f1_9 f1_11 f1_6 hcs) hZ (wq hw 68 rfl) (wq hw 7 rfl) (by decide) (by decide)) q4a q4c (g := (mkF m 307 (LQ p0 p1 p2 p3 p4 p5 4 x0 x1 x2 x3 dA sA pk [sR jt, sR b1_0, sI 0, sI 3, .unset]) [(.ref b1_0)])) rfl (by rw [hml]; rfl) (Steps.refl _) (argsL := []) (rest := []) (lenOf pd_9 rfl) rfl (leW rfl) (hb hby at_307) (fun _ _ => ⟨rfl, rfl, (by decide : 7 + 2 + 0 ≤ _), (by decide : 87 + 8 + 0 ≤ _)⟩)
  dsimp only [Pt.U, Pt.locs, Pt.cells, Pt.slots] at X4 l4 y4 z4 st4 hQ4
  subst l4 y4 z4
  obtain ⟨rfl, N4q, e4⟩ := hQ4
  have hv4 : (f11 b1_0 b1_1 3 (own_sh fF 1) cs) = (Int32.ofNat 3) := by unfold f11; exact own_sh0 _
  rw [hv4] at st4
  have N4 := Fr.app N1 N4q
  refine Go.via (fun t k => st4.trans k) ?_
  refine Vi (T4.setTop (mkF m 333 (LQ p0 p1 p2 p3 p4 p5 4 x0 x1 x2 x3 dA sA pk [sR jt, sR b1_0, sI 0, sI 3, sI 1]) [(.int 0), (.ref b1_0)])) (fun tZ kZ => ?_) ?_
  · refine XS.iload X4.here hx rfl (hb hby at_310) rfl ?_
    refine XS.icmpYes X4.here hx rfl (pc0 := 312) (pc' := 317) rfl (hb hby at_312) rfl (teq (by decide)).1 (by decide) (by decide) ?_
    refine XS.iconst X4.here hx rfl (hb hby at_317) ?_
    refine XS.istore X4.here hx rfl (hb hby at_318) rfl (l' := (LQ p0 p1 p2 p3 p4 p5 4 x0 x1 x2 x3 dA sA pk [sR jt, sR b1_0, sI 0, sI 3, sI 1])) rfl ?_
    refine XS.iload X4.here hx rfl (hb hby at_320) rfl ?_
    refine XS.ifNo X4.here hx rfl (hb hby at_322) rfl ((if0 _ _).trans (tlt (by decide)).2.2.2) ?_
    refine XS.iload X4.here hx rfl (hb hby at_325) rfl ?_
    refine XS.ifNo X4.here hx rfl (hb hby at_327) rfl ((if0 _ _).trans (feq (by decide)).1) ?_
    refine XS.aload X4.here hx rfl (hb hby at_330) rfl rfl ?_
    refine XS.iconst X4.here hx rfl (hb hby at_332) ?_
    exact kZ
  obtain ⟨cq5, kq5, q5a, q5b, q5c⟩ := isOf hZ e4 f1_8
  obtain ⟨_, _, ⟨T5, L5, k5, n5⟩, -, X5, ⟨Lc5, hQ5, l5, y5, z5⟩, st5⟩ := X4.virtualBack hx (y := y30) (z := y30) hown (mvT hZ (wq hw 147 rfl)) (mvT hZ (wq hw 148 rfl)) (notFace_of_selects (args := #[]) (mvT hZ (wq hw 150 rfl))) (mvT hZ (wq hw 150 rfl)) (mvT hZ (wq hw 149 rfl)) (by decide) (backOf (W := 0) (rm30 l Z a0 hw [] b1_0 (0 : Int32) b1_1 3 (own_sh fF 1) cs sv T1.heap n0 Z1 f1_8 f1_10 f1_9 f1_11 f1_6 f1_7 hcs (by decide) (by decide) (by decide) hsv) hZ (wq hw 151 rfl) (wq hw 7 rfl) (by decide) (by decide)) q5a q5c (g := (mkF m 333 (LQ p0 p1 p2 p3 p4 p5 4 x0 x1 x2 x3 dA sA pk [sR jt, sR b1_0, sI 0, sI 3, sI 1]) [(.int 0), (.ref b1_0)])) rfl (by rw [hml]; rfl) (Steps.refl _) (argsL := [(.int 0)]) (rest := []) (lenOf pd_27 rfl) rfl (leW rfl) (hb hby at_333) (fun _ _ => ⟨rfl, e4, (by decide : 7 + 2 + 0 + 0 ≤ _), (by decide : 87 + 8 + 0 + 0 ≤ _)⟩)
  dsimp only [Pt.U, Pt.locs, Pt.cells, Pt.slots] at X5 l5 y5 z5 st5 hQ5
  subst l5 y5 z5
  obtain ⟨rfl, N5q, e5⟩ := hQ5
  have N5 := Fr.app N4 N5q
  refine Go.via (fun t k => st5.trans k) ?_
  refine Vi (T5.setTop (mkF m 367 (LQ p0 p1 p2 p3 p4 p5 4 x0 x1 x2 x3 dA sA pk [sR jt, sR b1_0, sI 0, sI 3, sI 1]) [(.int 1), (.ref b1_0)])) (fun tZ kZ => ?_) ?_
  · refine XS.aload X5.here hx rfl (hb hby at_336) rfl rfl ?_
    refine XS.iload X5.here hx rfl (hb hby at_338) rfl ?_
    refine XS.iconst X5.here hx rfl (hb hby at_340) ?_
    refine XS.iadd X5.here hx rfl (hb hby at_341) rfl ?_
    refine AV.caload c3_4 X5 hx hZ e5 (j := (1 : Int32)) (by decide) (hb hby at_342) ?_
    refine XS.icmpNo X5.here hx rfl (hb hby at_343) rfl (teq (own_rt3 hx1 hf1)).2 ?_
    refine XS.iconst X5.here hx rfl (hb hby at_346) ?_
    refine XS.goto X5.here hx rfl (pc0 := 347) (pc' := 351) rfl (hb hby at_347) (by decide) (by decide) ?_
    refine XS.istore X5.here hx rfl (hb hby at_351) rfl (l' := (LQ p0 p1 p2 p3 p4 p5 4 x0 x1 x2 x3 dA sA pk [sR jt, sR b1_0, sI 0, sI 3, sI 1])) rfl ?_
    refine XS.iload X5.here hx rfl (hb hby at_353) rfl ?_
    refine XS.iconst X5.here hx rfl (hb hby at_355) ?_
    refine XS.icmpNo X5.here hx rfl (hb hby at_356) rfl (tlt (by decide)).2.2.2 ?_
    refine XS.iload X5.here hx rfl (hb hby at_359) rfl ?_
    refine XS.ifNo X5.here hx rfl (hb hby at_361) rfl ((if0 _ _).trans (feq (by decide)).1) ?_
    refine XS.aload X5.here hx rfl (hb hby at_364) rfl rfl ?_
    refine XS.iconst X5.here hx rfl (hb hby at_366) ?_
    exact kZ
  obtain ⟨cq6, kq6, q6a, q6b, q6c⟩ := isOf hZ e5 f1_8
  obtain ⟨_, _, ⟨T6, L6, k6, n6⟩, -, X6, ⟨Lc6, hQ6, l6, y6, z6⟩, st6⟩ := X5.virtualBack hx (y := y30) (z := y30) hown (mvT hZ (wq hw 147 rfl)) (mvT hZ (wq hw 148 rfl)) (notFace_of_selects (args := #[]) (mvT hZ (wq hw 150 rfl))) (mvT hZ (wq hw 150 rfl)) (mvT hZ (wq hw 149 rfl)) (by decide) (backOf (W := 0) (rm30 l Z a0 hw [] b1_0 (1 : Int32) b1_1 3 (own_sh fF 1) cs sv T1.heap n0 Z1 f1_8 f1_10 f1_9 f1_11 f1_6 f1_7 hcs (by decide) (by decide) (by decide) hsv) hZ (wq hw 151 rfl) (wq hw 7 rfl) (by decide) (by decide)) q6a q6c (g := (mkF m 367 (LQ p0 p1 p2 p3 p4 p5 4 x0 x1 x2 x3 dA sA pk [sR jt, sR b1_0, sI 0, sI 3, sI 1]) [(.int 1), (.ref b1_0)])) rfl (by rw [hml]; rfl) (Steps.refl _) (argsL := [(.int 1)]) (rest := []) (lenOf pd_27 rfl) rfl (leW rfl) (hb hby at_367) (fun _ _ => ⟨rfl, e5, (by decide : 7 + 2 + 0 + 0 + 0 ≤ _), (by decide : 87 + 8 + 0 + 0 + 0 ≤ _)⟩)
  dsimp only [Pt.U, Pt.locs, Pt.cells, Pt.slots] at X6 l6 y6 z6 st6 hQ6
  subst l6 y6 z6
  obtain ⟨rfl, N6q, e6⟩ := hQ6
  have N6 := Fr.app N5 N6q
  refine Go.via (fun t k => st6.trans k) ?_
  refine Vi (T6.setTop (mkF m 401 (LQ p0 p1 p2 p3 p4 p5 4 x0 x1 x2 x3 dA sA pk [sR jt, sR b1_0, sI 0, sI 3, sI 1]) [(.int 2), (.ref b1_0)])) (fun tZ kZ => ?_) ?_
  · refine XS.aload X6.here hx rfl (hb hby at_370) rfl rfl ?_
    refine XS.iload X6.here hx rfl (hb hby at_372) rfl ?_
    refine XS.iconst X6.here hx rfl (hb hby at_374) ?_
    refine XS.iadd X6.here hx rfl (hb hby at_375) rfl ?_
    refine AV.caload c3_4 X6 hx hZ e6 (j := (2 : Int32)) (by decide) (hb hby at_376) ?_
    refine XS.icmpNo X6.here hx rfl (hb hby at_377) rfl (teq (own_rt3 hx2 hf2)).2 ?_
    refine XS.iconst X6.here hx rfl (hb hby at_380) ?_
    refine XS.goto X6.here hx rfl (pc0 := 381) (pc' := 385) rfl (hb hby at_381) (by decide) (by decide) ?_
    refine XS.istore X6.here hx rfl (hb hby at_385) rfl (l' := (LQ p0 p1 p2 p3 p4 p5 4 x0 x1 x2 x3 dA sA pk [sR jt, sR b1_0, sI 0, sI 3, sI 1])) rfl ?_
    refine XS.iload X6.here hx rfl (hb hby at_387) rfl ?_
    refine XS.iconst X6.here hx rfl (hb hby at_389) ?_
    refine XS.icmpNo X6.here hx rfl (hb hby at_390) rfl (tlt (by decide)).2.2.2 ?_
    refine XS.iload X6.here hx rfl (hb hby at_393) rfl ?_
    refine XS.ifNo X6.here hx rfl (hb hby at_395) rfl ((if0 _ _).trans (feq (by decide)).1) ?_
    refine XS.aload X6.here hx rfl (hb hby at_398) rfl rfl ?_
    refine XS.iconst X6.here hx rfl (hb hby at_400) ?_
    exact kZ
  obtain ⟨cq7, kq7, q7a, q7b, q7c⟩ := isOf hZ e6 f1_8
  obtain ⟨_, _, ⟨T7, L7, k7, n7⟩, -, X7, ⟨Lc7, hQ7, l7, y7, z7⟩, st7⟩ := X6.virtualBack hx (y := y30) (z := y30) hown (mvT hZ (wq hw 147 rfl)) (mvT hZ (wq hw 148 rfl)) (notFace_of_selects (args := #[]) (mvT hZ (wq hw 150 rfl))) (mvT hZ (wq hw 150 rfl)) (mvT hZ (wq hw 149 rfl)) (by decide) (backOf (W := 0) (rm30 l Z a0 hw [] b1_0 (2 : Int32) b1_1 3 (own_sh fF 1) cs sv T1.heap n0 Z1 f1_8 f1_10 f1_9 f1_11 f1_6 f1_7 hcs (by decide) (by decide) (by decide) hsv) hZ (wq hw 151 rfl) (wq hw 7 rfl) (by decide) (by decide)) q7a q7c (g := (mkF m 401 (LQ p0 p1 p2 p3 p4 p5 4 x0 x1 x2 x3 dA sA pk [sR jt, sR b1_0, sI 0, sI 3, sI 1]) [(.int 2), (.ref b1_0)])) rfl (by rw [hml]; rfl) (Steps.refl _) (argsL := [(.int 2)]) (rest := []) (lenOf pd_27 rfl) rfl (leW rfl) (hb hby at_401) (fun _ _ => ⟨rfl, e6, (by decide : 7 + 2 + 0 + 0 + 0 + 0 ≤ _), (by decide : 87 + 8 + 0 + 0 + 0 + 0 ≤ _)⟩)
  dsimp only [Pt.U, Pt.locs, Pt.cells, Pt.slots] at X7 l7 y7 z7 st7 hQ7
  subst l7 y7 z7
  obtain ⟨rfl, N7q, e7⟩ := hQ7
  have N7 := Fr.app N6 N7q
  refine Go.via (fun t k => st7.trans k) ?_
  refine Vi (T7.setTop (mkF m 457 (LQ p0 p1 p2 p3 p4 p5 4 x0 x1 x2 x3 dA sA pk [sR jt, sR b1_0, sI 0, sI 3, sI 1]) [(.int 1)])) (fun tZ kZ => ?_) ?_
  · refine XS.aload X7.here hx rfl (hb hby at_404) rfl rfl ?_
    refine XS.iload X7.here hx rfl (hb hby at_406) rfl ?_
    refine XS.iconst X7.here hx rfl (hb hby at_408) ?_
    refine XS.iadd X7.here hx rfl (hb hby at_409) rfl ?_
    refine AV.caload c3_4 X7 hx hZ e7 (j := (3 : Int32)) (by decide) (hb hby at_410) ?_
    refine XS.icmpNo X7.here hx rfl (hb hby at_411) rfl (teq (own_rt3 hx3 hf3)).2 ?_
    refine XS.iconst X7.here hx rfl (hb hby at_414) ?_
    refine XS.goto X7.here hx rfl (pc0 := 415) (pc' := 419) rfl (hb hby at_415) (by decide) (by decide) ?_
    refine XS.istore X7.here hx rfl (hb hby at_419) rfl (l' := (LQ p0 p1 p2 p3 p4 p5 4 x0 x1 x2 x3 dA sA pk [sR jt, sR b1_0, sI 0, sI 3, sI 1])) rfl ?_
    refine XS.iload X7.here hx rfl (hb hby at_421) rfl ?_
    refine XS.iconst X7.here hx rfl (hb hby at_423) ?_
    refine XS.icmpYes X7.here hx rfl (pc0 := 424) (pc' := 455) rfl (hb hby at_424) rfl (flt (by decide)).2.2.2 (by decide) (by decide) ?_
    refine XS.iload X7.here hx rfl (hb hby at_455) rfl ?_
    exact kZ
  refine Go.retNW (s := s) (vm₁ := vmT) X7 hx hST (by rw [e7]; exact hk1) hlk (t := .boolean) hret (by simp) (hb hby at_457) (by decide) (by decide) ?_
  exact ⟨rfl, N7⟩
theorem tb_4_2 (l : Launch) (Z : State) (a0 : Array Value) (hw : ∀ d ∈ tables_1, d.before a0 Z = true) {p : Program} {e : Env} {s : State} {m : MethodId} {args : Array Value} {below : List Frame} {meth : Method} {c : Code} {T0 : State} {locs0 : List Loc} {vmT : Vm} {h0 : Heap} {n0 kT : Nat} {x0 x1 x2 x3 cs : Int32} {sv : Value} {em dA : Addr} (hC : Com l Z a0 p e s m args below meth c T0 locs0 vmT 7 87 h0 n0 kT x0 x1 x2 x3 cs sv em dA) (p0 p1 p2 p3 p4 p5 : Int32) (sA pk jt sn bA : Addr) (fF : Nat → Int32) (hj0 : Exa Z h0 jt "com/example/bindery/bindery/compiler/JavaType") (hj1 : Fld Z h0 jt "com/example/bindery/bindery/compiler/JavaType" "name" "Ljava/lang/String;" (.ref sn)) (hj2 : Exa Z h0 sn "java/lang/String") (hj3 : Fld Z h0 sn "java/lang/String" "coder" "B" (.int 0)) (hj4 : Fld Z h0 sn "java/lang/String" "value" "[B" (.ref bA)) (hj5 : AV Z h0 bA .byte 4 (fun k => .int (fF k))) (hfit : ∀ k, k < 4 → fits .byte (.int (fF k)) = true) (hf0 : fF (0 : Int32).toNatClampNeg = nar .byte ((nar .char x0).toInt8.toInt32)) (hf1 : fF (1 : Int32).toNatClampNeg = nar .byte ((nar .char x1).toInt8.toInt32)) (hf2 : fF (2 : Int32).toNatClampNeg = nar .byte ((nar .char x2).toInt8.toInt32)) (hf3 : fF (3 : Int32).toNatClampNeg = nar .byte ((nar .char x3).toInt8.toInt32)) (hd3 : ¬ x3 = 46) (hd2 : ¬ x2 = 46) (hd1 : x1 = 46) :
    Go p e below (fun o u => ∃ v L, o = .returned v ∧ Q0 n0 v u.heap L ∧ ReturnedEndW s o u L 32 4288) (T0.setTop (mkF m 218 (LQ p0 p1 p2 p3 p4 p5 4 x0 x1 x2 x3 dA sA pk [sR jt, .unset, .unset, .unset, .unset]) [])) := by
  obtain ⟨X0, hx, hby, hml, hlk, hret, hZ, hown, wS, Z0, e0, N0, hST, hkT, hCH, hx0, hx1, hx2, hx3, hcs, hsv, S_CS, S_SV, S_EM, hold, VD⟩ := hC
  refine Vi (T0.setTop (mkF m 220 (LQ p0 p1 p2 p3 p4 p5 4 x0 x1 x2 x3 dA sA pk [sR jt, .unset, .unset, .unset, .unset]) [(.ref jt)])) (fun tZ kZ => ?_) ?_
  · refine XS.aload X0.here hx rfl (hb hby at_218) rfl rfl ?_
    exact kZ
  obtain ⟨cq1, kq1, q1a, q1b, q1c⟩ := isOf hZ e0 hj0
  obtain ⟨_, _, ⟨T1, L1, k1, n1⟩, -, X1, ⟨Lc1, hQ1, l1, y1, z1⟩, st1⟩ := X0.virtualBack hx (y := y9) (z := y9) hown (mvT hZ (wq hw 54 rfl)) (mvT hZ (wq hw 55 rfl)) (notFace_of_selects (args := #[]) (mvT hZ (wq hw 57 rfl))) (mvT hZ (wq hw 57 rfl)) (mvT hZ (wq hw 56 rfl)) (by decide) (backOf (W := 0) (rm9n4C l Z a0 hw [] jt sn bA fF cs sv 2 h0 n0 Z0 hj0 hj1 hj2 hj3 hj4 hj5 (S_CS.ext hold.2) (S_SV.ext hold.2) hcs hsv (by decide) (by decide) (by decide) (by decide) (by decide) (by decide) (by decide) (by decide) (by decide) (by decide) (by decide) hfit (own_l4_2 _ _ _ _ (by rw [hf3]; exact own_ndot hx3 hd3) (by rw [hf2]; exact own_ndot hx2 hd2) (by rw [hf1]; exact own_dot hd1))) hZ (wq hw 58 rfl) (wq hw 16 rfl) (by decide) (by decide)) q1a q1c (g := (mkF m 220 (LQ p0 p1 p2 p3 p4 p5 4 x0 x1 x2 x3 dA sA pk [sR jt, .unset, .unset, .unset, .unset]) [(.ref jt)])) rfl (by rw [hml]; rfl) (Steps.refl _) (argsL := []) (rest := []) (lenOf pd_7 rfl) rfl (leW rfl) (hb hby at_220) (fun _ _ => ⟨rfl, e0, (by decide : 7 + 2 ≤ _), (by decide : 87 + 8 ≤ _)⟩)
  dsimp only [Pt.U, Pt.locs, Pt.cells, Pt.slots] at X1 l1 y1 z1 st1 hQ1
  subst l1 y1 z1
  obtain ⟨b1_0, b1_1, rfl, N1q, Kq1, hz_b1_0, hz_b1_1, f1_0, f1_1, f1_2, f1_3, f1_4, f1_5, f1_6, f1_7, f1_8, f1_9, f1_10, f1_11⟩ := hQ1
  have Ac2 := CHr.keep Kq1 all0 hCH
  have CR2c := CHr.trans (CHr.refl hCH) Ac2
  have c3_0 := hold.keep Kq1 all0
  have c3_3 := S_EM.ext c3_0.2
  have c3_4 := VD.keep Kq1 nin0
  have K1 : Keep h0 T1.heap [] := (Keep.refl h0 []).trans Kq1 all0
  have Z1 : n0 ≤ T1.heap.size := Nat.le_trans Z0 Kq1.1
  have hk1 := Nat.le_trans hkT Kq1.1
  have N1 := Fr.app N0 N1q
  refine Go.via (fun t k => st1.trans k) ?_
  refine Vi (T1.setTop (mkF m 307 (LQ p0 p1 p2 p3 p4 p5 4 x0 x1 x2 x3 dA sA pk [sR jt, sR b1_0, sI 1, sI 2, .unset]) [(.ref b1_0)])) (fun tZ kZ => ?_) ?_
  · refine XS.astore X1.here hx rfl (hb hby at_223) rfl rfl (l' := (LQ p0 p1 p2 p3 p4 p5 4 x0 x1 x2 x3 dA sA pk [sR jt, sR b1_0, .unset, .unset, .unset])) rfl ?_
    refine XS.iconst X1.here hx rfl (hb hby at_225) ?_
    refine XS.istore X1.here hx rfl (hb hby at_226) rfl (l' := (LQ p0 p1 p2 p3 p4 p5 4 x0 x1 x2 x3 dA sA pk [sR jt, sR b1_0, sI (-1), .unset, .unset])) rfl ?_
    refine XS.iload X1.here hx rfl (hb hby at_228) rfl ?_
    refine XS.ifNo X1.here hx rfl (hb hby at_230) rfl ((if0 _ _).trans (tlt (by decide)).2.2.2) ?_
    refine XS.iload X1.here hx rfl (hb hby at_233) rfl ?_
    refine XS.bipush X1.here hx rfl (hb hby at_235) ?_
    have sg237 : Steps p.tables e below (T1.setTop (mkF m 243 (LQ p0 p1 p2 p3 p4 p5 4 x0 x1 x2 x3 dA sA pk [sR jt, sR b1_0, sI (if x0 = (46 : Int32) then (0 : Int32) else (-1 : Int32)), .unset, .unset]) [])) tZ → Steps p.tables e below (T1.setTop (mkF m 237 (LQ p0 p1 p2 p3 p4 p5 4 x0 x1 x2 x3 dA sA pk [sR jt, sR b1_0, sI (-1), .unset, .unset]) [(.int 46), (.int x0)])) tZ := by
      intro kj
      by_cases hc237 : x0 = (46 : Int32)
      · try simp only [if_pos hc237] at kj
        refine XS.icmpNo X1.here hx rfl (hb hby at_237) rfl (teq hc237).2 ?_
        refine XS.iconst X1.here hx rfl (hb hby at_240) ?_
        refine XS.istore X1.here hx rfl (hb hby at_241) rfl (l' := (LQ p0 p1 p2 p3 p4 p5 4 x0 x1 x2 x3 dA sA pk [sR jt, sR b1_0, sI 0, .unset, .unset])) rfl ?_
        exact kj
      · try simp only [if_neg hc237] at kj
        refine XS.icmpYes X1.here hx rfl (pc0 := 237) (pc' := 243) rfl (hb hby at_237) rfl (feq hc237).2 (by decide) (by decide) ?_
        exact kj
    refine sg237 ?_
    show Steps p.tables e below (T1.setTop (mkF m 243 (LQ p0 p1 p2 p3 p4 p5 4 x0 x1 x2 x3 dA sA pk [sR jt, sR b1_0, sI (if x0 = (46 : Int32) then (0 : Int32) else (-1 : Int32)), .unset, .unset]) [])) _
    refine XS.iload X1.here hx rfl (hb hby at_243) rfl ?_
    refine XS.iconst X1.here hx rfl (hb hby at_245) ?_
    refine XS.icmpNo X1.here hx rfl (hb hby at_246) rfl (tlt (by decide)).2.2.2 ?_
    refine XS.iload X1.here hx rfl (hb hby at_249) rfl ?_
    refine XS.bipush X1.here hx rfl (hb hby at_251) ?_
    refine XS.icmpNo X1.here hx rfl (hb hby at_253) rfl (teq hd1).2 ?_
    refine XS.iconst X1.here hx rfl (hb hby at_256) ?_
    refine XS.istore X1.here hx rfl (hb hby at_257) rfl (l' := (LQ p0 p1 p2 p3 p4 p5 4 x0 x1 x2 x3 dA sA pk [sR jt, sR b1_0, sI 1, .unset, .unset])) rfl ?_
    refine XS.iload X1.here hx rfl (hb hby at_259) rfl ?_
    refine XS.iconst X1.here hx rfl (hb hby at_261) ?_
    refine XS.icmpNo X1.here hx rfl (hb hby at_262) rfl (tlt (by decide)).2.2.2 ?_
    refine XS.iload X1.here hx rfl (hb hby at_265) rfl ?_
    refine XS.bipush X1.here hx rfl (hb hby at_267) ?_
    refine XS.icmpYes X1.here hx rfl (pc0 := 269) (pc' := 275) rfl (hb hby at_269) rfl (feq hd2).2 (by decide) (by decide) ?_
    refine XS.iload X1.here hx rfl (hb hby at_275) rfl ?_
    refine XS.iconst X1.here hx rfl (hb hby at_277) ?_
    refine XS.icmpNo X1.here hx rfl (hb hby at_278) rfl (tlt (by decide)).2.2.2 ?_
    refine XS.iload X1.here hx rfl (hb hby at_281) rfl ?_
    refine XS.bipush X1.here hx rfl (hb hby at_283) ?_
    refine XS.icmpYes X1.here hx rfl (pc0 := 285) (pc' := 291) rfl (hb hby at_285) rfl (feq hd3).2 (by decide) (by decide) ?_
    refine XS.iload X1.here hx rfl (hb hby at_291) rfl ?_
    refine XS.iload X1.here hx rfl (hb hby at_293) rfl ?_
    refine XS.isub X1.here hx rfl (hb hby at_295) rfl ?_
    refine XS.iconst X1.here hx rfl (hb hby at_296) ?_
    refine XS.isub X1.here hx rfl (hb hby at_297) rfl ?_
    refine XS.istore X1.here hx rfl (hb hby at_298) rfl (l' := (LQ p0 p1 p2 p3 p4 p5 4 x0 x1 x2 x3 dA sA pk [sR jt, sR b1_0, sI 1, sI 2, .unset])) rfl ?_
    refine XS.aload X1.here hx rfl (hb hby at_300) rfl rfl ?_
    refine XS.ifnullNo X1.here hx rfl (hb hby at_302) rfl ?_
    refine XS.aload X1.here hx rfl (hb hby at_305) rfl rfl ?_
    exact kZ
  obtain ⟨cq4, kq4, q4a, q4b, q4c⟩ := isOf hZ rfl f1_8
  obtain ⟨_, _, ⟨T4, L4, k4, n4⟩, -, X4, ⟨Lc4, hQ4, l4, y4, z4⟩, st4⟩ := X1.virtualBack hx (y := y11) (z := y11) hown (mvT hZ (wq hw 114 rfl)) (mvT hZ (wq hw 65 rfl)) (notFace_of_selects (args := #[]) (mvT hZ (wq hw 67 rfl))) (mvT hZ (wq hw 67 rfl)) (mvT hZ (wq hw 66 rfl)) (by decide) (backOf (W := 0) (rm11 l Z a0 hw [] b1_0 b1_1 2 (own_sh fF 2) cs T1.heap n0 Z1 f1_8 f1_10 f1_9 f1_11 f1_6 hcs) hZ (wq hw 68 rfl) (wq hw 7 rfl) (by decide) (by decide)) q4a q4c (g := (mkF m 307 (LQ p0 p1 p2 p3 p4 p5 4 x0 x1 x2 x3 dA sA pk [sR jt, sR b1_0, sI 1, sI 2, .unset]) [(.ref b1_0)])) rfl (by rw [hml]; rfl) (Steps.refl _) (argsL := []) (rest := []) (lenOf pd_9 rfl) rfl (leW rfl) (hb hby at_307) (fun _ _ => ⟨rfl, rfl, (by decide : 7 + 2 + 0 ≤ _), (by decide : 87 + 8 + 0 ≤ _)⟩)
  dsimp only [Pt.U, Pt.locs, Pt.cells, Pt.slots] at X4 l4 y4 z4 st4 hQ4
  subst l4 y4 z4
  obtain ⟨rfl, N4q, e4⟩ := hQ4
  have hv4 : (f11 b1_0 b1_1 2 (own_sh fF 2) cs) = (Int32.ofNat 2) := by unfold f11; exact own_sh0 _
  rw [hv4] at st4
  have N4 := Fr.app N1 N4q
  refine Go.via (fun t k => st4.trans k) ?_
  refine Vi (T4.setTop (mkF m 333 (LQ p0 p1 p2 p3 p4 p5 4 x0 x1 x2 x3 dA sA pk [sR jt, sR b1_0, sI 1, sI 2, sI 1]) [(.int 0), (.ref b1_0)])) (fun tZ kZ => ?_) ?_
  · refine XS.iload X4.here hx rfl (hb hby at_310) rfl ?_
    refine XS.icmpYes X4.here hx rfl (pc0 := 312) (pc' := 317) rfl (hb hby at_312) rfl (teq (by decide)).1 (by decide) (by decide) ?_
    refine XS.iconst X4.here hx rfl (hb hby at_317) ?_
    refine XS.istore X4.here hx rfl (hb hby at_318) rfl (l' := (LQ p0 p1 p2 p3 p4 p5 4 x0 x1 x2 x3 dA sA pk [sR jt, sR b1_0, sI 1, sI 2, sI 1])) rfl ?_
    refine XS.iload X4.here hx rfl (hb hby at_320) rfl ?_
    refine XS.ifNo X4.here hx rfl (hb hby at_322) rfl ((if0 _ _).trans (tlt (by decide)).2.2.2) ?_
    refine XS.iload X4.here hx rfl (hb hby at_325) rfl ?_
    refine XS.ifNo X4.here hx rfl (hb hby at_327) rfl ((if0 _ _).trans (feq (by decide)).1) ?_
    refine XS.aload X4.here hx rfl (hb hby at_330) rfl rfl ?_
    refine XS.iconst X4.here hx rfl (hb hby at_332) ?_
    exact kZ
  obtain ⟨cq5, kq5, q5a, q5b, q5c⟩ := isOf hZ e4 f1_8
  obtain ⟨_, _, ⟨T5, L5, k5, n5⟩, -, X5, ⟨Lc5, hQ5, l5, y5, z5⟩, st5⟩ := X4.virtualBack hx (y := y30) (z := y30) hown (mvT hZ (wq hw 147 rfl)) (mvT hZ (wq hw 148 rfl)) (notFace_of_selects (args := #[]) (mvT hZ (wq hw 150 rfl))) (mvT hZ (wq hw 150 rfl)) (mvT hZ (wq hw 149 rfl)) (by decide) (backOf (W := 0) (rm30 l Z a0 hw [] b1_0 (0 : Int32) b1_1 2 (own_sh fF 2) cs sv T1.heap n0 Z1 f1_8 f1_10 f1_9 f1_11 f1_6 f1_7 hcs (by decide) (by decide) (by decide) hsv) hZ (wq hw 151 rfl) (wq hw 7 rfl) (by decide) (by decide)) q5a q5c (g := (mkF m 333 (LQ p0 p1 p2 p3 p4 p5 4 x0 x1 x2 x3 dA sA pk [sR jt, sR b1_0, sI 1, sI 2, sI 1]) [(.int 0), (.ref b1_0)])) rfl (by rw [hml]; rfl) (Steps.refl _) (argsL := [(.int 0)]) (rest := []) (lenOf pd_27 rfl) rfl (leW rfl) (hb hby at_333) (fun _ _ => ⟨rfl, e4, (by decide : 7 + 2 + 0 + 0 ≤ _), (by decide : 87 + 8 + 0 + 0 ≤ _)⟩)
  dsimp only [Pt.U, Pt.locs, Pt.cells, Pt.slots] at X5 l5 y5 z5 st5 hQ5
  subst l5 y5 z5
  obtain ⟨rfl, N5q, e5⟩ := hQ5
  have N5 := Fr.app N4 N5q
  refine Go.via (fun t k => st5.trans k) ?_
  refine Vi (T5.setTop (mkF m 367 (LQ p0 p1 p2 p3 p4 p5 4 x0 x1 x2 x3 dA sA pk [sR jt, sR b1_0, sI 1, sI 2, sI 1]) [(.int 1), (.ref b1_0)])) (fun tZ kZ => ?_) ?_
  · refine XS.aload X5.here hx rfl (hb hby at_336) rfl rfl ?_
    refine XS.iload X5.here hx rfl (hb hby at_338) rfl ?_
    refine XS.iconst X5.here hx rfl (hb hby at_340) ?_
    refine XS.iadd X5.here hx rfl (hb hby at_341) rfl ?_
    refine AV.caload c3_4 X5 hx hZ e5 (j := (2 : Int32)) (by decide) (hb hby at_342) ?_
    refine XS.icmpNo X5.here hx rfl (hb hby at_343) rfl (teq (own_rt3 hx2 hf2)).2 ?_
    refine XS.iconst X5.here hx rfl (hb hby at_346) ?_
    refine XS.goto X5.here hx rfl (pc0 := 347) (pc' := 351) rfl (hb hby at_347) (by decide) (by decide) ?_
    refine XS.istore X5.here hx rfl (hb hby at_351) rfl (l' := (LQ p0 p1 p2 p3 p4 p5 4 x0 x1 x2 x3 dA sA pk [sR jt, sR b1_0, sI 1, sI 2, sI 1])) rfl ?_
    refine XS.iload X5.here hx rfl (hb hby at_353) rfl ?_
    refine XS.iconst X5.here hx rfl (hb hby at_355) ?_
    refine XS.icmpNo X5.here hx rfl (hb hby at_356) rfl (tlt (by decide)).2.2.2 ?_
    refine XS.iload X5.here hx rfl (hb hby at_359) rfl ?_
    refine XS.ifNo X5.here hx rfl (hb hby at_361) rfl ((if0 _ _).trans (feq (by decide)).1) ?_
    refine XS.aload X5.here hx rfl (hb hby at_364) rfl rfl ?_
    refine XS.iconst X5.here hx rfl (hb hby at_366) ?_
    exact kZ
  obtain ⟨cq6, kq6, q6a, q6b, q6c⟩ := isOf hZ e5 f1_8
  obtain ⟨_, _, ⟨T6, L6, k6, n6⟩, -, X6, ⟨Lc6, hQ6, l6, y6, z6⟩, st6⟩ := X5.virtualBack hx (y := y30) (z := y30) hown (mvT hZ (wq hw 147 rfl)) (mvT hZ (wq hw 148 rfl)) (notFace_of_selects (args := #[]) (mvT hZ (wq hw 150 rfl))) (mvT hZ (wq hw 150 rfl)) (mvT hZ (wq hw 149 rfl)) (by decide) (backOf (W := 0) (rm30 l Z a0 hw [] b1_0 (1 : Int32) b1_1 2 (own_sh fF 2) cs sv T1.heap n0 Z1 f1_8 f1_10 f1_9 f1_11 f1_6 f1_7 hcs (by decide) (by decide) (by decide) hsv) hZ (wq hw 151 rfl) (wq hw 7 rfl) (by decide) (by decide)) q6a q6c (g := (mkF m 367 (LQ p0 p1 p2 p3 p4 p5 4 x0 x1 x2 x3 dA sA pk [sR jt, sR b1_0, sI 1, sI 2, sI 1]) [(.int 1), (.ref b1_0)])) rfl (by rw [hml]; rfl) (Steps.refl _) (argsL := [(.int 1)]) (rest := []) (lenOf pd_27 rfl) rfl (leW rfl) (hb hby at_367) (fun _ _ => ⟨rfl, e5, (by decide : 7 + 2 + 0 + 0 + 0 ≤ _), (by decide : 87 + 8 + 0 + 0 + 0 ≤ _)⟩)
  dsimp only [Pt.U, Pt.locs, Pt.cells, Pt.slots] at X6 l6 y6 z6 st6 hQ6
  subst l6 y6 z6
  obtain ⟨rfl, N6q, e6⟩ := hQ6
  have N6 := Fr.app N5 N6q
  refine Go.via (fun t k => st6.trans k) ?_
  refine Vi (T6.setTop (mkF m 457 (LQ p0 p1 p2 p3 p4 p5 4 x0 x1 x2 x3 dA sA pk [sR jt, sR b1_0, sI 1, sI 2, sI 1]) [(.int 1)])) (fun tZ kZ => ?_) ?_
  · refine XS.aload X6.here hx rfl (hb hby at_370) rfl rfl ?_
    refine XS.iload X6.here hx rfl (hb hby at_372) rfl ?_
    refine XS.iconst X6.here hx rfl (hb hby at_374) ?_
    refine XS.iadd X6.here hx rfl (hb hby at_375) rfl ?_
    refine AV.caload c3_4 X6 hx hZ e6 (j := (3 : Int32)) (by decide) (hb hby at_376) ?_
    refine XS.icmpNo X6.here hx rfl (hb hby at_377) rfl (teq (own_rt3 hx3 hf3)).2 ?_
    refine XS.iconst X6.here hx rfl (hb hby at_380) ?_
    refine XS.goto X6.here hx rfl (pc0 := 381) (pc' := 385) rfl (hb hby at_381) (by decide) (by decide) ?_
    refine XS.istore X6.here hx rfl (hb hby at_385) rfl (l' := (LQ p0 p1 p2 p3 p4 p5 4 x0 x1 x2 x3 dA sA pk [sR jt, sR b1_0, sI 1, sI 2, sI 1])) rfl ?_
    refine XS.iload X6.here hx rfl (hb hby at_387) rfl ?_
    refine XS.iconst X6.here hx rfl (hb hby at_389) ?_
    refine XS.icmpYes X6.here hx rfl (pc0 := 390) (pc' := 421) rfl (hb hby at_390) rfl (flt (by decide)).2.2.2 (by decide) (by decide) ?_
    refine XS.iload X6.here hx rfl (hb hby at_421) rfl ?_
    refine XS.iconst X6.here hx rfl (hb hby at_423) ?_
    refine XS.icmpYes X6.here hx rfl (pc0 := 424) (pc' := 455) rfl (hb hby at_424) rfl (flt (by decide)).2.2.2 (by decide) (by decide) ?_
    refine XS.iload X6.here hx rfl (hb hby at_455) rfl ?_
    exact kZ
  refine Go.retNW (s := s) (vm₁ := vmT) X6 hx hST (by rw [e6]; exact hk1) hlk (t := .boolean) hret (by simp) (hb hby at_457) (by decide) (by decide) ?_
  exact ⟨rfl, N6⟩
theorem tb_4_3 (l : Launch) (Z : State) (a0 : Array Value) (hw : ∀ d ∈ tables_1, d.before a0 Z = true) {p : Program} {e : Env} {s : State} {m : MethodId} {args : Array Value} {below : List Frame} {meth : Method} {c : Code} {T0 : State} {locs0 : List Loc} {vmT : Vm} {h0 : Heap} {n0 kT : Nat} {x0 x1 x2 x3 cs : Int32} {sv : Value} {em dA : Addr} (hC : Com l Z a0 p e s m args below meth c T0 locs0 vmT 7 87 h0 n0 kT x0 x1 x2 x3 cs sv em dA) (p0 p1 p2 p3 p4 p5 : Int32) (sA pk jt sn bA : Addr) (fF : Nat → Int32) (hj0 : Exa Z h0 jt "com/example/bindery/bindery/compiler/JavaType") (hj1 : Fld Z h0 jt "com/example/bindery/bindery/compiler/JavaType" "name" "Ljava/lang/String;" (.ref sn)) (hj2 : Exa Z h0 sn "java/lang/String") (hj3 : Fld Z h0 sn "java/lang/String" "coder" "B" (.int 0)) (hj4 : Fld Z h0 sn "java/lang/String" "value" "[B" (.ref bA)) (hj5 : AV Z h0 bA .byte 4 (fun k => .int (fF k))) (hfit : ∀ k, k < 4 → fits .byte (.int (fF k)) = true) (hf0 : fF (0 : Int32).toNatClampNeg = nar .byte ((nar .char x0).toInt8.toInt32)) (hf1 : fF (1 : Int32).toNatClampNeg = nar .byte ((nar .char x1).toInt8.toInt32)) (hf2 : fF (2 : Int32).toNatClampNeg = nar .byte ((nar .char x2).toInt8.toInt32)) (hf3 : fF (3 : Int32).toNatClampNeg = nar .byte ((nar .char x3).toInt8.toInt32)) (hd3 : ¬ x3 = 46) (hd2 : x2 = 46) :
    Go p e below (fun o u => ∃ v L, o = .returned v ∧ Q0 n0 v u.heap L ∧ ReturnedEndW s o u L 32 4288) (T0.setTop (mkF m 218 (LQ p0 p1 p2 p3 p4 p5 4 x0 x1 x2 x3 dA sA pk [sR jt, .unset, .unset, .unset, .unset]) [])) := by
  obtain ⟨X0, hx, hby, hml, hlk, hret, hZ, hown, wS, Z0, e0, N0, hST, hkT, hCH, hx0, hx1, hx2, hx3, hcs, hsv, S_CS, S_SV, S_EM, hold, VD⟩ := hC
  refine Vi (T0.setTop (mkF m 220 (LQ p0 p1 p2 p3 p4 p5 4 x0 x1 x2 x3 dA sA pk [sR jt, .unset, .unset, .unset, .unset]) [(.ref jt)])) (fun tZ kZ => ?_) ?_
  · refine XS.aload X0.here hx rfl (hb hby at_218) rfl rfl ?_
    exact kZ
  obtain ⟨cq1, kq1, q1a, q1b, q1c⟩ := isOf hZ e0 hj0
  obtain ⟨_, _, ⟨T1, L1, k1, n1⟩, -, X1, ⟨Lc1, hQ1, l1, y1, z1⟩, st1⟩ := X0.virtualBack hx (y := y9) (z := y9) hown (mvT hZ (wq hw 54 rfl)) (mvT hZ (wq hw 55 rfl)) (notFace_of_selects (args := #[]) (mvT hZ (wq hw 57 rfl))) (mvT hZ (wq hw 57 rfl)) (mvT hZ (wq hw 56 rfl)) (by decide) (backOf (W := 0) (rm9n4C l Z a0 hw [] jt sn bA fF cs sv 3 h0 n0 Z0 hj0 hj1 hj2 hj3 hj4 hj5 (S_CS.ext hold.2) (S_SV.ext hold.2) hcs hsv (by decide) (by decide) (by decide) (by decide) (by decide) (by decide) (by decide) (by decide) (by decide) (by decide) (by decide) hfit (own_l4_3 _ _ _ _ (by rw [hf3]; exact own_ndot hx3 hd3) (by rw [hf2]; exact own_dot hd2))) hZ (wq hw 58 rfl) (wq hw 16 rfl) (by decide) (by decide)) q1a q1c (g := (mkF m 220 (LQ p0 p1 p2 p3 p4 p5 4 x0 x1 x2 x3 dA sA pk [sR jt, .unset, .unset, .unset, .unset]) [(.ref jt)])) rfl (by rw [hml]; rfl) (Steps.refl _) (argsL := []) (rest := []) (lenOf pd_7 rfl) rfl (leW rfl) (hb hby at_220) (fun _ _ => ⟨rfl, e0, (by decide : 7 + 2 ≤ _), (by decide : 87 + 8 ≤ _)⟩)
  dsimp only [Pt.U, Pt.locs, Pt.cells, Pt.slots] at X1 l1 y1 z1 st1 hQ1
  subst l1 y1 z1
  obtain ⟨b1_0, b1_1, rfl, N1q, Kq1, hz_b1_0, hz_b1_1, f1_0, f1_1, f1_2, f1_3, f1_4, f1_5, f1_6, f1_7, f1_8, f1_9, f1_10, f1_11⟩ := hQ1
  have Ac2 := CHr.keep Kq1 all0 hCH
  have CR2c := CHr.trans (CHr.refl hCH) Ac2
  have c3_0 := hold.keep Kq1 all0
  have c3_3 := S_EM.ext c3_0.2
  have c3_4 := VD.keep Kq1 nin0
  have K1 : Keep h0 T1.heap [] := (Keep.refl h0 []).trans Kq1 all0
  have Z1 : n0 ≤ T1.heap.size := Nat.le_trans Z0 Kq1.1
  have hk1 := Nat.le_trans hkT Kq1.1
  have N1 := Fr.app N0 N1q
  refine Go.via (fun t k => st1.trans k) ?_
  refine Vi (T1.setTop (mkF m 307 (LQ p0 p1 p2 p3 p4 p5 4 x0 x1 x2 x3 dA sA pk [sR jt, sR b1_0, sI 2, sI 1, .unset]) [(.ref b1_0)])) (fun tZ kZ => ?_) ?_
  · refine XS.astore X1.here hx rfl (hb hby at_223) rfl rfl (l' := (LQ p0 p1 p2 p3 p4 p5 4 x0 x1 x2 x3 dA sA pk [sR jt, sR b1_0, .unset, .unset, .unset])) rfl ?_
    refine XS.iconst X1.here hx rfl (hb hby at_225) ?_
    refine XS.istore X1.here hx rfl (hb hby at_226) rfl (l' := (LQ p0 p1 p2 p3 p4 p5 4 x0 x1 x2 x3 dA sA pk [sR jt, sR b1_0, sI (-1), .unset, .unset])) rfl ?_
    refine XS.iload X1.here hx rfl (hb hby at_228) rfl ?_
    refine XS.ifNo X1.here hx rfl (hb hby at_230) rfl ((if0 _ _).trans (tlt (by decide)).2.2.2) ?_
    refine XS.iload X1.here hx rfl (hb hby at_233) rfl ?_
    refine XS.bipush X1.here hx rfl (hb hby at_235) ?_
    have sg237 : Steps p.tables e below (T1.setTop (mkF m 243 (LQ p0 p1 p2 p3 p4 p5 4 x0 x1 x2 x3 dA sA pk [sR jt, sR b1_0, sI (if x0 = (46 : Int32) then (0 : Int32) else (-1 : Int32)), .unset, .unset]) [])) tZ → Steps p.tables e below (T1.setTop (mkF m 237 (LQ p0 p1 p2 p3 p4 p5 4 x0 x1 x2 x3 dA sA pk [sR jt, sR b1_0, sI (-1), .unset, .unset]) [(.int 46), (.int x0)])) tZ := by
      intro kj
      by_cases hc237 : x0 = (46 : Int32)
      · try simp only [if_pos hc237] at kj
        refine XS.icmpNo X1.here hx rfl (hb hby at_237) rfl (teq hc237).2 ?_
        refine XS.iconst X1.here hx rfl (hb hby at_240) ?_
        refine XS.istore X1.here hx rfl (hb hby at_241) rfl (l' := (LQ p0 p1 p2 p3 p4 p5 4 x0 x1 x2 x3 dA sA pk [sR jt, sR b1_0, sI 0, .unset, .unset])) rfl ?_
        exact kj
      · try simp only [if_neg hc237] at kj
        refine XS.icmpYes X1.here hx rfl (pc0 := 237) (pc' := 243) rfl (hb hby at_237) rfl (feq hc237).2 (by decide) (by decide) ?_
        exact kj
    refine sg237 ?_
    show Steps p.tables e below (T1.setTop (mkF m 243 (LQ p0 p1 p2 p3 p4 p5 4 x0 x1 x2 x3 dA sA pk [sR jt, sR b1_0, sI (if x0 = (46 : Int32) then (0 : Int32) else (-1 : Int32)), .unset, .unset]) [])) _
    refine XS.iload X1.here hx rfl (hb hby at_243) rfl ?_
    refine XS.iconst X1.here hx rfl (hb hby at_245) ?_
    refine XS.icmpNo X1.here hx rfl (hb hby at_246) rfl (tlt (by decide)).2.2.2 ?_
    refine XS.iload X1.here hx rfl (hb hby at_249) rfl ?_
    refine XS.bipush X1.here hx rfl (hb hby at_251) ?_
    have sg253 : Steps p.tables e below (T1.setTop (mkF m 259 (LQ p0 p1 p2 p3 p4 p5 4 x0 x1 x2 x3 dA sA pk [sR jt, sR b1_0, sI (if x1 = (46 : Int32) then (1 : Int32) else (if x0 = (46 : Int32) then (0 : Int32) else (-1 : Int32))), .unset, .unset]) [])) tZ → Steps p.tables e below (T1.setTop (mkF m 253 (LQ p0 p1 p2 p3 p4 p5 4 x0 x1 x2 x3 dA sA pk [sR jt, sR b1_0, sI (if x0 = (46 : Int32) then (0 : Int32) else (-1 : Int32)), .unset, .unset]) [(.int 46), (.int x1)])) tZ := by
      intro kj
      by_cases hc253 : x1 = (46 : Int32)
      · try simp only [if_pos hc253] at kj
        refine XS.icmpNo X1.here hx rfl (hb hby at_253) rfl (teq hc253).2 ?_
        refine XS.iconst X1.here hx rfl (hb hby at_256) ?_
        refine XS.istore X1.here hx rfl (hb hby at_257) rfl (l' := (LQ p0 p1 p2 p3 p4 p5 4 x0 x1 x2 x3 dA sA pk [sR jt, sR b1_0, sI 1, .unset, .unset])) rfl ?_
        exact kj
      · try simp only [if_neg hc253] at kj
        refine XS.icmpYes X1.here hx rfl (pc0 := 253) (pc' := 259) rfl (hb hby at_253) rfl (feq hc253).2 (by decide) (by decide) ?_
        exact kj
    refine sg253 ?_
    show Steps p.tables e below (T1.setTop (mkF m 259 (LQ p0 p1 p2 p3 p4 p5 4 x0 x1 x2 x3 dA sA pk [sR jt, sR b1_0, sI (if x1 = (46 : Int32) then (1 : Int32) else (if x0 = (46 : Int32) then (0 : Int32) else (-1 : Int32))), .unset, .unset]) [])) _
    refine XS.iload X1.here hx rfl (hb hby at_259) rfl ?_
    refine XS.iconst X1.here hx rfl (hb hby at_261) ?_
    refine XS.icmpNo X1.here hx rfl (hb hby at_262) rfl (tlt (by decide)).2.2.2 ?_
    refine XS.iload X1.here hx rfl (hb hby at_265) rfl ?_
    refine XS.bipush X1.here hx rfl (hb hby at_267) ?_
    refine XS.icmpNo X1.here hx rfl (hb hby at_269) rfl (teq hd2).2 ?_
    refine XS.iconst X1.here hx rfl (hb hby at_272) ?_
    refine XS.istore X1.here hx rfl (hb hby at_273) rfl (l' := (LQ p0 p1 p2 p3 p4 p5 4 x0 x1 x2 x3 dA sA pk [sR jt, sR b1_0, sI 2, .unset, .unset])) rfl ?_
    refine XS.iload X1.here hx rfl (hb hby at_275) rfl ?_
    refine XS.iconst X1.here hx rfl (hb hby at_277) ?_
    refine XS.icmpNo X1.here hx rfl (hb hby at_278) rfl (tlt (by decide)).2.2.2 ?_
    refine XS.iload X1.here hx rfl (hb hby at_281) rfl ?_
    refine XS.bipush X1.here hx rfl (hb hby at_283) ?_
    refine XS.icmpYes X1.here hx rfl (pc0 := 285) (pc' := 291) rfl (hb hby at_285) rfl (feq hd3).2 (by decide) (by decide) ?_
    refine XS.iload X1.here hx rfl (hb hby at_291) rfl ?_
    refine XS.iload X1.here hx rfl (hb hby at_293) rfl ?_
    refine XS.isub X1.here hx rfl (hb hby at_295) rfl ?_
    refine XS.iconst X1.here hx rfl (hb hby at_296) ?_
    refine XS.isub X1.here hx rfl (hb hby at_297) rfl ?_
    refine XS.istore X1.here hx rfl (hb hby at_298) rfl (l' := (LQ p0 p1 p2 p3 p4 p5 4 x0 x1 x2 x3 dA sA pk [sR jt, sR b1_0, sI 2, sI 1, .unset])) rfl ?_
    refine XS.aload X1.here hx rfl (hb hby at_300) rfl rfl ?_
    refine XS.ifnullNo X1.here hx rfl (hb hby at_302) rfl ?_
    refine XS.aload X1.here hx rfl (hb hby at_305) rfl rfl ?_
    exact kZ
  obtain ⟨cq4, kq4, q4a, q4b, q4c⟩ := isOf hZ rfl f1_8
  obtain ⟨_, _, ⟨T4, L4, k4, n4⟩, -, X4, ⟨Lc4, hQ4, l4, y4, z4⟩, st4⟩ := X1.virtualBack hx (y := y11) (z := y11) hown (mvT hZ (wq hw 114 rfl)) (mvT hZ (wq hw 65 rfl)) (notFace_of_selects (args := #[]) (mvT hZ (wq hw 67 rfl))) (mvT hZ (wq hw 67 rfl)) (mvT hZ (wq hw 66 rfl)) (by decide) (backOf (W := 0) (rm11 l Z a0 hw [] b1_0 b1_1 1 (own_sh fF 3) cs T1.heap n0 Z1 f1_8 f1_10 f1_9 f1_11 f1_6 hcs) hZ (wq hw 68 rfl) (wq hw 7 rfl) (by decide) (by decide)) q4a q4c (g := (mkF m 307 (LQ p0 p1 p2 p3 p4 p5 4 x0 x1 x2 x3 dA sA pk [sR jt, sR b1_0, sI 2, sI 1, .unset]) [(.ref b1_0)])) rfl (by rw [hml]; rfl) (Steps.refl _) (argsL := []) (rest := []) (lenOf pd_9 rfl) rfl (leW rfl) (hb hby at_307) (fun _ _ => ⟨rfl, rfl, (by decide : 7 + 2 + 0 ≤ _), (by decide : 87 + 8 + 0 ≤ _)⟩)
  dsimp only [Pt.U, Pt.locs, Pt.cells, Pt.slots] at X4 l4 y4 z4 st4 hQ4
  subst l4 y4 z4
  obtain ⟨rfl, N4q, e4⟩ := hQ4
  have hv4 : (f11 b1_0 b1_1 1 (own_sh fF 3) cs) = (Int32.ofNat 1) := by unfold f11; exact own_sh0 _
  rw [hv4] at st4
  have N4 := Fr.app N1 N4q
  refine Go.via (fun t k => st4.trans k) ?_
  refine Vi (T4.setTop (mkF m 333 (LQ p0 p1 p2 p3 p4 p5 4 x0 x1 x2 x3 dA sA pk [sR jt, sR b1_0, sI 2, sI 1, sI 1]) [(.int 0), (.ref b1_0)])) (fun tZ kZ => ?_) ?_
  · refine XS.iload X4.here hx rfl (hb hby at_310) rfl ?_
    refine XS.icmpYes X4.here hx rfl (pc0 := 312) (pc' := 317) rfl (hb hby at_312) rfl (teq (by decide)).1 (by decide) (by decide) ?_
    refine XS.iconst X4.here hx rfl (hb hby at_317) ?_
    refine XS.istore X4.here hx rfl (hb hby at_318) rfl (l' := (LQ p0 p1 p2 p3 p4 p5 4 x0 x1 x2 x3 dA sA pk [sR jt, sR b1_0, sI 2, sI 1, sI 1])) rfl ?_
    refine XS.iload X4.here hx rfl (hb hby at_320) rfl ?_
    refine XS.ifNo X4.here hx rfl (hb hby at_322) rfl ((if0 _ _).trans (tlt (by decide)).2.2.2) ?_
    refine XS.iload X4.here hx rfl (hb hby at_325) rfl ?_
    refine XS.ifNo X4.here hx rfl (hb hby at_327) rfl ((if0 _ _).trans (feq (by decide)).1) ?_
    refine XS.aload X4.here hx rfl (hb hby at_330) rfl rfl ?_
    refine XS.iconst X4.here hx rfl (hb hby at_332) ?_
    exact kZ
  obtain ⟨cq5, kq5, q5a, q5b, q5c⟩ := isOf hZ e4 f1_8
  obtain ⟨_, _, ⟨T5, L5, k5, n5⟩, -, X5, ⟨Lc5, hQ5, l5, y5, z5⟩, st5⟩ := X4.virtualBack hx (y := y30) (z := y30) hown (mvT hZ (wq hw 147 rfl)) (mvT hZ (wq hw 148 rfl)) (notFace_of_selects (args := #[]) (mvT hZ (wq hw 150 rfl))) (mvT hZ (wq hw 150 rfl)) (mvT hZ (wq hw 149 rfl)) (by decide) (backOf (W := 0) (rm30 l Z a0 hw [] b1_0 (0 : Int32) b1_1 1 (own_sh fF 3) cs sv T1.heap n0 Z1 f1_8 f1_10 f1_9 f1_11 f1_6 f1_7 hcs (by decide) (by decide) (by decide) hsv) hZ (wq hw 151 rfl) (wq hw 7 rfl) (by decide) (by decide)) q5a q5c (g := (mkF m 333 (LQ p0 p1 p2 p3 p4 p5 4 x0 x1 x2 x3 dA sA pk [sR jt, sR b1_0, sI 2, sI 1, sI 1]) [(.int 0), (.ref b1_0)])) rfl (by rw [hml]; rfl) (Steps.refl _) (argsL := [(.int 0)]) (rest := []) (lenOf pd_27 rfl) rfl (leW rfl) (hb hby at_333) (fun _ _ => ⟨rfl, e4, (by decide : 7 + 2 + 0 + 0 ≤ _), (by decide : 87 + 8 + 0 + 0 ≤ _)⟩)
  dsimp only [Pt.U, Pt.locs, Pt.cells, Pt.slots] at X5 l5 y5 z5 st5 hQ5
  subst l5 y5 z5
  obtain ⟨rfl, N5q, e5⟩ := hQ5
  have N5 := Fr.app N4 N5q
  refine Go.via (fun t k => st5.trans k) ?_
  refine Vi (T5.setTop (mkF m 457 (LQ p0 p1 p2 p3 p4 p5 4 x0 x1 x2 x3 dA sA pk [sR jt, sR b1_0, sI 2, sI 1, sI 1]) [(.int 1)])) (fun tZ kZ => ?_) ?_
  · refine XS.aload X5.here hx rfl (hb hby at_336) rfl rfl ?_
    refine XS.iload X5.here hx rfl (hb hby at_338) rfl ?_
    refine XS.iconst X5.here hx rfl (hb hby at_340) ?_
    refine XS.iadd X5.here hx rfl (hb hby at_341) rfl ?_
    refine AV.caload c3_4 X5 hx hZ e5 (j := (3 : Int32)) (by decide) (hb hby at_342) ?_
    refine XS.icmpNo X5.here hx rfl (hb hby at_343) rfl (teq (own_rt3 hx3 hf3)).2 ?_
    refine XS.iconst X5.here hx rfl (hb hby at_346) ?_
    refine XS.goto X5.here hx rfl (pc0 := 347) (pc' := 351) rfl (hb hby at_347) (by decide) (by decide) ?_
    refine XS.istore X5.here hx rfl (hb hby at_351) rfl (l' := (LQ p0 p1 p2 p3 p4 p5 4 x0 x1 x2 x3 dA sA pk [sR jt, sR b1_0, sI 2, sI 1, sI 1])) rfl ?_
    refine XS.iload X5.here hx rfl (hb hby at_353) rfl ?_
    refine XS.iconst X5.here hx rfl (hb hby at_355) ?_
    refine XS.icmpYes X5.here hx rfl (pc0 := 356) (pc' := 387) rfl (hb hby at_356) rfl (flt (by decide)).2.2.2 (by decide) (by decide) ?_
    refine XS.iload X5.here hx rfl (hb hby at_387) rfl ?_
    refine XS.iconst X5.here hx rfl (hb hby at_389) ?_
    refine XS.icmpYes X5.here hx rfl (pc0 := 390) (pc' := 421) rfl (hb hby at_390) rfl (flt (by decide)).2.2.2 (by decide) (by decide) ?_
    refine XS.iload X5.here hx rfl (hb hby at_421) rfl ?_
    refine XS.iconst X5.here hx rfl (hb hby at_423) ?_
    refine XS.icmpYes X5.here hx rfl (pc0 := 424) (pc' := 455) rfl (hb hby at_424) rfl (flt (by decide)).2.2.2 (by decide) (by decide) ?_
    refine XS.iload X5.here hx rfl (hb hby at_455) rfl ?_
    exact kZ
  refine Go.retNW (s := s) (vm₁ := vmT) X5 hx hST (by rw [e5]; exact hk1) hlk (t := .boolean) hret (by simp) (hb hby at_457) (by decide) (by decide) ?_
  exact ⟨rfl, N5⟩
theorem tb_4_4 (l : Launch) (Z : State) (a0 : Array Value) (hw : ∀ d ∈ tables_1, d.before a0 Z = true) {p : Program} {e : Env} {s : State} {m : MethodId} {args : Array Value} {below : List Frame} {meth : Method} {c : Code} {T0 : State} {locs0 : List Loc} {vmT : Vm} {h0 : Heap} {n0 kT : Nat} {x0 x1 x2 x3 cs : Int32} {sv : Value} {em dA : Addr} (hC : Com l Z a0 p e s m args below meth c T0 locs0 vmT 7 87 h0 n0 kT x0 x1 x2 x3 cs sv em dA) (p0 p1 p2 p3 p4 p5 : Int32) (sA pk jt sn bA : Addr) (fF : Nat → Int32) (hj0 : Exa Z h0 jt "com/example/bindery/bindery/compiler/JavaType") (hj1 : Fld Z h0 jt "com/example/bindery/bindery/compiler/JavaType" "name" "Ljava/lang/String;" (.ref sn)) (hj2 : Exa Z h0 sn "java/lang/String") (hj3 : Fld Z h0 sn "java/lang/String" "coder" "B" (.int 0)) (hj4 : Fld Z h0 sn "java/lang/String" "value" "[B" (.ref bA)) (hj5 : AV Z h0 bA .byte 4 (fun k => .int (fF k))) (hfit : ∀ k, k < 4 → fits .byte (.int (fF k)) = true) (hf0 : fF (0 : Int32).toNatClampNeg = nar .byte ((nar .char x0).toInt8.toInt32)) (hf1 : fF (1 : Int32).toNatClampNeg = nar .byte ((nar .char x1).toInt8.toInt32)) (hf2 : fF (2 : Int32).toNatClampNeg = nar .byte ((nar .char x2).toInt8.toInt32)) (hf3 : fF (3 : Int32).toNatClampNeg = nar .byte ((nar .char x3).toInt8.toInt32)) (hd3 : x3 = 46) :
    Go p e below (fun o u => ∃ v L, o = .returned v ∧ Q0 n0 v u.heap L ∧ ReturnedEndW s o u L 32 4288) (T0.setTop (mkF m 218 (LQ p0 p1 p2 p3 p4 p5 4 x0 x1 x2 x3 dA sA pk [sR jt, .unset, .unset, .unset, .unset]) [])) := by
  obtain ⟨X0, hx, hby, hml, hlk, hret, hZ, hown, wS, Z0, e0, N0, hST, hkT, hCH, hx0, hx1, hx2, hx3, hcs, hsv, S_CS, S_SV, S_EM, hold, VD⟩ := hC
  refine Vi (T0.setTop (mkF m 220 (LQ p0 p1 p2 p3 p4 p5 4 x0 x1 x2 x3 dA sA pk [sR jt, .unset, .unset, .unset, .unset]) [(.ref jt)])) (fun tZ kZ => ?_) ?_
  · refine XS.aload X0.here hx rfl (hb hby at_218) rfl rfl ?_
    exact kZ
  obtain ⟨cq1, kq1, q1a, q1b, q1c⟩ := isOf hZ e0 hj0
  obtain ⟨_, _, ⟨T1, L1, k1, n1⟩, -, X1, hS1, -, ⟨Lc1, hQ1, l1, y1, z1, A1⟩, st1⟩ := virtualBackS (s := s.setVm vmT) X0 hx (y := y9) (z := y9) hown (mvT hZ (wq hw 54 rfl)) (mvT hZ (wq hw 55 rfl)) (notFace_of_selects (args := #[]) (mvT hZ (wq hw 57 rfl))) (mvT hZ (wq hw 57 rfl)) (mvT hZ (wq hw 56 rfl)) (by decide) (backOfSH (s := s) (vm0 := vmT) (W := 0) (rm9n4B l Z a0 hw [] jt sn bA fF cs sv 4 h0 n0 Z0 hj0 hj1 hj2 hj3 hj4 hj5 (S_CS.ext hold.2) (S_SV.ext hold.2) hcs hsv (by decide) (by decide) (by decide) (by decide) (by decide) (own_l4_4 _ _ _ _ (by rw [hf3]; exact own_dot hd3))) hZ (wq hw 58 rfl) (wq hw 16 rfl) (by decide) (by decide) (own_EW hw) hCH) q1a q1c (g := (mkF m 220 (LQ p0 p1 p2 p3 p4 p5 4 x0 x1 x2 x3 dA sA pk [sR jt, .unset, .unset, .unset, .unset]) [(.ref jt)])) rfl (by rw [hml]; rfl) (Steps.refl _) (argsL := []) (rest := []) (lenOf pd_7 rfl) rfl (leW rfl) (hb hby at_220) (fun _ _ => ⟨rfl, e0, (by decide : 7 + 2 ≤ _), (by decide : 87 + 68 ≤ _)⟩)
  dsimp only [Pt.U, Pt.locs, Pt.cells, Pt.slots] at X1 hS1 l1 y1 z1 A1 st1 hQ1
  subst l1 y1 z1
  obtain ⟨b1_0, b1_1, rfl, N1q, Kq1, f1_0, f1_1, f1_2, f1_3, f1_4, f1_5, f1_6, f1_7, f1_8, f1_9, f1_10, f1_11⟩ := hQ1
  have CR2c := CHr.trans (CHr.refl hCH) A1
  have c3_0 := hold.keep Kq1 all0
  have c3_3 := S_EM.ext c3_0.2
  have c3_4 := VD.keep Kq1 nin0
  have K1 : Keep h0 T1.heap [] := (Keep.refl h0 []).trans Kq1 all0
  have Z1 : n0 ≤ T1.heap.size := Nat.le_trans Z0 Kq1.1
  have ne_b1_1_jt := AV.neExa f1_11 f1_0 (wq hw 15 rfl)
  have ne_b1_1_sn := AV.neExa f1_11 f1_2 (wq hw 8 rfl)
  have ne_b1_1_b1_0 := AV.neExa f1_11 f1_8 (wq hw 8 rfl)
  have N1 := Fr.app N0 N1q
  have hS1c : s.Since T1.vm T1.heap.size := State.Since.trans hST hS1 (Nat.le_trans hkT Kq1.1)
  replace hZ : Z.Warmed39 (s.setVm T1.vm).vm := State.Warmed39.trans (t := s.setVm vmT) hZ hS1.1
  replace hown : (s.setVm T1.vm).vm.findClass "com/example/bindery/bindery/compiler/JavaTypeSimpleNamePinLaw" = some m.cls := by rw [show (s.setVm T1.vm).vm = T1.vm from rfl, hS1.1.alike.findClass]; exact hown
  refine Go.via (fun t k => st1.trans k) ?_
  refine Vi (T1.setTop (mkF m 307 (LQ p0 p1 p2 p3 p4 p5 4 x0 x1 x2 x3 dA sA pk [sR jt, sR b1_0, sI 3, sI 0, .unset]) [(.ref b1_0)])) (fun tZ kZ => ?_) ?_
  · refine XS.astore X1.here hx rfl (hb hby at_223) rfl rfl (l' := (LQ p0 p1 p2 p3 p4 p5 4 x0 x1 x2 x3 dA sA pk [sR jt, sR b1_0, .unset, .unset, .unset])) rfl ?_
    refine XS.iconst X1.here hx rfl (hb hby at_225) ?_
    refine XS.istore X1.here hx rfl (hb hby at_226) rfl (l' := (LQ p0 p1 p2 p3 p4 p5 4 x0 x1 x2 x3 dA sA pk [sR jt, sR b1_0, sI (-1), .unset, .unset])) rfl ?_
    refine XS.iload X1.here hx rfl (hb hby at_228) rfl ?_
    refine XS.ifNo X1.here hx rfl (hb hby at_230) rfl ((if0 _ _).trans (tlt (by decide)).2.2.2) ?_
    refine XS.iload X1.here hx rfl (hb hby at_233) rfl ?_
    refine XS.bipush X1.here hx rfl (hb hby at_235) ?_
    have sg237 : Steps p.tables e below (T1.setTop (mkF m 243 (LQ p0 p1 p2 p3 p4 p5 4 x0 x1 x2 x3 dA sA pk [sR jt, sR b1_0, sI (if x0 = (46 : Int32) then (0 : Int32) else (-1 : Int32)), .unset, .unset]) [])) tZ → Steps p.tables e below (T1.setTop (mkF m 237 (LQ p0 p1 p2 p3 p4 p5 4 x0 x1 x2 x3 dA sA pk [sR jt, sR b1_0, sI (-1), .unset, .unset]) [(.int 46), (.int x0)])) tZ := by
      intro kj
      by_cases hc237 : x0 = (46 : Int32)
      · try simp only [if_pos hc237] at kj
        refine XS.icmpNo X1.here hx rfl (hb hby at_237) rfl (teq hc237).2 ?_
        refine XS.iconst X1.here hx rfl (hb hby at_240) ?_
        refine XS.istore X1.here hx rfl (hb hby at_241) rfl (l' := (LQ p0 p1 p2 p3 p4 p5 4 x0 x1 x2 x3 dA sA pk [sR jt, sR b1_0, sI 0, .unset, .unset])) rfl ?_
        exact kj
      · try simp only [if_neg hc237] at kj
        refine XS.icmpYes X1.here hx rfl (pc0 := 237) (pc' := 243) rfl (hb hby at_237) rfl (feq hc237).2 (by decide) (by decide) ?_
        exact kj
    refine sg237 ?_
    show Steps p.tables e below (T1.setTop (mkF m 243 (LQ p0 p1 p2 p3 p4 p5 4 x0 x1 x2 x3 dA sA pk [sR jt, sR b1_0, sI (if x0 = (46 : Int32) then (0 : Int32) else (-1 : Int32)), .unset, .unset]) [])) _
    refine XS.iload X1.here hx rfl (hb hby at_243) rfl ?_
    refine XS.iconst X1.here hx rfl (hb hby at_245) ?_
    refine XS.icmpNo X1.here hx rfl (hb hby at_246) rfl (tlt (by decide)).2.2.2 ?_
    refine XS.iload X1.here hx rfl (hb hby at_249) rfl ?_
    refine XS.bipush X1.here hx rfl (hb hby at_251) ?_
    have sg253 : Steps p.tables e below (T1.setTop (mkF m 259 (LQ p0 p1 p2 p3 p4 p5 4 x0 x1 x2 x3 dA sA pk [sR jt, sR b1_0, sI (if x1 = (46 : Int32) then (1 : Int32) else (if x0 = (46 : Int32) then (0 : Int32) else (-1 : Int32))), .unset, .unset]) [])) tZ → Steps p.tables e below (T1.setTop (mkF m 253 (LQ p0 p1 p2 p3 p4 p5 4 x0 x1 x2 x3 dA sA pk [sR jt, sR b1_0, sI (if x0 = (46 : Int32) then (0 : Int32) else (-1 : Int32)), .unset, .unset]) [(.int 46), (.int x1)])) tZ := by
      intro kj
      by_cases hc253 : x1 = (46 : Int32)
      · try simp only [if_pos hc253] at kj
        refine XS.icmpNo X1.here hx rfl (hb hby at_253) rfl (teq hc253).2 ?_
        refine XS.iconst X1.here hx rfl (hb hby at_256) ?_
        refine XS.istore X1.here hx rfl (hb hby at_257) rfl (l' := (LQ p0 p1 p2 p3 p4 p5 4 x0 x1 x2 x3 dA sA pk [sR jt, sR b1_0, sI 1, .unset, .unset])) rfl ?_
        exact kj
      · try simp only [if_neg hc253] at kj
        refine XS.icmpYes X1.here hx rfl (pc0 := 253) (pc' := 259) rfl (hb hby at_253) rfl (feq hc253).2 (by decide) (by decide) ?_
        exact kj
    refine sg253 ?_
    show Steps p.tables e below (T1.setTop (mkF m 259 (LQ p0 p1 p2 p3 p4 p5 4 x0 x1 x2 x3 dA sA pk [sR jt, sR b1_0, sI (if x1 = (46 : Int32) then (1 : Int32) else (if x0 = (46 : Int32) then (0 : Int32) else (-1 : Int32))), .unset, .unset]) [])) _
    refine XS.iload X1.here hx rfl (hb hby at_259) rfl ?_
    refine XS.iconst X1.here hx rfl (hb hby at_261) ?_
    refine XS.icmpNo X1.here hx rfl (hb hby at_262) rfl (tlt (by decide)).2.2.2 ?_
    refine XS.iload X1.here hx rfl (hb hby at_265) rfl ?_
    refine XS.bipush X1.here hx rfl (hb hby at_267) ?_
    have sg269 : Steps p.tables e below (T1.setTop (mkF m 275 (LQ p0 p1 p2 p3 p4 p5 4 x0 x1 x2 x3 dA sA pk [sR jt, sR b1_0, sI (if x2 = (46 : Int32) then (2 : Int32) else (if x1 = (46 : Int32) then (1 : Int32) else (if x0 = (46 : Int32) then (0 : Int32) else (-1 : Int32)))), .unset, .unset]) [])) tZ → Steps p.tables e below (T1.setTop (mkF m 269 (LQ p0 p1 p2 p3 p4 p5 4 x0 x1 x2 x3 dA sA pk [sR jt, sR b1_0, sI (if x1 = (46 : Int32) then (1 : Int32) else (if x0 = (46 : Int32) then (0 : Int32) else (-1 : Int32))), .unset, .unset]) [(.int 46), (.int x2)])) tZ := by
      intro kj
      by_cases hc269 : x2 = (46 : Int32)
      · try simp only [if_pos hc269] at kj
        refine XS.icmpNo X1.here hx rfl (hb hby at_269) rfl (teq hc269).2 ?_
        refine XS.iconst X1.here hx rfl (hb hby at_272) ?_
        refine XS.istore X1.here hx rfl (hb hby at_273) rfl (l' := (LQ p0 p1 p2 p3 p4 p5 4 x0 x1 x2 x3 dA sA pk [sR jt, sR b1_0, sI 2, .unset, .unset])) rfl ?_
        exact kj
      · try simp only [if_neg hc269] at kj
        refine XS.icmpYes X1.here hx rfl (pc0 := 269) (pc' := 275) rfl (hb hby at_269) rfl (feq hc269).2 (by decide) (by decide) ?_
        exact kj
    refine sg269 ?_
    show Steps p.tables e below (T1.setTop (mkF m 275 (LQ p0 p1 p2 p3 p4 p5 4 x0 x1 x2 x3 dA sA pk [sR jt, sR b1_0, sI (if x2 = (46 : Int32) then (2 : Int32) else (if x1 = (46 : Int32) then (1 : Int32) else (if x0 = (46 : Int32) then (0 : Int32) else (-1 : Int32)))), .unset, .unset]) [])) _
    refine XS.iload X1.here hx rfl (hb hby at_275) rfl ?_
    refine XS.iconst X1.here hx rfl (hb hby at_277) ?_
    refine XS.icmpNo X1.here hx rfl (hb hby at_278) rfl (tlt (by decide)).2.2.2 ?_
    refine XS.iload X1.here hx rfl (hb hby at_281) rfl ?_
    refine XS.bipush X1.here hx rfl (hb hby at_283) ?_
    refine XS.icmpNo X1.here hx rfl (hb hby at_285) rfl (teq hd3).2 ?_
    refine XS.iconst X1.here hx rfl (hb hby at_288) ?_
    refine XS.istore X1.here hx rfl (hb hby at_289) rfl (l' := (LQ p0 p1 p2 p3 p4 p5 4 x0 x1 x2 x3 dA sA pk [sR jt, sR b1_0, sI 3, .unset, .unset])) rfl ?_
    refine XS.iload X1.here hx rfl (hb hby at_291) rfl ?_
    refine XS.iload X1.here hx rfl (hb hby at_293) rfl ?_
    refine XS.isub X1.here hx rfl (hb hby at_295) rfl ?_
    refine XS.iconst X1.here hx rfl (hb hby at_296) ?_
    refine XS.isub X1.here hx rfl (hb hby at_297) rfl ?_
    refine XS.istore X1.here hx rfl (hb hby at_298) rfl (l' := (LQ p0 p1 p2 p3 p4 p5 4 x0 x1 x2 x3 dA sA pk [sR jt, sR b1_0, sI 3, sI 0, .unset])) rfl ?_
    refine XS.aload X1.here hx rfl (hb hby at_300) rfl rfl ?_
    refine XS.ifnullNo X1.here hx rfl (hb hby at_302) rfl ?_
    refine XS.aload X1.here hx rfl (hb hby at_305) rfl rfl ?_
    exact kZ
  obtain ⟨cq4, kq4, q4a, q4b, q4c⟩ := isOf hZ rfl f1_8
  obtain ⟨_, _, ⟨T4, L4, k4, n4⟩, -, X4, ⟨Lc4, hQ4, l4, y4, z4⟩, st4⟩ := X1.virtualBack hx (y := y11) (z := y11) hown (mvT hZ (wq hw 114 rfl)) (mvT hZ (wq hw 65 rfl)) (notFace_of_selects (args := #[]) (mvT hZ (wq hw 67 rfl))) (mvT hZ (wq hw 67 rfl)) (mvT hZ (wq hw 66 rfl)) (by decide) (backOf (W := 0) (rm11 l Z a0 hw [] b1_0 b1_1 0 (own_t []) cs T1.heap n0 Z1 f1_8 f1_9 f1_10 f1_11 f1_6 hcs) hZ (wq hw 68 rfl) (wq hw 7 rfl) (by decide) (by decide)) q4a q4c (g := (mkF m 307 (LQ p0 p1 p2 p3 p4 p5 4 x0 x1 x2 x3 dA sA pk [sR jt, sR b1_0, sI 3, sI 0, .unset]) [(.ref b1_0)])) rfl (by rw [hml]; rfl) (Steps.refl _) (argsL := []) (rest := []) (lenOf pd_9 rfl) rfl (leW rfl) (hb hby at_307) (fun _ _ => ⟨rfl, rfl, (by decide : 7 + 2 + 0 ≤ _), (by decide : 87 + 68 + 0 ≤ _)⟩)
  dsimp only [Pt.U, Pt.locs, Pt.cells, Pt.slots] at X4 l4 y4 z4 st4 hQ4
  subst l4 y4 z4
  obtain ⟨rfl, N4q, e4⟩ := hQ4
  have hv4 : (f11 b1_0 b1_1 0 (own_t []) cs) = (Int32.ofNat 0) := by unfold f11; exact own_sh0 _
  rw [hv4] at st4
  have N4 := Fr.app N1 N4q
  refine Go.via (fun t k => st4.trans k) ?_
  refine Vi (T4.setTop (mkF m 457 (LQ p0 p1 p2 p3 p4 p5 4 x0 x1 x2 x3 dA sA pk [sR jt, sR b1_0, sI 3, sI 0, sI 1]) [(.int 1)])) (fun tZ kZ => ?_) ?_
  · refine XS.iload X4.here hx rfl (hb hby at_310) rfl ?_
    refine XS.icmpYes X4.here hx rfl (pc0 := 312) (pc' := 317) rfl (hb hby at_312) rfl (teq (by decide)).1 (by decide) (by decide) ?_
    refine XS.iconst X4.here hx rfl (hb hby at_317) ?_
    refine XS.istore X4.here hx rfl (hb hby at_318) rfl (l' := (LQ p0 p1 p2 p3 p4 p5 4 x0 x1 x2 x3 dA sA pk [sR jt, sR b1_0, sI 3, sI 0, sI 1])) rfl ?_
    refine XS.iload X4.here hx rfl (hb hby at_320) rfl ?_
    refine XS.ifYes X4.here hx rfl (pc0 := 322) (pc' := 353) rfl (hb hby at_322) rfl ((if0 _ _).trans (flt (by decide)).2.2.2) (by decide) (by decide) ?_
    refine XS.iload X4.here hx rfl (hb hby at_353) rfl ?_
    refine XS.iconst X4.here hx rfl (hb hby at_355) ?_
    refine XS.icmpYes X4.here hx rfl (pc0 := 356) (pc' := 387) rfl (hb hby at_356) rfl (flt (by decide)).2.2.2 (by decide) (by decide) ?_
    refine XS.iload X4.here hx rfl (hb hby at_387) rfl ?_
    refine XS.iconst X4.here hx rfl (hb hby at_389) ?_
    refine XS.icmpYes X4.here hx rfl (pc0 := 390) (pc' := 421) rfl (hb hby at_390) rfl (flt (by decide)).2.2.2 (by decide) (by decide) ?_
    refine XS.iload X4.here hx rfl (hb hby at_421) rfl ?_
    refine XS.iconst X4.here hx rfl (hb hby at_423) ?_
    refine XS.icmpYes X4.here hx rfl (pc0 := 424) (pc' := 455) rfl (hb hby at_424) rfl (flt (by decide)).2.2.2 (by decide) (by decide) ?_
    refine XS.iload X4.here hx rfl (hb hby at_455) rfl ?_
    exact kZ
  refine Go.retNW (s := s) (vm₁ := T1.vm) X4 hx hS1c (by rw [e4]; exact (Nat.le_refl _)) hlk (t := .boolean) hret (by simp) (hb hby at_457) (by decide) (by decide) ?_
  exact ⟨rfl, N4⟩
theorem ta_4 (l : Launch) (Z : State) (a0 : Array Value) (hw : ∀ d ∈ tables_1, d.before a0 Z = true) {p : Program} {e : Env} {s : State} {m : MethodId} {args : Array Value} {below : List Frame} {meth : Method} {c : Code} {T0 : State} {locs0 : List Loc} {vmT : Vm} {h0 : Heap} {n0 kT : Nat} {x0 x1 x2 x3 cs : Int32} {sv : Value} {em dA : Addr} (hC : Com l Z a0 p e s m args below meth c T0 locs0 vmT 4 76 h0 n0 kT x0 x1 x2 x3 cs sv em dA) (p0 p1 p2 p3 p4 p5 : Int32) (sA pk : Addr) (VS : AV Z h0 sA .char 4 (fun k => .int ((up (up (up (up (fun _ => (0 : Int32)) (0 : Int32).toNatClampNeg (nar .char x0)) (1 : Int32).toNatClampNeg (nar .char x1)) (2 : Int32).toNatClampNeg (nar .char x2)) (3 : Int32).toNatClampNeg (nar .char x3)) k))) :
    Go p e below (fun o u => ∃ v L, o = .returned v ∧ Q0 n0 v u.heap L ∧ ReturnedEndW s o u L 32 4288) (T0.setTop (mkF m 198 (LQ p0 p1 p2 p3 p4 p5 4 x0 x1 x2 x3 dA sA pk [.unset, .unset, .unset, .unset, .unset]) [])) := by
  obtain ⟨X0, hx, hby, hml, hlk, hret, hZ, hown, wS, Z0, e0, N0, hST, hkT, hCH, hx0, hx1, hx2, hx3, hcs, hsv, S_CS, S_SV, S_EM, hold, VD⟩ := hC
  obtain ⟨T1, h1, X1, e1, E1, A1, D1, -, st1⟩ := newO X0 hx hZ hown (wq hw 14 rfl) (wq hw 15 rfl) (wq hw 16 rfl) e0 (g := (mkF m 198 (LQ p0 p1 p2 p3 p4 p5 4 x0 x1 x2 x3 dA sA pk [.unset, .unset, .unset, .unset, .unset]) [])) rfl (hb hby at_198) (by decide) (by decide)
  obtain ⟨b1, g1⟩ : ∃ z, z = h0.size := ⟨_, rfl⟩
  rw [← g1] at A1 D1 st1
  have g_b1 : n0 ≤ b1 := Nat.le_trans Z0 (Nat.le_of_eq g1.symm)
  have sz_b1 : h0.size ≤ b1 := Nat.le_trans ((Keep.refl h0 [])).1 (Nat.le_of_eq g1.symm)
  have ne_dA_b1 : dA ≠ b1 := Nat.ne_of_lt (Nat.lt_of_lt_of_le VD.lt (Nat.le_of_eq g1.symm))
  have ne_sA_b1 : sA ≠ b1 := Nat.ne_of_lt (Nat.lt_of_lt_of_le VS.lt (Nat.le_of_eq g1.symm))
  have Ac2 := CHr.ext E1 hCH
  have CR2c := CHr.trans (CHr.refl hCH) Ac2
  have c3_0 := hold.ext E1
  have c3_1 := S_CS.ext c3_0.2
  have c3_2 := S_SV.ext c3_0.2
  have c3_3 := S_EM.ext c3_0.2
  have c3_4 := VD.ext E1
  have c3_5 := VS.ext E1
  have K1 : Keep h0 h1 [] := (Keep.refl h0 []).ext E1
  have Z1 : n0 ≤ h1.size := Nat.le_trans Z0 E1.1
  have hk1 := Nat.le_trans hkT E1.1
  have Sf_b1 := Safe.ext E1 hCH (Safe.new (Nat.le_of_eq g1.symm))
  have F1_packageName : Fld Z h1 b1 "com/example/bindery/bindery/compiler/JavaType" "packageName" "Ljava/lang/String;" .null := D1 (Or.inr (wq hw 49 rfl)) (ty := (.object "java/lang/String")) (by decide)
  have F1_name : Fld Z h1 b1 "com/example/bindery/bindery/compiler/JavaType" "name" "Ljava/lang/String;" .null := D1 (Or.inr (wq hw 51 rfl)) (ty := (.object "java/lang/String")) (by decide)
  have F1_argument : Fld Z h1 b1 "com/example/bindery/bindery/compiler/JavaType" "argument" "Ljava/util/Optional;" .null := D1 (Or.inr (wq hw 53 rfl)) (ty := (.object "java/util/Optional")) (by decide)
  refine Go.via st1 ?_
  refine Vi (T1.setTop (mkF m 204 (LQ p0 p1 p2 p3 p4 p5 4 x0 x1 x2 x3 dA sA pk [.unset, .unset, .unset, .unset, .unset]) [(.ref pk), (.ref b1), (.ref b1)])) (fun tZ kZ => ?_) ?_
  · refine XS.dup X1.here hx rfl (hb hby at_201) rfl rfl ?_
    refine XS.aload X1.here hx rfl (hb hby at_202) rfl rfl ?_
    exact kZ
  obtain ⟨T4, h4, X4, e4, E4, A4, D4, -, st4⟩ := newO X1 hx hZ hown (wq hw 17 rfl) (wq hw 8 rfl) (wq hw 7 rfl) e1 (g := (mkF m 204 (LQ p0 p1 p2 p3 p4 p5 4 x0 x1 x2 x3 dA sA pk [.unset, .unset, .unset, .unset, .unset]) [(.ref pk), (.ref b1), (.ref b1)])) rfl (hb hby at_204) (by decide) (by decide)
  obtain ⟨b4, g4⟩ : ∃ z, z = h1.size := ⟨_, rfl⟩
  rw [← g4] at A4 D4 st4
  have g_b4 : n0 ≤ b4 := Nat.le_trans Z1 (Nat.le_of_eq g4.symm)
  have sz_b4 : h0.size ≤ b4 := Nat.le_trans (K1).1 (Nat.le_of_eq g4.symm)
  have ne_dA_b4 : dA ≠ b4 := Nat.ne_of_lt (Nat.lt_of_lt_of_le c3_4.lt (Nat.le_of_eq g4.symm))
  have ne_sA_b4 : sA ≠ b4 := Nat.ne_of_lt (Nat.lt_of_lt_of_le c3_5.lt (Nat.le_of_eq g4.symm))
  have ne_b1_b4 : b1 ≠ b4 := Nat.ne_of_lt (Nat.lt_of_lt_of_le A1.lt (Nat.le_of_eq g4.symm))
  have Ac5 := CHr.ext E4 Ac2.1
  have Sf5_0 := Ac5.safe A1.lt Sf_b1
  have CR5c := CHr.trans CR2c Ac5
  have c6_0 := c3_0.ext E4
  have c6_1 := S_CS.ext c6_0.2
  have c6_2 := S_SV.ext c6_0.2
  have c6_3 := S_EM.ext c6_0.2
  have c6_4 := c3_4.ext E4
  have c6_5 := c3_5.ext E4
  have c6_7 := A1.ext E4
  have c6_8 := F1_packageName.ext E4
  have c6_9 := F1_name.ext E4
  have c6_10 := F1_argument.ext E4
  have K4 : Keep h0 h4 [] := K1.ext E4
  have Z4 : n0 ≤ h4.size := Nat.le_trans Z1 E4.1
  have hk4 := Nat.le_trans hk1 E4.1
  have Sf_b4 := Safe.ext E4 Ac2.1 (Safe.new (Nat.le_of_eq g4.symm))
  have F4_value : Fld Z h4 b4 "java/lang/String" "value" "[B" .null := D4 (Or.inr (wq hw 10 rfl)) (ty := (.array .byte)) (by decide)
  have F4_coder : Fld Z h4 b4 "java/lang/String" "coder" "B" (.int 0) := D4 (Or.inr (wq hw 11 rfl)) (ty := .byte) (by decide)
  refine Go.via st4 ?_
  refine Vi (T4.setTop (mkF m 210 (LQ p0 p1 p2 p3 p4 p5 4 x0 x1 x2 x3 dA sA pk [.unset, .unset, .unset, .unset, .unset]) [(.ref sA), (.ref b4), (.ref b4), (.ref pk), (.ref b1), (.ref b1)])) (fun tZ kZ => ?_) ?_
  · refine XS.dup X4.here hx rfl (hb hby at_207) rfl rfl ?_
    refine XS.aload X4.here hx rfl (hb hby at_208) rfl rfl ?_
    exact kZ
  obtain ⟨_, _, ⟨T7, L7, k7, n7⟩, -, X7, ⟨Lc7, hQ7, l7, y7, z7⟩, st7⟩ := X4.specialBack hx (y := y2) rfl hown (mvT hZ (wq hw 18 rfl)) (mvT hZ (wq hw 19 rfl)) (mvT hZ (wq hw 20 rfl)) (by decide) (backOf (W := 4) (rm2n4 l Z a0 hw [] b4 sA (up (up (up (up (fun _ => (0 : Int32)) (0 : Int32).toNatClampNeg (nar .char x0)) (1 : Int32).toNatClampNeg (nar .char x1)) (2 : Int32).toNatClampNeg (nar .char x2)) (3 : Int32).toNatClampNeg (nar .char x3)) cs h4 n0 Z4 A4 F4_value F4_coder g_b4 c6_5 c6_1 ne_sA_b4 (own_hch hx0) (own_hch hx1) (own_hch hx2) (own_hch hx3) hcs) hZ (wq hw 20 rfl) (wq hw 7 rfl) (by decide) (by decide)) (g := (mkF m 210 (LQ p0 p1 p2 p3 p4 p5 4 x0 x1 x2 x3 dA sA pk [.unset, .unset, .unset, .unset, .unset]) [(.ref sA), (.ref b4), (.ref b4), (.ref pk), (.ref b1), (.ref b1)])) rfl (by rw [hml]; rfl) (Steps.refl _) (a := b4) (argsL := [(.ref sA)]) (rest := [(.ref b4), (.ref pk), (.ref b1), (.ref b1)]) (lenOf pd_1 rfl) rfl (leW rfl) (hb hby at_210) (fun _ _ => ⟨rfl, e4, (by decide : 4 + 1 + 1 + 1 ≤ _), (by decide : 76 + 3 + 4 + 4 ≤ _)⟩)
  dsimp only [Pt.U, Pt.locs, Pt.cells, Pt.slots] at X7 l7 y7 z7 st7 hQ7
  subst l7 y7 z7
  obtain ⟨b7_0, rfl, N7q, Kq7, hz_b7_0, f7_0, f7_1, f7_2, f7_3, f7_4, f7_5⟩ := hQ7
  have g_b7_0 : n0 ≤ b7_0 := Nat.le_trans Z4 hz_b7_0
  have sz_b7_0 : h0.size ≤ b7_0 := Nat.le_trans (K4).1 hz_b7_0
  have ne_dA_b7_0 : dA ≠ b7_0 := Nat.ne_of_lt (Nat.lt_of_lt_of_le c6_4.lt hz_b7_0)
  have ne_sA_b7_0 : sA ≠ b7_0 := Nat.ne_of_lt (Nat.lt_of_lt_of_le c6_5.lt hz_b7_0)
  have ne_b1_b7_0 : b1 ≠ b7_0 := Nat.ne_of_lt (Nat.lt_of_lt_of_le c6_7.lt hz_b7_0)
  have ne_b4_b7_0 : b4 ≠ b7_0 := Nat.ne_of_lt (Nat.lt_of_lt_of_le A4.lt hz_b7_0)
  have Ac8 := CHr.keep Kq7 (allS Sf_b4 all0) Ac5.1
  have Sf8_0 := Ac8.safe c6_7.lt Sf5_0
  have Sf8_1 := Ac8.safe A4.lt Sf_b4
  have CR8c := CHr.trans CR5c Ac8
  have c9_0 := c6_0.keep Kq7 (allS g_b4 all0)
  have c9_2 := S_SV.ext c9_0.2
  have c9_3 := S_EM.ext c9_0.2
  have c9_4 := c6_4.keep Kq7 (ninS ne_dA_b4 nin0)
  have c9_7 := c6_7.keep Kq7
  have c9_8 := c6_8.keep Kq7 (ninS ne_b1_b4 nin0)
  have c9_9 := c6_9.keep Kq7 (ninS ne_b1_b4 nin0)
  have c9_10 := c6_10.keep Kq7 (ninS ne_b1_b4 nin0)
  have K7 : Keep h0 T7.heap [] := K4.trans Kq7 (allS (Or.inr sz_b4) all0)
  have Z7 : n0 ≤ T7.heap.size := Nat.le_trans Z4 Kq7.1
  have hk7 := Nat.le_trans hk4 Kq7.1
  have N7 := Fr.app N0 N7q
  refine Go.via (fun t k => st7.trans k) ?_
  obtain ⟨fF, hfE⟩ : ∃ f : Nat → Int32, f = (up (up (up (up (fun _ => (0 : Int32)) (0 : Int32).toNatClampNeg (nar .byte (((up (up (up (up (fun _ => (0 : Int32)) (0 : Int32).toNatClampNeg (nar .char x0)) (1 : Int32).toNatClampNeg (nar .char x1)) (2 : Int32).toNatClampNeg (nar .char x2)) (3 : Int32).toNatClampNeg (nar .char x3)) (0 : Int32).toNatClampNeg).toInt8.toInt32))) (1 : Int32).toNatClampNeg (nar .byte (((up (up (up (up (fun _ => (0 : Int32)) (0 : Int32).toNatClampNeg (nar .char x0)) (1 : Int32).toNatClampNeg (nar .char x1)) (2 : Int32).toNatClampNeg (nar .char x2)) (3 : Int32).toNatClampNeg (nar .char x3)) (1 : Int32).toNatClampNeg).toInt8.toInt32))) (2 : Int32).toNatClampNeg (nar .byte (((up (up (up (up (fun _ => (0 : Int32)) (0 : Int32).toNatClampNeg (nar .char x0)) (1 : Int32).toNatClampNeg (nar .char x1)) (2 : Int32).toNatClampNeg (nar .char x2)) (3 : Int32).toNatClampNeg (nar .char x3)) (2 : Int32).toNatClampNeg).toInt8.toInt32))) (3 : Int32).toNatClampNeg (nar .byte (((up (up (up (up (fun _ => (0 : Int32)) (0 : Int32).toNatClampNeg (nar .char x0)) (1 : Int32).toNatClampNeg (nar .char x1)) (2 : Int32).toNatClampNeg (nar .char x2)) (3 : Int32).toNatClampNeg (nar .char x3)) (3 : Int32).toNatClampNeg).toInt8.toInt32))) := ⟨_, rfl⟩
  rw [← hfE] at f7_5
  have hfit : ∀ k, k < 4 → fits .byte (.int (fF k)) = true := by rw [hfE]; exact (fun k hk => by match k, hk with | 0, _ => exact fits_nar_byte _ | 1, _ => exact fits_nar_byte _ | 2, _ => exact fits_nar_byte _ | 3, _ => exact fits_nar_byte _ | k + 4, hk => exact absurd hk (by omega))
  have hf0 : fF (0 : Int32).toNatClampNeg = nar .byte ((nar .char x0).toInt8.toInt32) := by rw [hfE]; rfl
  have hf1 : fF (1 : Int32).toNatClampNeg = nar .byte ((nar .char x1).toInt8.toInt32) := by rw [hfE]; rfl
  have hf2 : fF (2 : Int32).toNatClampNeg = nar .byte ((nar .char x2).toInt8.toInt32) := by rw [hfE]; rfl
  have hf3 : fF (3 : Int32).toNatClampNeg = nar .byte ((nar .char x3).toInt8.toInt32) := by rw [hfE]; rfl
  obtain ⟨_, _, ⟨T10, L10, k10, n10⟩, -, X10, ⟨Lc10, hQ10, l10, y10, z10⟩, st10⟩ := X7.specialBack hx (y := y5) rfl hown (mvT hZ (wq hw 31 rfl)) (mvT hZ (wq hw 32 rfl)) (mvT hZ (wq hw 33 rfl)) (by decide) (backOf (W := 1) (rm5 l Z a0 hw [] b1 pk b4 em T7.heap n0 Z7 c9_7 c9_8 c9_9 c9_10 g_b1 c9_3) hZ (wq hw 33 rfl) (wq hw 16 rfl) (by decide) (by decide)) (g := (mkF m 213 (LQ p0 p1 p2 p3 p4 p5 4 x0 x1 x2 x3 dA sA pk [.unset, .unset, .unset, .unset, .unset]) [(.ref b4), (.ref pk), (.ref b1), (.ref b1)])) rfl (by rw [hml]; rfl) (Steps.refl _) (a := b1) (argsL := [(.ref pk), (.ref b4)]) (rest := [(.ref b1)]) (lenOf pd_4 rfl) rfl (leW rfl) (hb hby at_213) (fun _ _ => ⟨rfl, rfl, (by decide : 4 + 1 + 1 + 1 + 0 ≤ _), (by decide : 76 + 3 + 4 + 4 + 0 ≤ _)⟩)
  dsimp only [Pt.U, Pt.locs, Pt.cells, Pt.slots] at X10 l10 y10 z10 st10 hQ10
  subst l10 y10 z10
  obtain ⟨rfl, N10q, Kq10, f10_0, f10_1, f10_2, f10_3, f10_4⟩ := hQ10
  have Ac11 := CHr.keep Kq10 (allS Sf8_0 all0) Ac8.1
  have Sf11_0 := Ac11.safe c9_7.lt Sf8_0
  have Sf11_1 := Ac11.safe f7_0.lt Sf8_1
  have CR11c := CHr.trans CR8c Ac11
  have c12_0 := c9_0.keep Kq10 (allS g_b1 all0)
  have c12_1 := S_CS.ext c12_0.2
  have c12_2 := S_SV.ext c12_0.2
  have c12_4 := c9_4.keep Kq10 (ninS ne_dA_b1 nin0)
  have c12_11 := f7_0.keep Kq10
  have c12_12 := f7_1.keep Kq10 (ninS (Ne.symm ne_b1_b4) nin0)
  have c12_13 := f7_2.keep Kq10 (ninS (Ne.symm ne_b1_b4) nin0)
  have c12_14 := f7_5.keep Kq10 (ninS (Ne.symm ne_b1_b7_0) nin0)
  have K10 : Keep h0 T10.heap [] := K7.trans Kq10 (allS (Or.inr sz_b1) all0)
  have Z10 : n0 ≤ T10.heap.size := Nat.le_trans Z7 Kq10.1
  have hk10 := Nat.le_trans hk7 Kq10.1
  have N10 := Fr.app N7 N10q
  refine Go.via (fun t k => st10.trans k) ?_
  refine Vi (T10.setTop (mkF m 218 (LQ p0 p1 p2 p3 p4 p5 4 x0 x1 x2 x3 dA sA pk [sR b1, .unset, .unset, .unset, .unset]) [])) (fun tZ kZ => ?_) ?_
  · refine XS.astore X10.here hx rfl (hb hby at_216) rfl rfl (l' := (LQ p0 p1 p2 p3 p4 p5 4 x0 x1 x2 x3 dA sA pk [sR b1, .unset, .unset, .unset, .unset])) rfl ?_
    exact kZ
  by_cases hd3 : x3 = 46
  · exact tb_4_4 l Z a0 hw (s := s) (vmT := vmT) ⟨X10, hx, hby, hml, hlk, hret, hZ, hown, wS, Z10, rfl, N10, hST, hk10, Ac11.1, hx0, hx1, hx2, hx3, hcs, hsv, S_CS, S_SV, S_EM, c12_0, c12_4⟩ p0 p1 p2 p3 p4 p5 sA pk b1 b4 b7_0 fF f10_0 f10_2 c12_11 c12_13 c12_12 c12_14 hfit hf0 hf1 hf2 hf3 hd3
  · skip
    by_cases hd2 : x2 = 46
    · exact tb_4_3 l Z a0 hw (s := s) (vmT := vmT) ⟨X10, hx, hby, hml, hlk, hret, hZ, hown, wS, Z10, rfl, N10, hST, hk10, Ac11.1, hx0, hx1, hx2, hx3, hcs, hsv, S_CS, S_SV, S_EM, c12_0, c12_4⟩ p0 p1 p2 p3 p4 p5 sA pk b1 b4 b7_0 fF f10_0 f10_2 c12_11 c12_13 c12_12 c12_14 hfit hf0 hf1 hf2 hf3 hd3 hd2
    · skip
      by_cases hd1 : x1 = 46
      · exact tb_4_2 l Z a0 hw (s := s) (vmT := vmT) ⟨X10, hx, hby, hml, hlk, hret, hZ, hown, wS, Z10, rfl, N10, hST, hk10, Ac11.1, hx0, hx1, hx2, hx3, hcs, hsv, S_CS, S_SV, S_EM, c12_0, c12_4⟩ p0 p1 p2 p3 p4 p5 sA pk b1 b4 b7_0 fF f10_0 f10_2 c12_11 c12_13 c12_12 c12_14 hfit hf0 hf1 hf2 hf3 hd3 hd2 hd1
      · skip
        by_cases hd0 : x0 = 46
        · exact tb_4_1 l Z a0 hw (s := s) (vmT := vmT) ⟨X10, hx, hby, hml, hlk, hret, hZ, hown, wS, Z10, rfl, N10, hST, hk10, Ac11.1, hx0, hx1, hx2, hx3, hcs, hsv, S_CS, S_SV, S_EM, c12_0, c12_4⟩ p0 p1 p2 p3 p4 p5 sA pk b1 b4 b7_0 fF f10_0 f10_2 c12_11 c12_13 c12_12 c12_14 hfit hf0 hf1 hf2 hf3 hd3 hd2 hd1 hd0
        · skip
          exact tb_4_0 l Z a0 hw (s := s) (vmT := vmT) ⟨X10, hx, hby, hml, hlk, hret, hZ, hown, wS, Z10, rfl, N10, hST, hk10, Ac11.1, hx0, hx1, hx2, hx3, hcs, hsv, S_CS, S_SV, S_EM, c12_0, c12_4⟩ p0 p1 p2 p3 p4 p5 sA pk b1 b4 b7_0 fF f10_0 f10_2 c12_11 c12_13 c12_12 c12_14 hfit hf0 hf1 hf2 hf3 hd3 hd2 hd1 hd0
theorem pd_0 : parseMethodDescriptor "(III)C" = some ⟨[.int, .int, .int], some .char⟩ := by decide +kernel
theorem ef_0_aaaaaa (m : MethodId) (x0 : Int32) (x1 : Int32) (x2 : Int32) (x3 : Int32) (x4 : Int32) (x5 : Int32) : entryFrame m #[(.int x0), (.int x1), (.int x2), (.int x3), (.int x4), (.int x5)] maxLocals = mkF m 0 #[.val (.int x0), .val (.int x1), .val (.int x2), .val (.int x3), .val (.int x4), .val (.int x5), .unset, .unset, .unset, .unset, .unset, .unset, .unset, .unset, .unset, .unset, .unset, .unset, .unset] [] := by first | (simp [entryFrame, mkF, argsToLocals, Value.category, maxLocals]; done) | rfl
theorem rm0 (l : Launch) (Z : State) (a0 : Array Value) (hw : ∀ d ∈ tables_1, d.before a0 Z = true) (ws : List Jvm.Cond) (p0 : Int32) (p1 : Int32) (p2 : Int32) (p3 : Int32) (p4 : Int32) (p5 : Int32) (cs : Int32) (sv : Value) (em : Addr) (h0 : Heap) (n0 : Nat) (Z0 : n0 ≤ h0.size) (ha0 : Sta Z Z.heap "java/lang/String" "COMPACT_STRINGS" "Z" (.int cs)) (ha1 : Sta Z Z.heap "jdk/internal/util/Preconditions" "SIOOBE_FORMATTER" "Ljava/util/function/BiFunction;" sv) (ha2 : Sta Z Z.heap "java/util/Optional" "EMPTY" "Ljava/util/Optional;" (.ref em)) (ha3 : Old Z n0 h0) (hcs : ¬ cs = 0) (hsv : sv.isRef = true) :
    MetFree l x (head1 (Jvm.Cond.code x code maxLocals ret :: ws) room_1) (fun a U => a = #[(.int p0), (.int p1), (.int p2), (.int p3), (.int p4), (.int p5)] ∧ Z.Warmed39 U.vm ∧ U.heap = h0 ∧ CHv Z own_EL U.vm h0) (fun _ _ _ _ _ => True) (fun _ U o U' => ∃ v L, o = .returned v ∧ Q0 n0 v U'.heap L ∧ ReturnedEndW U o U' L 32 4288) := by
  refine MetFree.of_bodySF (plainFor_of_name pn_6) hisR ?_
  intro p e s m args below meth c s₁ Bd hml0 hP hK
  obtain ⟨rfl, hZ, hh, hCH⟩ := hP
  have hx := Bd.exec
  have hby := Bd.bytes
  have hml : c.maxLocals = 19 := hml0
  have hown : s.vm.findClass "com/example/bindery/bindery/compiler/JavaTypeSimpleNamePinLaw" = some m.cls := findClass_of_methodNamed Bd.named
  have X0 : Stand p l e room_1 s m #[(.int p0), (.int p1), (.int p2), (.int p3), (.int p4), (.int p5)] below meth c s₁ [] 0 0 := Stand.of_body Bd
  have e0 : s₁.heap = h0 := by rw [← hh, Bd.state]; rfl
  have N0 := Fr.nil n0
  refine Go.into (P := fun oo uu => ∃ v L, oo = .returned v ∧ Q0 n0 v uu.heap L ∧ ReturnedEndW s oo uu L 32 4288) (ef_0_aaaaaa m p0 p1 p2 p3 p4 p5) ?_
  show Go p e below _ (s₁.setTop (mkF m 0 #[sI p0, sI p1, sI p2, sI p3, sI p4, sI p5, .unset, .unset, .unset, .unset, .unset, .unset, .unset, .unset, .unset, .unset, .unset, .unset, .unset] []))
  have hS0 : s.Since s.vm 0 := (State.WarmedH.refl s).since 0
  have wS : ∀ a ∈ Bundle.stringAtoms, a.before a0 Z = true := by
    intro d hd
    simp only [Bundle.stringAtoms, List.mem_cons, List.not_mem_nil, or_false] at hd
    rcases hd with rfl | rfl | rfl | rfl | rfl | rfl | rfl
    · exact (wq hw 7 rfl)
    · exact (wq hw 8 rfl)
    · exact (wq hw 9 rfl)
    · exact (wq hw 10 rfl)
    · exact (wq hw 11 rfl)
    · exact (wq hw 12 rfl)
    · exact (wq hw 13 rfl)
  refine Vi (s₁.setTop (mkF m 12 #[sI p0, sI p1, sI p2, sI p3, sI p4, sI p5, sI ((p0 &&& (2147483647 : Int32)) % (5 : Int32)), .unset, .unset, .unset, .unset, .unset, .unset, .unset, .unset, .unset, .unset, .unset, .unset] [(.int 0), (.int p5), (.int p1)])) (fun tZ kZ => ?_) ?_
  · refine XS.iloadN X0.here hx rfl (hb hby at_0) rfl ?_
    refine X0.ldcInt hx hown (mvT hZ (wq hw 0 rfl)) (g := (mkF m 1 #[sI p0, sI p1, sI p2, sI p3, sI p4, sI p5, .unset, .unset, .unset, .unset, .unset, .unset, .unset, .unset, .unset, .unset, .unset, .unset, .unset] [(.int p0)])) rfl (hb hby at_1) _ ?_
    refine XS.iand X0.here hx rfl (hb hby at_3) rfl ?_
    refine XS.iconst X0.here hx rfl (hb hby at_4) ?_
    refine iremM X0 hx rfl (hb hby at_5) rfl (by decide) ?_
    refine XS.istore X0.here hx rfl (hb hby at_6) rfl (l' := #[sI p0, sI p1, sI p2, sI p3, sI p4, sI p5, sI ((p0 &&& (2147483647 : Int32)) % (5 : Int32)), .unset, .unset, .unset, .unset, .unset, .unset, .unset, .unset, .unset, .unset, .unset, .unset]) rfl ?_
    refine XS.iloadN X0.here hx rfl (hb hby at_8) rfl ?_
    refine XS.iload X0.here hx rfl (hb hby at_9) rfl ?_
    refine XS.iconst X0.here hx rfl (hb hby at_11) ?_
    exact kZ
  obtain ⟨_, _, ⟨T1, L1, k1, n1⟩, -, X1, ⟨Lc1, hQ1, l1, y1, z1⟩, st1⟩ := Jvm.LawKit.callS X0 hx (y := y1) hown (mvT hZ (wq hw 1 rfl)) (mvT hZ (wq hw 2 rfl)) (mvT hZ (wq hw 3 rfl)) (mvT hZ (wq hw 4 rfl)) (by decide) (backOf (W := 0) (rm1 l Z a0 hw [] p1 p5 (0 : Int32) h0 n0 Z0 ) hZ (wq hw 4 rfl) (wq hw 3 rfl) (by decide) (by decide)) (g := (mkF m 12 #[sI p0, sI p1, sI p2, sI p3, sI p4, sI p5, sI ((p0 &&& (2147483647 : Int32)) % (5 : Int32)), .unset, .unset, .unset, .unset, .unset, .unset, .unset, .unset, .unset, .unset, .unset, .unset] [(.int 0), (.int p5), (.int p1)])) rfl (by rw [hml]; rfl) (argsL := [(.int p1), (.int p5), (.int 0)]) (rest := []) (lenOf pd_0 rfl) rfl (leW rfl) (hb hby at_12) (fun _ _ => ⟨rfl, e0, (by decide : 0 + 0 ≤ _), (by decide : 0 + 0 ≤ _)⟩)
  dsimp only [Pt.U, Pt.locs, Pt.cells, Pt.slots] at X1 l1 y1 z1 st1 hQ1
  subst l1 y1 z1
  obtain ⟨rfl, N1q, e1⟩ := hQ1
  have N1 := Fr.app N0 N1q
  refine Go.via st1 ?_
  refine Vi (T1.setTop (mkF m 21 #[sI p0, sI p1, sI p2, sI p3, sI p4, sI p5, sI ((p0 &&& (2147483647 : Int32)) % (5 : Int32)), sI (f1 p1 p5 (0 : Int32)), .unset, .unset, .unset, .unset, .unset, .unset, .unset, .unset, .unset, .unset, .unset] [(.int 1), (.int p5), (.int p2)])) (fun tZ kZ => ?_) ?_
  · refine XS.istore X1.here hx rfl (hb hby at_15) rfl (l' := #[sI p0, sI p1, sI p2, sI p3, sI p4, sI p5, sI ((p0 &&& (2147483647 : Int32)) % (5 : Int32)), sI (f1 p1 p5 (0 : Int32)), .unset, .unset, .unset, .unset, .unset, .unset, .unset, .unset, .unset, .unset, .unset]) rfl ?_
    refine XS.iloadN X1.here hx rfl (hb hby at_17) rfl ?_
    refine XS.iload X1.here hx rfl (hb hby at_18) rfl ?_
    refine XS.iconst X1.here hx rfl (hb hby at_20) ?_
    exact kZ
  obtain ⟨_, _, ⟨T2, L2, k2, n2⟩, -, X2, ⟨Lc2, hQ2, l2, y2, z2⟩, st2⟩ := Jvm.LawKit.callS X1 hx (y := y1) hown (mvT hZ (wq hw 1 rfl)) (mvT hZ (wq hw 2 rfl)) (mvT hZ (wq hw 3 rfl)) (mvT hZ (wq hw 4 rfl)) (by decide) (backOf (W := 0) (rm1 l Z a0 hw [] p2 p5 (1 : Int32) h0 n0 Z0 ) hZ (wq hw 4 rfl) (wq hw 3 rfl) (by decide) (by decide)) (g := (mkF m 21 #[sI p0, sI p1, sI p2, sI p3, sI p4, sI p5, sI ((p0 &&& (2147483647 : Int32)) % (5 : Int32)), sI (f1 p1 p5 (0 : Int32)), .unset, .unset, .unset, .unset, .unset, .unset, .unset, .unset, .unset, .unset, .unset] [(.int 1), (.int p5), (.int p2)])) rfl (by rw [hml]; rfl) (argsL := [(.int p2), (.int p5), (.int 1)]) (rest := []) (lenOf pd_0 rfl) rfl (leW rfl) (hb hby at_21) (fun _ _ => ⟨rfl, e1, (by decide : 0 + 0 + 0 ≤ _), (by decide : 0 + 0 + 0 ≤ _)⟩)
  dsimp only [Pt.U, Pt.locs, Pt.cells, Pt.slots] at X2 l2 y2 z2 st2 hQ2
  subst l2 y2 z2
  obtain ⟨rfl, N2q, e2⟩ := hQ2
  have N2 := Fr.app N1 N2q
  refine Go.via st2 ?_
  refine Vi (T2.setTop (mkF m 30 #[sI p0, sI p1, sI p2, sI p3, sI p4, sI p5, sI ((p0 &&& (2147483647 : Int32)) % (5 : Int32)), sI (f1 p1 p5 (0 : Int32)), sI (f1 p2 p5 (1 : Int32)), .unset, .unset, .unset, .unset, .unset, .unset, .unset, .unset, .unset, .unset] [(.int 2), (.int p5), (.int p3)])) (fun tZ kZ => ?_) ?_
  · refine XS.istore X2.here hx rfl (hb hby at_24) rfl (l' := #[sI p0, sI p1, sI p2, sI p3, sI p4, sI p5, sI ((p0 &&& (2147483647 : Int32)) % (5 : Int32)), sI (f1 p1 p5 (0 : Int32)), sI (f1 p2 p5 (1 : Int32)), .unset, .unset, .unset, .unset, .unset, .unset, .unset, .unset, .unset, .unset]) rfl ?_
    refine XS.iloadN X2.here hx rfl (hb hby at_26) rfl ?_
    refine XS.iload X2.here hx rfl (hb hby at_27) rfl ?_
    refine XS.iconst X2.here hx rfl (hb hby at_29) ?_
    exact kZ
  obtain ⟨_, _, ⟨T3, L3, k3, n3⟩, -, X3, ⟨Lc3, hQ3, l3, y3, z3⟩, st3⟩ := Jvm.LawKit.callS X2 hx (y := y1) hown (mvT hZ (wq hw 1 rfl)) (mvT hZ (wq hw 2 rfl)) (mvT hZ (wq hw 3 rfl)) (mvT hZ (wq hw 4 rfl)) (by decide) (backOf (W := 0) (rm1 l Z a0 hw [] p3 p5 (2 : Int32) h0 n0 Z0 ) hZ (wq hw 4 rfl) (wq hw 3 rfl) (by decide) (by decide)) (g := (mkF m 30 #[sI p0, sI p1, sI p2, sI p3, sI p4, sI p5, sI ((p0 &&& (2147483647 : Int32)) % (5 : Int32)), sI (f1 p1 p5 (0 : Int32)), sI (f1 p2 p5 (1 : Int32)), .unset, .unset, .unset, .unset, .unset, .unset, .unset, .unset, .unset, .unset] [(.int 2), (.int p5), (.int p3)])) rfl (by rw [hml]; rfl) (argsL := [(.int p3), (.int p5), (.int 2)]) (rest := []) (lenOf pd_0 rfl) rfl (leW rfl) (hb hby at_30) (fun _ _ => ⟨rfl, e2, (by decide : 0 + 0 + 0 + 0 ≤ _), (by decide : 0 + 0 + 0 + 0 ≤ _)⟩)
  dsimp only [Pt.U, Pt.locs, Pt.cells, Pt.slots] at X3 l3 y3 z3 st3 hQ3
  subst l3 y3 z3
  obtain ⟨rfl, N3q, e3⟩ := hQ3
  have N3 := Fr.app N2 N3q
  refine Go.via st3 ?_
  refine Vi (T3.setTop (mkF m 40 #[sI p0, sI p1, sI p2, sI p3, sI p4, sI p5, sI ((p0 &&& (2147483647 : Int32)) % (5 : Int32)), sI (f1 p1 p5 (0 : Int32)), sI (f1 p2 p5 (1 : Int32)), sI (f1 p3 p5 (2 : Int32)), .unset, .unset, .unset, .unset, .unset, .unset, .unset, .unset, .unset] [(.int 3), (.int p5), (.int p4)])) (fun tZ kZ => ?_) ?_
  · refine XS.istore X3.here hx rfl (hb hby at_33) rfl (l' := #[sI p0, sI p1, sI p2, sI p3, sI p4, sI p5, sI ((p0 &&& (2147483647 : Int32)) % (5 : Int32)), sI (f1 p1 p5 (0 : Int32)), sI (f1 p2 p5 (1 : Int32)), sI (f1 p3 p5 (2 : Int32)), .unset, .unset, .unset, .unset, .unset, .unset, .unset, .unset, .unset]) rfl ?_
    refine XS.iload X3.here hx rfl (hb hby at_35) rfl ?_
    refine XS.iload X3.here hx rfl (hb hby at_37) rfl ?_
    refine XS.iconst X3.here hx rfl (hb hby at_39) ?_
    exact kZ
  obtain ⟨_, _, ⟨T4, L4, k4, n4⟩, -, X4, ⟨Lc4, hQ4, l4, y4, z4⟩, st4⟩ := Jvm.LawKit.callS X3 hx (y := y1) hown (mvT hZ (wq hw 1 rfl)) (mvT hZ (wq hw 2 rfl)) (mvT hZ (wq hw 3 rfl)) (mvT hZ (wq hw 4 rfl)) (by decide) (backOf (W := 0) (rm1 l Z a0 hw [] p4 p5 (3 : Int32) h0 n0 Z0 ) hZ (wq hw 4 rfl) (wq hw 3 rfl) (by decide) (by decide)) (g := (mkF m 40 #[sI p0, sI p1, sI p2, sI p3, sI p4, sI p5, sI ((p0 &&& (2147483647 : Int32)) % (5 : Int32)), sI (f1 p1 p5 (0 : Int32)), sI (f1 p2 p5 (1 : Int32)), sI (f1 p3 p5 (2 : Int32)), .unset, .unset, .unset, .unset, .unset, .unset, .unset, .unset, .unset] [(.int 3), (.int p5), (.int p4)])) rfl (by rw [hml]; rfl) (argsL := [(.int p4), (.int p5), (.int 3)]) (rest := []) (lenOf pd_0 rfl) rfl (leW rfl) (hb hby at_40) (fun _ _ => ⟨rfl, e3, (by decide : 0 + 0 + 0 + 0 + 0 ≤ _), (by decide : 0 + 0 + 0 + 0 + 0 ≤ _)⟩)
  dsimp only [Pt.U, Pt.locs, Pt.cells, Pt.slots] at X4 l4 y4 z4 st4 hQ4
  subst l4 y4 z4
  obtain ⟨rfl, N4q, e4⟩ := hQ4
  have N4 := Fr.app N3 N4q
  refine Go.via st4 ?_
  refine Vi (T4.setTop (mkF m 45 #[sI p0, sI p1, sI p2, sI p3, sI p4, sI p5, sI ((p0 &&& (2147483647 : Int32)) % (5 : Int32)), sI (f1 p1 p5 (0 : Int32)), sI (f1 p2 p5 (1 : Int32)), sI (f1 p3 p5 (2 : Int32)), sI (f1 p4 p5 (3 : Int32)), .unset, .unset, .unset, .unset, .unset, .unset, .unset, .unset] [])) (fun tZ kZ => ?_) ?_
  · refine XS.istore X4.here hx rfl (hb hby at_43) rfl (l' := #[sI p0, sI p1, sI p2, sI p3, sI p4, sI p5, sI ((p0 &&& (2147483647 : Int32)) % (5 : Int32)), sI (f1 p1 p5 (0 : Int32)), sI (f1 p2 p5 (1 : Int32)), sI (f1 p3 p5 (2 : Int32)), sI (f1 p4 p5 (3 : Int32)), .unset, .unset, .unset, .unset, .unset, .unset, .unset, .unset]) rfl ?_
    exact kZ
  obtain ⟨x0, hx0, ex0⟩ : ∃ z, own_ch z ∧ (f1 p1 p5 (0 : Int32)) = z := ⟨_, own_pick _ _ _, rfl⟩
  rw [ex0]
  obtain ⟨x1, hx1, ex1⟩ : ∃ z, own_ch z ∧ (f1 p2 p5 (1 : Int32)) = z := ⟨_, own_pick _ _ _, rfl⟩
  rw [ex1]
  obtain ⟨x2, hx2, ex2⟩ : ∃ z, own_ch z ∧ (f1 p3 p5 (2 : Int32)) = z := ⟨_, own_pick _ _ _, rfl⟩
  rw [ex2]
  obtain ⟨x3, hx3, ex3⟩ : ∃ z, own_ch z ∧ (f1 p4 p5 (3 : Int32)) = z := ⟨_, own_pick _ _ _, rfl⟩
  rw [ex3]
  show Go p e below _ (T4.setTop (mkF m 45 #[sI p0, sI p1, sI p2, sI p3, sI p4, sI p5, sI ((p0 &&& (2147483647 : Int32)) % (5 : Int32)), sI x0, sI x1, sI x2, sI x3, .unset, .unset, .unset, .unset, .unset, .unset, .unset, .unset] []))
  refine Vi (T4.setTop (mkF m 46 #[sI p0, sI p1, sI p2, sI p3, sI p4, sI p5, sI ((p0 &&& (2147483647 : Int32)) % (5 : Int32)), sI x0, sI x1, sI x2, sI x3, .unset, .unset, .unset, .unset, .unset, .unset, .unset, .unset] [(.int 4)])) (fun tZ kZ => ?_) ?_
  · refine XS.iconst X4.here hx rfl (hb hby at_45) ?_
    exact kZ
  obtain ⟨T5, h5, k5, X5, e5, E5, A5, B5, st5⟩ := newPE X4 hx hZ (wq hw 5 rfl) e4 (g := (mkF m 46 #[sI p0, sI p1, sI p2, sI p3, sI p4, sI p5, sI ((p0 &&& (2147483647 : Int32)) % (5 : Int32)), sI x0, sI x1, sI x2, sI x3, .unset, .unset, .unset, .unset, .unset, .unset, .unset, .unset] [(.int 4)])) rfl (hb hby at_46) rfl (by decide) (cap := 4) (by decide) (by decide) (by decide) (by decide) (ad := "[C") rfl
  obtain ⟨b5, g5⟩ : ∃ z, z = h0.size := ⟨_, rfl⟩
  rw [← g5] at A5 B5 st5
  have g_b5 : n0 ≤ b5 := Nat.le_trans Z0 (Nat.le_of_eq g5.symm)
  have sz_b5 : h0.size ≤ b5 := Nat.le_trans ((Keep.refl h0 [])).1 (Nat.le_of_eq g5.symm)
  have Ac6 := CHr.ext E5 hCH
  have CR6c := CHr.trans (CHr.refl hCH) Ac6
  have c7_3 := ha3.ext E5
  have c7_0 := ha0.ext c7_3.2
  have c7_1 := ha1.ext c7_3.2
  have c7_2 := ha2.ext c7_3.2
  have K5 : Keep h0 h5 [] := (Keep.refl h0 []).ext E5
  have Z5 : n0 ≤ h5.size := Nat.le_trans Z0 E5.1
  have Sf_b5 := Safe.ext E5 hCH (Safe.new (Nat.le_of_eq g5.symm))
  have V5 : AV Z h5 b5 .char 4 (fun k => .int ((fun _ => (0 : Int32)) k)) := by have q := AV.new A5; exact q
  refine Go.via st5 ?_
  refine Vi (T5.setTop (mkF m 52 #[sI p0, sI p1, sI p2, sI p3, sI p4, sI p5, sI ((p0 &&& (2147483647 : Int32)) % (5 : Int32)), sI x0, sI x1, sI x2, sI x3, .unset, .unset, .unset, .unset, .unset, .unset, .unset, .unset] [(.int x0), (.int 0), (.ref b5), (.ref b5)])) (fun tZ kZ => ?_) ?_
  · refine XS.dup X5.here hx rfl (hb hby at_48) rfl rfl ?_
    refine XS.iconst X5.here hx rfl (hb hby at_49) ?_
    refine XS.iload X5.here hx rfl (hb hby at_50) rfl ?_
    exact kZ
  obtain ⟨T8, h8, X8, e8, W8, V8, st8⟩ := AV.castore V5 X5 hx hZ e5 (j := (0 : Int32)) (by decide) (Ls := #[sI p0, sI p1, sI p2, sI p3, sI p4, sI p5, sI ((p0 &&& (2147483647 : Int32)) % (5 : Int32)), sI x0, sI x1, sI x2, sI x3, .unset, .unset, .unset, .unset, .unset, .unset, .unset, .unset]) (rest := [(.ref b5)]) (hb hby at_52) (x := x0)
  have N8 := Fr.snoc X8 N4 g_b5
  have Ac9 := CHr.wr W8 Sf_b5 Ac6.1
  have Sf9_0 := Ac9.safe V5.lt Sf_b5
  have CR9c := CHr.trans CR6c Ac9
  have c10_3 := c7_3.wr W8 g_b5
  have c10_0 := ha0.ext c10_3.2
  have c10_1 := ha1.ext c10_3.2
  have c10_2 := ha2.ext c10_3.2
  have K8 : Keep h0 h8 [] := K5.wr W8 (Or.inr sz_b5)
  have Z8 : n0 ≤ h8.size := Nat.le_trans Z5 (Keep.of_wr W8).1
  refine Go.via st8 ?_
  refine Vi (T8.setTop (mkF m 57 #[sI p0, sI p1, sI p2, sI p3, sI p4, sI p5, sI ((p0 &&& (2147483647 : Int32)) % (5 : Int32)), sI x0, sI x1, sI x2, sI x3, .unset, .unset, .unset, .unset, .unset, .unset, .unset, .unset] [(.int x1), (.int 1), (.ref b5), (.ref b5)])) (fun tZ kZ => ?_) ?_
  · refine XS.dup X8.here hx rfl (hb hby at_53) rfl rfl ?_
    refine XS.iconst X8.here hx rfl (hb hby at_54) ?_
    refine XS.iload X8.here hx rfl (hb hby at_55) rfl ?_
    exact kZ
  obtain ⟨T11, h11, X11, e11, W11, V11, st11⟩ := AV.castore V8 X8 hx hZ e8 (j := (1 : Int32)) (by decide) (Ls := #[sI p0, sI p1, sI p2, sI p3, sI p4, sI p5, sI ((p0 &&& (2147483647 : Int32)) % (5 : Int32)), sI x0, sI x1, sI x2, sI x3, .unset, .unset, .unset, .unset, .unset, .unset, .unset, .unset]) (rest := [(.ref b5)]) (hb hby at_57) (x := x1)
  have N11 := Fr.snoc X11 N8 g_b5
  have Ac12 := CHr.wr W11 Sf9_0 Ac9.1
  have Sf12_0 := Ac12.safe V8.lt Sf9_0
  have CR12c := CHr.trans CR9c Ac12
  have c13_3 := c10_3.wr W11 g_b5
  have c13_0 := ha0.ext c13_3.2
  have c13_1 := ha1.ext c13_3.2
  have c13_2 := ha2.ext c13_3.2
  have K11 : Keep h0 h11 [] := K8.wr W11 (Or.inr sz_b5)
  have Z11 : n0 ≤ h11.size := Nat.le_trans Z8 (Keep.of_wr W11).1
  refine Go.via st11 ?_
  refine Vi (T11.setTop (mkF m 62 #[sI p0, sI p1, sI p2, sI p3, sI p4, sI p5, sI ((p0 &&& (2147483647 : Int32)) % (5 : Int32)), sI x0, sI x1, sI x2, sI x3, .unset, .unset, .unset, .unset, .unset, .unset, .unset, .unset] [(.int x2), (.int 2), (.ref b5), (.ref b5)])) (fun tZ kZ => ?_) ?_
  · refine XS.dup X11.here hx rfl (hb hby at_58) rfl rfl ?_
    refine XS.iconst X11.here hx rfl (hb hby at_59) ?_
    refine XS.iload X11.here hx rfl (hb hby at_60) rfl ?_
    exact kZ
  obtain ⟨T14, h14, X14, e14, W14, V14, st14⟩ := AV.castore V11 X11 hx hZ e11 (j := (2 : Int32)) (by decide) (Ls := #[sI p0, sI p1, sI p2, sI p3, sI p4, sI p5, sI ((p0 &&& (2147483647 : Int32)) % (5 : Int32)), sI x0, sI x1, sI x2, sI x3, .unset, .unset, .unset, .unset, .unset, .unset, .unset, .unset]) (rest := [(.ref b5)]) (hb hby at_62) (x := x2)
  have N14 := Fr.snoc X14 N11 g_b5
  have Ac15 := CHr.wr W14 Sf12_0 Ac12.1
  have Sf15_0 := Ac15.safe V11.lt Sf12_0
  have CR15c := CHr.trans CR12c Ac15
  have c16_3 := c13_3.wr W14 g_b5
  have c16_0 := ha0.ext c16_3.2
  have c16_1 := ha1.ext c16_3.2
  have c16_2 := ha2.ext c16_3.2
  have K14 : Keep h0 h14 [] := K11.wr W14 (Or.inr sz_b5)
  have Z14 : n0 ≤ h14.size := Nat.le_trans Z11 (Keep.of_wr W14).1
  refine Go.via st14 ?_
  refine Vi (T14.setTop (mkF m 67 #[sI p0, sI p1, sI p2, sI p3, sI p4, sI p5, sI ((p0 &&& (2147483647 : Int32)) % (5 : Int32)), sI x0, sI x1, sI x2, sI x3, .unset, .unset, .unset, .unset, .unset, .unset, .unset, .unset] [(.int x3), (.int 3), (.ref b5), (.ref b5)])) (fun tZ kZ => ?_) ?_
  · refine XS.dup X14.here hx rfl (hb hby at_63) rfl rfl ?_
    refine XS.iconst X14.here hx rfl (hb hby at_64) ?_
    refine XS.iload X14.here hx rfl (hb hby at_65) rfl ?_
    exact kZ
  obtain ⟨T17, h17, X17, e17, W17, V17, st17⟩ := AV.castore V14 X14 hx hZ e14 (j := (3 : Int32)) (by decide) (Ls := #[sI p0, sI p1, sI p2, sI p3, sI p4, sI p5, sI ((p0 &&& (2147483647 : Int32)) % (5 : Int32)), sI x0, sI x1, sI x2, sI x3, .unset, .unset, .unset, .unset, .unset, .unset, .unset, .unset]) (rest := [(.ref b5)]) (hb hby at_67) (x := x3)
  have N17 := Fr.snoc X17 N14 g_b5
  have Ac18 := CHr.wr W17 Sf15_0 Ac15.1
  have Sf18_0 := Ac18.safe V14.lt Sf15_0
  have CR18c := CHr.trans CR15c Ac18
  have c19_3 := c16_3.wr W17 g_b5
  have c19_0 := ha0.ext c19_3.2
  have c19_1 := ha1.ext c19_3.2
  have c19_2 := ha2.ext c19_3.2
  have K17 : Keep h0 h17 [] := K14.wr W17 (Or.inr sz_b5)
  have Z17 : n0 ≤ h17.size := Nat.le_trans Z14 (Keep.of_wr W17).1
  refine Go.via st17 ?_
  refine Vi (T17.setTop (mkF m 70 #[sI p0, sI p1, sI p2, sI p3, sI p4, sI p5, sI ((p0 &&& (2147483647 : Int32)) % (5 : Int32)), sI x0, sI x1, sI x2, sI x3, sR b5, .unset, .unset, .unset, .unset, .unset, .unset, .unset] [])) (fun tZ kZ => ?_) ?_
  · refine XS.astore X17.here hx rfl (hb hby at_68) rfl rfl (l' := #[sI p0, sI p1, sI p2, sI p3, sI p4, sI p5, sI ((p0 &&& (2147483647 : Int32)) % (5 : Int32)), sI x0, sI x1, sI x2, sI x3, sR b5, .unset, .unset, .unset, .unset, .unset, .unset, .unset]) rfl ?_
    exact kZ
  rcases own_mod5 p0 with hn | hn | hn | hn | hn
  · rw [hn]
    show Go p e below _ (T17.setTop (mkF m 70 #[sI p0, sI p1, sI p2, sI p3, sI p4, sI p5, sI 0, sI x0, sI x1, sI x2, sI x3, sR b5, .unset, .unset, .unset, .unset, .unset, .unset, .unset] []))
    refine Vi (T17.setTop (mkF m 76 #[sI p0, sI p1, sI p2, sI p3, sI p4, sI p5, sI 0, sI x0, sI x1, sI x2, sI x3, sR b5, .unset, .unset, .unset, .unset, .unset, .unset, .unset] [(.int 0)])) (fun tZ kZ => ?_) ?_
    · refine XS.iload X17.here hx rfl (hb hby at_70) rfl ?_
      refine XS.ifNo X17.here hx rfl (hb hby at_72) rfl ((if0 _ _).trans (teq (by decide)).2) ?_
      refine XS.iconst X17.here hx rfl (hb hby at_75) ?_
      exact kZ
    obtain ⟨T20, h20, k20, X20, e20, E20, A20, B20, st20⟩ := newPE X17 hx hZ (wq hw 5 rfl) e17 (g := (mkF m 76 #[sI p0, sI p1, sI p2, sI p3, sI p4, sI p5, sI 0, sI x0, sI x1, sI x2, sI x3, sR b5, .unset, .unset, .unset, .unset, .unset, .unset, .unset] [(.int 0)])) rfl (hb hby at_76) rfl (by decide) (cap := 0) (by decide) (by decide) (by decide) (by decide) (ad := "[C") rfl
    obtain ⟨b20, g20⟩ : ∃ z, z = h17.size := ⟨_, rfl⟩
    rw [← g20] at A20 B20 st20
    have g_b20 : n0 ≤ b20 := Nat.le_trans Z17 (Nat.le_of_eq g20.symm)
    have sz_b20 : h0.size ≤ b20 := Nat.le_trans (K17).1 (Nat.le_of_eq g20.symm)
    have ne_b5_b20 : b5 ≠ b20 := Nat.ne_of_lt (Nat.lt_of_lt_of_le V17.lt (Nat.le_of_eq g20.symm))
    have Ac21 := CHr.ext E20 Ac18.1
    have Sf21_0 := Ac21.safe V17.lt Sf18_0
    have CR21c := CHr.trans CR18c Ac21
    have c22_3 := c19_3.ext E20
    have c22_0 := ha0.ext c22_3.2
    have c22_1 := ha1.ext c22_3.2
    have c22_2 := ha2.ext c22_3.2
    have c22_5 := V17.ext E20
    have K20 : Keep h0 h20 [] := K17.ext E20
    have Z20 : n0 ≤ h20.size := Nat.le_trans Z17 E20.1
    have Sf_b20 := Safe.ext E20 Ac18.1 (Safe.new (Nat.le_of_eq g20.symm))
    have V20 : AV Z h20 b20 .char 0 (fun k => .int ((fun _ => (0 : Int32)) k)) := by have q := AV.new A20; exact q
    refine Go.via st20 ?_
    refine Vi (T20.setTop (mkF m 186 #[sI p0, sI p1, sI p2, sI p3, sI p4, sI p5, sI 0, sI x0, sI x1, sI x2, sI x3, sR b5, sR b20, .unset, .unset, .unset, .unset, .unset, .unset] [(.int ((p5 >>> ((4 : Int32) &&& 31)) &&& (1 : Int32)))])) (fun tZ kZ => ?_) ?_
    · refine XS.astore X20.here hx rfl (hb hby at_78) rfl rfl (l' := #[sI p0, sI p1, sI p2, sI p3, sI p4, sI p5, sI 0, sI x0, sI x1, sI x2, sI x3, sR b5, sR b20, .unset, .unset, .unset, .unset, .unset, .unset]) rfl ?_
      refine XS.goto X20.here hx rfl (pc0 := 80) (pc' := 180) rfl (hb hby at_80) (by decide) (by decide) ?_
      refine XS.iload X20.here hx rfl (hb hby at_180) rfl ?_
      refine XS.iconst X20.here hx rfl (hb hby at_182) ?_
      refine XS.ishr X20.here hx rfl (hb hby at_183) rfl ?_
      refine XS.iconst X20.here hx rfl (hb hby at_184) ?_
      refine XS.iand X20.here hx rfl (hb hby at_185) rfl ?_
      exact kZ
    by_cases hc186 : ((p5 >>> ((4 : Int32) &&& 31)) &&& (1 : Int32)) = (0 : Int32)
    · refine Vi (T20.setTop (mkF m 194 #[sI p0, sI p1, sI p2, sI p3, sI p4, sI p5, sI 0, sI x0, sI x1, sI x2, sI x3, sR b5, sR b20, .unset, .unset, .unset, .unset, .unset, .unset] [])) (fun tZ kZ => ?_) ?_
      · show Steps p.tables e below (T20.setTop (mkF m 186 #[sI p0, sI p1, sI p2, sI p3, sI p4, sI p5, sI 0, sI x0, sI x1, sI x2, sI x3, sR b5, sR b20, .unset, .unset, .unset, .unset, .unset, .unset] [(.int ((p5 >>> ((4 : Int32) &&& 31)) &&& (1 : Int32)))])) _
        refine XS.ifYes X20.here hx rfl (pc0 := 186) (pc' := 194) rfl (hb hby at_186) rfl ((if0 _ _).trans (teq hc186).1) (by decide) (by decide) ?_
        exact kZ
      obtain ⟨as23, T23, h23, kk23, ab23, kc23, X23, e23, E23, hS23, hk23, hZ, hown, Ea23, Fc23, Fv23, Ar23, -, -, A23, -, nS23, st23⟩ := ldcCH (s := s) (vm0 := s.vm) (EL := own_EL) X20 hx hZ hown (wq hw 6 rfl) wS e20 hS0 (Nat.zero_le _) (own_EW hw) (by simp [own_EL]) Ac21.1 (vs := ([] : List Int32).map Value.int) (z := 0) ⟨by decide, by decide +kernel⟩ (by decide) rfl (g := (mkF m 194 #[sI p0, sI p1, sI p2, sI p3, sI p4, sI p5, sI 0, sI x0, sI x1, sI x2, sI x3, sR b5, sR b20, .unset, .unset, .unset, .unset, .unset, .unset] [])) rfl (hb hby at_194) (n := 64) (by decide) (by decide) (by decide) (by decide)
      have Sf24_0 := A23.safe c22_5.lt Sf21_0
      have Sf24_1 := A23.safe V20.lt Sf_b20
      have CR24c := CHr.trans CR21c A23
      have c25_3 := c22_3.ext E23
      have c25_0 := ha0.ext c25_3.2
      have c25_1 := ha1.ext c25_3.2
      have c25_2 := ha2.ext c25_3.2
      have c25_5 := c22_5.ext E23
      have c25_7 := V20.ext E23
      have Va23 := AV.ofArv Ar23 (n := 0) rfl (by decide)
      have K23 : Keep h0 h23 [] := K20.ext E23
      have Z23 : n0 ≤ h23.size := Nat.le_trans Z20 E23.1
      have ne_b5_as23 := (nS23 b5 Sf24_0).1
      have ne_b5_ab23 := (nS23 b5 Sf24_0).2
      have ne_b20_as23 := (nS23 b20 Sf24_1).1
      have ne_b20_ab23 := (nS23 b20 Sf24_1).2
      refine Go.via st23 ?_
      refine Vi (T23.setTop (mkF m 198 #[sI p0, sI p1, sI p2, sI p3, sI p4, sI p5, sI 0, sI x0, sI x1, sI x2, sI x3, sR b5, sR b20, sR as23, .unset, .unset, .unset, .unset, .unset] [])) (fun tZ kZ => ?_) ?_
      · refine XS.astore X23.here hx rfl (hb hby at_196) rfl rfl (l' := #[sI p0, sI p1, sI p2, sI p3, sI p4, sI p5, sI 0, sI x0, sI x1, sI x2, sI x3, sR b5, sR b20, sR as23, .unset, .unset, .unset, .unset, .unset]) rfl ?_
        exact kZ
      exact ta_0 l Z a0 hw (s := s) (vmT := T23.vm) ⟨X23, hx, hby, hml, Bd.notSynchronized, Bd.returns, hZ, hown, wS, Z23, e23, N17, hS23, hk23, A23.1, hx0, hx1, hx2, hx3, hcs, hsv, ha0, ha1, ha2, c25_3, c25_5⟩ p0 p1 p2 p3 p4 p5 b20 as23 c25_7
    · refine Vi (T20.setTop (mkF m 189 #[sI p0, sI p1, sI p2, sI p3, sI p4, sI p5, sI 0, sI x0, sI x1, sI x2, sI x3, sR b5, sR b20, .unset, .unset, .unset, .unset, .unset, .unset] [])) (fun tZ kZ => ?_) ?_
      · show Steps p.tables e below (T20.setTop (mkF m 186 #[sI p0, sI p1, sI p2, sI p3, sI p4, sI p5, sI 0, sI x0, sI x1, sI x2, sI x3, sR b5, sR b20, .unset, .unset, .unset, .unset, .unset, .unset] [(.int ((p5 >>> ((4 : Int32) &&& 31)) &&& (1 : Int32)))])) _
        refine XS.ifNo X20.here hx rfl (hb hby at_186) rfl ((if0 _ _).trans (feq hc186).1) ?_
        exact kZ
      obtain ⟨as26, T26, h26, kk26, ab26, kc26, X26, e26, E26, hS26, hk26, hZ, hown, Ea26, Fc26, Fv26, Ar26, -, -, A26, -, nS26, st26⟩ := ldcCH (s := s) (vm0 := s.vm) (EL := own_EL) X20 hx hZ hown (wq hw 161 rfl) wS e20 hS0 (Nat.zero_le _) (own_EW hw) (by simp [own_EL]) Ac21.1 (vs := ([106, 97, 118, 97, 46, 108, 97, 110, 103] : List Int32).map Value.int) (z := 9) ⟨by decide, by decide +kernel⟩ (by decide) rfl (g := (mkF m 189 #[sI p0, sI p1, sI p2, sI p3, sI p4, sI p5, sI 0, sI x0, sI x1, sI x2, sI x3, sR b5, sR b20, .unset, .unset, .unset, .unset, .unset, .unset] [])) rfl (hb hby at_189) (n := 64) (by decide) (by decide) (by decide) (by decide)
      have Sf27_0 := A26.safe c22_5.lt Sf21_0
      have Sf27_1 := A26.safe V20.lt Sf_b20
      have CR27c := CHr.trans CR21c A26
      have c28_3 := c22_3.ext E26
      have c28_0 := ha0.ext c28_3.2
      have c28_1 := ha1.ext c28_3.2
      have c28_2 := ha2.ext c28_3.2
      have c28_5 := c22_5.ext E26
      have c28_7 := V20.ext E26
      have Va26 := AV.ofArv Ar26 (n := 9) rfl (by decide)
      have K26 : Keep h0 h26 [] := K20.ext E26
      have Z26 : n0 ≤ h26.size := Nat.le_trans Z20 E26.1
      have ne_b5_as26 := (nS26 b5 Sf27_0).1
      have ne_b5_ab26 := (nS26 b5 Sf27_0).2
      have ne_b20_as26 := (nS26 b20 Sf27_1).1
      have ne_b20_ab26 := (nS26 b20 Sf27_1).2
      refine Go.via st26 ?_
      refine Vi (T26.setTop (mkF m 198 #[sI p0, sI p1, sI p2, sI p3, sI p4, sI p5, sI 0, sI x0, sI x1, sI x2, sI x3, sR b5, sR b20, sR as26, .unset, .unset, .unset, .unset, .unset] [])) (fun tZ kZ => ?_) ?_
      · refine XS.goto X26.here hx rfl (pc0 := 191) (pc' := 196) rfl (hb hby at_191) (by decide) (by decide) ?_
        refine XS.astore X26.here hx rfl (hb hby at_196) rfl rfl (l' := #[sI p0, sI p1, sI p2, sI p3, sI p4, sI p5, sI 0, sI x0, sI x1, sI x2, sI x3, sR b5, sR b20, sR as26, .unset, .unset, .unset, .unset, .unset]) rfl ?_
        exact kZ
      exact ta_0 l Z a0 hw (s := s) (vmT := T26.vm) ⟨X26, hx, hby, hml, Bd.notSynchronized, Bd.returns, hZ, hown, wS, Z26, e26, N17, hS26, hk26, A26.1, hx0, hx1, hx2, hx3, hcs, hsv, ha0, ha1, ha2, c28_3, c28_5⟩ p0 p1 p2 p3 p4 p5 b20 as26 c28_7
  · rw [hn]
    show Go p e below _ (T17.setTop (mkF m 70 #[sI p0, sI p1, sI p2, sI p3, sI p4, sI p5, sI 1, sI x0, sI x1, sI x2, sI x3, sR b5, .unset, .unset, .unset, .unset, .unset, .unset, .unset] []))
    refine Vi (T17.setTop (mkF m 90 #[sI p0, sI p1, sI p2, sI p3, sI p4, sI p5, sI 1, sI x0, sI x1, sI x2, sI x3, sR b5, .unset, .unset, .unset, .unset, .unset, .unset, .unset] [(.int 1)])) (fun tZ kZ => ?_) ?_
    · refine XS.iload X17.here hx rfl (hb hby at_70) rfl ?_
      refine XS.ifYes X17.here hx rfl (pc0 := 72) (pc' := 83) rfl (hb hby at_72) rfl ((if0 _ _).trans (feq (by decide)).2) (by decide) (by decide) ?_
      refine XS.iload X17.here hx rfl (hb hby at_83) rfl ?_
      refine XS.iconst X17.here hx rfl (hb hby at_85) ?_
      refine XS.icmpNo X17.here hx rfl (hb hby at_86) rfl (teq (by decide)).2 ?_
      refine XS.iconst X17.here hx rfl (hb hby at_89) ?_
      exact kZ
    obtain ⟨T29, h29, k29, X29, e29, E29, A29, B29, st29⟩ := newPE X17 hx hZ (wq hw 5 rfl) e17 (g := (mkF m 90 #[sI p0, sI p1, sI p2, sI p3, sI p4, sI p5, sI 1, sI x0, sI x1, sI x2, sI x3, sR b5, .unset, .unset, .unset, .unset, .unset, .unset, .unset] [(.int 1)])) rfl (hb hby at_90) rfl (by decide) (cap := 1) (by decide) (by decide) (by decide) (by decide) (ad := "[C") rfl
    obtain ⟨b29, g29⟩ : ∃ z, z = h17.size := ⟨_, rfl⟩
    rw [← g29] at A29 B29 st29
    have g_b29 : n0 ≤ b29 := Nat.le_trans Z17 (Nat.le_of_eq g29.symm)
    have sz_b29 : h0.size ≤ b29 := Nat.le_trans (K17).1 (Nat.le_of_eq g29.symm)
    have ne_b5_b29 : b5 ≠ b29 := Nat.ne_of_lt (Nat.lt_of_lt_of_le V17.lt (Nat.le_of_eq g29.symm))
    have Ac30 := CHr.ext E29 Ac18.1
    have Sf30_0 := Ac30.safe V17.lt Sf18_0
    have CR30c := CHr.trans CR18c Ac30
    have c31_3 := c19_3.ext E29
    have c31_0 := ha0.ext c31_3.2
    have c31_1 := ha1.ext c31_3.2
    have c31_2 := ha2.ext c31_3.2
    have c31_5 := V17.ext E29
    have K29 : Keep h0 h29 [] := K17.ext E29
    have Z29 : n0 ≤ h29.size := Nat.le_trans Z17 E29.1
    have Sf_b29 := Safe.ext E29 Ac18.1 (Safe.new (Nat.le_of_eq g29.symm))
    have V29 : AV Z h29 b29 .char 1 (fun k => .int ((fun _ => (0 : Int32)) k)) := by have q := AV.new A29; exact q
    refine Go.via st29 ?_
    refine Vi (T29.setTop (mkF m 96 #[sI p0, sI p1, sI p2, sI p3, sI p4, sI p5, sI 1, sI x0, sI x1, sI x2, sI x3, sR b5, .unset, .unset, .unset, .unset, .unset, .unset, .unset] [(.int x0), (.int 0), (.ref b29), (.ref b29)])) (fun tZ kZ => ?_) ?_
    · refine XS.dup X29.here hx rfl (hb hby at_92) rfl rfl ?_
      refine XS.iconst X29.here hx rfl (hb hby at_93) ?_
      refine XS.iload X29.here hx rfl (hb hby at_94) rfl ?_
      exact kZ
    obtain ⟨T32, h32, X32, e32, W32, V32, st32⟩ := AV.castore V29 X29 hx hZ e29 (j := (0 : Int32)) (by decide) (Ls := #[sI p0, sI p1, sI p2, sI p3, sI p4, sI p5, sI 1, sI x0, sI x1, sI x2, sI x3, sR b5, .unset, .unset, .unset, .unset, .unset, .unset, .unset]) (rest := [(.ref b29)]) (hb hby at_96) (x := x0)
    have N32 := Fr.snoc X32 N17 g_b29
    have Ac33 := CHr.wr W32 Sf_b29 Ac30.1
    have Sf33_0 := Ac33.safe c31_5.lt Sf30_0
    have Sf33_1 := Ac33.safe V29.lt Sf_b29
    have CR33c := CHr.trans CR30c Ac33
    have c34_3 := c31_3.wr W32 g_b29
    have c34_0 := ha0.ext c34_3.2
    have c34_1 := ha1.ext c34_3.2
    have c34_2 := ha2.ext c34_3.2
    have c34_5 := c31_5.other W32 ne_b5_b29
    have K32 : Keep h0 h32 [] := K29.wr W32 (Or.inr sz_b29)
    have Z32 : n0 ≤ h32.size := Nat.le_trans Z29 (Keep.of_wr W32).1
    refine Go.via st32 ?_
    refine Vi (T32.setTop (mkF m 186 #[sI p0, sI p1, sI p2, sI p3, sI p4, sI p5, sI 1, sI x0, sI x1, sI x2, sI x3, sR b5, sR b29, .unset, .unset, .unset, .unset, .unset, .unset] [(.int ((p5 >>> ((4 : Int32) &&& 31)) &&& (1 : Int32)))])) (fun tZ kZ => ?_) ?_
    · refine XS.astore X32.here hx rfl (hb hby at_97) rfl rfl (l' := #[sI p0, sI p1, sI p2, sI p3, sI p4, sI p5, sI 1, sI x0, sI x1, sI x2, sI x3, sR b5, sR b29, .unset, .unset, .unset, .unset, .unset, .unset]) rfl ?_
      refine XS.goto X32.here hx rfl (pc0 := 99) (pc' := 180) rfl (hb hby at_99) (by decide) (by decide) ?_
      refine XS.iload X32.here hx rfl (hb hby at_180) rfl ?_
      refine XS.iconst X32.here hx rfl (hb hby at_182) ?_
      refine XS.ishr X32.here hx rfl (hb hby at_183) rfl ?_
      refine XS.iconst X32.here hx rfl (hb hby at_184) ?_
      refine XS.iand X32.here hx rfl (hb hby at_185) rfl ?_
      exact kZ
    by_cases hc186 : ((p5 >>> ((4 : Int32) &&& 31)) &&& (1 : Int32)) = (0 : Int32)
    · refine Vi (T32.setTop (mkF m 194 #[sI p0, sI p1, sI p2, sI p3, sI p4, sI p5, sI 1, sI x0, sI x1, sI x2, sI x3, sR b5, sR b29, .unset, .unset, .unset, .unset, .unset, .unset] [])) (fun tZ kZ => ?_) ?_
      · show Steps p.tables e below (T32.setTop (mkF m 186 #[sI p0, sI p1, sI p2, sI p3, sI p4, sI p5, sI 1, sI x0, sI x1, sI x2, sI x3, sR b5, sR b29, .unset, .unset, .unset, .unset, .unset, .unset] [(.int ((p5 >>> ((4 : Int32) &&& 31)) &&& (1 : Int32)))])) _
        refine XS.ifYes X32.here hx rfl (pc0 := 186) (pc' := 194) rfl (hb hby at_186) rfl ((if0 _ _).trans (teq hc186).1) (by decide) (by decide) ?_
        exact kZ
      obtain ⟨as35, T35, h35, kk35, ab35, kc35, X35, e35, E35, hS35, hk35, hZ, hown, Ea35, Fc35, Fv35, Ar35, -, -, A35, -, nS35, st35⟩ := ldcCH (s := s) (vm0 := s.vm) (EL := own_EL) X32 hx hZ hown (wq hw 6 rfl) wS e32 hS0 (Nat.zero_le _) (own_EW hw) (by simp [own_EL]) Ac33.1 (vs := ([] : List Int32).map Value.int) (z := 0) ⟨by decide, by decide +kernel⟩ (by decide) rfl (g := (mkF m 194 #[sI p0, sI p1, sI p2, sI p3, sI p4, sI p5, sI 1, sI x0, sI x1, sI x2, sI x3, sR b5, sR b29, .unset, .unset, .unset, .unset, .unset, .unset] [])) rfl (hb hby at_194) (n := 64) (by decide) (by decide) (by decide) (by decide)
      have Sf36_0 := A35.safe c34_5.lt Sf33_0
      have Sf36_1 := A35.safe V32.lt Sf33_1
      have CR36c := CHr.trans CR33c A35
      have c37_3 := c34_3.ext E35
      have c37_0 := ha0.ext c37_3.2
      have c37_1 := ha1.ext c37_3.2
      have c37_2 := ha2.ext c37_3.2
      have c37_5 := c34_5.ext E35
      have c37_7 := V32.ext E35
      have Va35 := AV.ofArv Ar35 (n := 0) rfl (by decide)
      have K35 : Keep h0 h35 [] := K32.ext E35
      have Z35 : n0 ≤ h35.size := Nat.le_trans Z32 E35.1
      have ne_b5_as35 := (nS35 b5 Sf36_0).1
      have ne_b5_ab35 := (nS35 b5 Sf36_0).2
      have ne_b29_as35 := (nS35 b29 Sf36_1).1
      have ne_b29_ab35 := (nS35 b29 Sf36_1).2
      refine Go.via st35 ?_
      refine Vi (T35.setTop (mkF m 198 #[sI p0, sI p1, sI p2, sI p3, sI p4, sI p5, sI 1, sI x0, sI x1, sI x2, sI x3, sR b5, sR b29, sR as35, .unset, .unset, .unset, .unset, .unset] [])) (fun tZ kZ => ?_) ?_
      · refine XS.astore X35.here hx rfl (hb hby at_196) rfl rfl (l' := #[sI p0, sI p1, sI p2, sI p3, sI p4, sI p5, sI 1, sI x0, sI x1, sI x2, sI x3, sR b5, sR b29, sR as35, .unset, .unset, .unset, .unset, .unset]) rfl ?_
        exact kZ
      exact ta_1 l Z a0 hw (s := s) (vmT := T35.vm) ⟨X35, hx, hby, hml, Bd.notSynchronized, Bd.returns, hZ, hown, wS, Z35, e35, N32, hS35, hk35, A35.1, hx0, hx1, hx2, hx3, hcs, hsv, ha0, ha1, ha2, c37_3, c37_5⟩ p0 p1 p2 p3 p4 p5 b29 as35 c37_7
    · refine Vi (T32.setTop (mkF m 189 #[sI p0, sI p1, sI p2, sI p3, sI p4, sI p5, sI 1, sI x0, sI x1, sI x2, sI x3, sR b5, sR b29, .unset, .unset, .unset, .unset, .unset, .unset] [])) (fun tZ kZ => ?_) ?_
      · show Steps p.tables e below (T32.setTop (mkF m 186 #[sI p0, sI p1, sI p2, sI p3, sI p4, sI p5, sI 1, sI x0, sI x1, sI x2, sI x3, sR b5, sR b29, .unset, .unset, .unset, .unset, .unset, .unset] [(.int ((p5 >>> ((4 : Int32) &&& 31)) &&& (1 : Int32)))])) _
        refine XS.ifNo X32.here hx rfl (hb hby at_186) rfl ((if0 _ _).trans (feq hc186).1) ?_
        exact kZ
      obtain ⟨as38, T38, h38, kk38, ab38, kc38, X38, e38, E38, hS38, hk38, hZ, hown, Ea38, Fc38, Fv38, Ar38, -, -, A38, -, nS38, st38⟩ := ldcCH (s := s) (vm0 := s.vm) (EL := own_EL) X32 hx hZ hown (wq hw 161 rfl) wS e32 hS0 (Nat.zero_le _) (own_EW hw) (by simp [own_EL]) Ac33.1 (vs := ([106, 97, 118, 97, 46, 108, 97, 110, 103] : List Int32).map Value.int) (z := 9) ⟨by decide, by decide +kernel⟩ (by decide) rfl (g := (mkF m 189 #[sI p0, sI p1, sI p2, sI p3, sI p4, sI p5, sI 1, sI x0, sI x1, sI x2, sI x3, sR b5, sR b29, .unset, .unset, .unset, .unset, .unset, .unset] [])) rfl (hb hby at_189) (n := 64) (by decide) (by decide) (by decide) (by decide)
      have Sf39_0 := A38.safe c34_5.lt Sf33_0
      have Sf39_1 := A38.safe V32.lt Sf33_1
      have CR39c := CHr.trans CR33c A38
      have c40_3 := c34_3.ext E38
      have c40_0 := ha0.ext c40_3.2
      have c40_1 := ha1.ext c40_3.2
      have c40_2 := ha2.ext c40_3.2
      have c40_5 := c34_5.ext E38
      have c40_7 := V32.ext E38
      have Va38 := AV.ofArv Ar38 (n := 9) rfl (by decide)
      have K38 : Keep h0 h38 [] := K32.ext E38
      have Z38 : n0 ≤ h38.size := Nat.le_trans Z32 E38.1
      have ne_b5_as38 := (nS38 b5 Sf39_0).1
      have ne_b5_ab38 := (nS38 b5 Sf39_0).2
      have ne_b29_as38 := (nS38 b29 Sf39_1).1
      have ne_b29_ab38 := (nS38 b29 Sf39_1).2
      refine Go.via st38 ?_
      refine Vi (T38.setTop (mkF m 198 #[sI p0, sI p1, sI p2, sI p3, sI p4, sI p5, sI 1, sI x0, sI x1, sI x2, sI x3, sR b5, sR b29, sR as38, .unset, .unset, .unset, .unset, .unset] [])) (fun tZ kZ => ?_) ?_
      · refine XS.goto X38.here hx rfl (pc0 := 191) (pc' := 196) rfl (hb hby at_191) (by decide) (by decide) ?_
        refine XS.astore X38.here hx rfl (hb hby at_196) rfl rfl (l' := #[sI p0, sI p1, sI p2, sI p3, sI p4, sI p5, sI 1, sI x0, sI x1, sI x2, sI x3, sR b5, sR b29, sR as38, .unset, .unset, .unset, .unset, .unset]) rfl ?_
        exact kZ
      exact ta_1 l Z a0 hw (s := s) (vmT := T38.vm) ⟨X38, hx, hby, hml, Bd.notSynchronized, Bd.returns, hZ, hown, wS, Z38, e38, N32, hS38, hk38, A38.1, hx0, hx1, hx2, hx3, hcs, hsv, ha0, ha1, ha2, c40_3, c40_5⟩ p0 p1 p2 p3 p4 p5 b29 as38 c40_7
  · rw [hn]
    show Go p e below _ (T17.setTop (mkF m 70 #[sI p0, sI p1, sI p2, sI p3, sI p4, sI p5, sI 2, sI x0, sI x1, sI x2, sI x3, sR b5, .unset, .unset, .unset, .unset, .unset, .unset, .unset] []))
    refine Vi (T17.setTop (mkF m 109 #[sI p0, sI p1, sI p2, sI p3, sI p4, sI p5, sI 2, sI x0, sI x1, sI x2, sI x3, sR b5, .unset, .unset, .unset, .unset, .unset, .unset, .unset] [(.int 2)])) (fun tZ kZ => ?_) ?_
    · refine XS.iload X17.here hx rfl (hb hby at_70) rfl ?_
      refine XS.ifYes X17.here hx rfl (pc0 := 72) (pc' := 83) rfl (hb hby at_72) rfl ((if0 _ _).trans (feq (by decide)).2) (by decide) (by decide) ?_
      refine XS.iload X17.here hx rfl (hb hby at_83) rfl ?_
      refine XS.iconst X17.here hx rfl (hb hby at_85) ?_
      refine XS.icmpYes X17.here hx rfl (pc0 := 86) (pc' := 102) rfl (hb hby at_86) rfl (feq (by decide)).2 (by decide) (by decide) ?_
      refine XS.iload X17.here hx rfl (hb hby at_102) rfl ?_
      refine XS.iconst X17.here hx rfl (hb hby at_104) ?_
      refine XS.icmpNo X17.here hx rfl (hb hby at_105) rfl (teq (by decide)).2 ?_
      refine XS.iconst X17.here hx rfl (hb hby at_108) ?_
      exact kZ
    obtain ⟨T41, h41, k41, X41, e41, E41, A41, B41, st41⟩ := newPE X17 hx hZ (wq hw 5 rfl) e17 (g := (mkF m 109 #[sI p0, sI p1, sI p2, sI p3, sI p4, sI p5, sI 2, sI x0, sI x1, sI x2, sI x3, sR b5, .unset, .unset, .unset, .unset, .unset, .unset, .unset] [(.int 2)])) rfl (hb hby at_109) rfl (by decide) (cap := 2) (by decide) (by decide) (by decide) (by decide) (ad := "[C") rfl
    obtain ⟨b41, g41⟩ : ∃ z, z = h17.size := ⟨_, rfl⟩
    rw [← g41] at A41 B41 st41
    have g_b41 : n0 ≤ b41 := Nat.le_trans Z17 (Nat.le_of_eq g41.symm)
    have sz_b41 : h0.size ≤ b41 := Nat.le_trans (K17).1 (Nat.le_of_eq g41.symm)
    have ne_b5_b41 : b5 ≠ b41 := Nat.ne_of_lt (Nat.lt_of_lt_of_le V17.lt (Nat.le_of_eq g41.symm))
    have Ac42 := CHr.ext E41 Ac18.1
    have Sf42_0 := Ac42.safe V17.lt Sf18_0
    have CR42c := CHr.trans CR18c Ac42
    have c43_3 := c19_3.ext E41
    have c43_0 := ha0.ext c43_3.2
    have c43_1 := ha1.ext c43_3.2
    have c43_2 := ha2.ext c43_3.2
    have c43_5 := V17.ext E41
    have K41 : Keep h0 h41 [] := K17.ext E41
    have Z41 : n0 ≤ h41.size := Nat.le_trans Z17 E41.1
    have Sf_b41 := Safe.ext E41 Ac18.1 (Safe.new (Nat.le_of_eq g41.symm))
    have V41 : AV Z h41 b41 .char 2 (fun k => .int ((fun _ => (0 : Int32)) k)) := by have q := AV.new A41; exact q
    refine Go.via st41 ?_
    refine Vi (T41.setTop (mkF m 115 #[sI p0, sI p1, sI p2, sI p3, sI p4, sI p5, sI 2, sI x0, sI x1, sI x2, sI x3, sR b5, .unset, .unset, .unset, .unset, .unset, .unset, .unset] [(.int x0), (.int 0), (.ref b41), (.ref b41)])) (fun tZ kZ => ?_) ?_
    · refine XS.dup X41.here hx rfl (hb hby at_111) rfl rfl ?_
      refine XS.iconst X41.here hx rfl (hb hby at_112) ?_
      refine XS.iload X41.here hx rfl (hb hby at_113) rfl ?_
      exact kZ
    obtain ⟨T44, h44, X44, e44, W44, V44, st44⟩ := AV.castore V41 X41 hx hZ e41 (j := (0 : Int32)) (by decide) (Ls := #[sI p0, sI p1, sI p2, sI p3, sI p4, sI p5, sI 2, sI x0, sI x1, sI x2, sI x3, sR b5, .unset, .unset, .unset, .unset, .unset, .unset, .unset]) (rest := [(.ref b41)]) (hb hby at_115) (x := x0)
    have N44 := Fr.snoc X44 N17 g_b41
    have Ac45 := CHr.wr W44 Sf_b41 Ac42.1
    have Sf45_0 := Ac45.safe c43_5.lt Sf42_0
    have Sf45_1 := Ac45.safe V41.lt Sf_b41
    have CR45c := CHr.trans CR42c Ac45
    have c46_3 := c43_3.wr W44 g_b41
    have c46_0 := ha0.ext c46_3.2
    have c46_1 := ha1.ext c46_3.2
    have c46_2 := ha2.ext c46_3.2
    have c46_5 := c43_5.other W44 ne_b5_b41
    have K44 : Keep h0 h44 [] := K41.wr W44 (Or.inr sz_b41)
    have Z44 : n0 ≤ h44.size := Nat.le_trans Z41 (Keep.of_wr W44).1
    refine Go.via st44 ?_
    refine Vi (T44.setTop (mkF m 120 #[sI p0, sI p1, sI p2, sI p3, sI p4, sI p5, sI 2, sI x0, sI x1, sI x2, sI x3, sR b5, .unset, .unset, .unset, .unset, .unset, .unset, .unset] [(.int x1), (.int 1), (.ref b41), (.ref b41)])) (fun tZ kZ => ?_) ?_
    · refine XS.dup X44.here hx rfl (hb hby at_116) rfl rfl ?_
      refine XS.iconst X44.here hx rfl (hb hby at_117) ?_
      refine XS.iload X44.here hx rfl (hb hby at_118) rfl ?_
      exact kZ
    obtain ⟨T47, h47, X47, e47, W47, V47, st47⟩ := AV.castore V44 X44 hx hZ e44 (j := (1 : Int32)) (by decide) (Ls := #[sI p0, sI p1, sI p2, sI p3, sI p4, sI p5, sI 2, sI x0, sI x1, sI x2, sI x3, sR b5, .unset, .unset, .unset, .unset, .unset, .unset, .unset]) (rest := [(.ref b41)]) (hb hby at_120) (x := x1)
    have N47 := Fr.snoc X47 N44 g_b41
    have Ac48 := CHr.wr W47 Sf45_1 Ac45.1
    have Sf48_0 := Ac48.safe c46_5.lt Sf45_0
    have Sf48_1 := Ac48.safe V44.lt Sf45_1
    have CR48c := CHr.trans CR45c Ac48
    have c49_3 := c46_3.wr W47 g_b41
    have c49_0 := ha0.ext c49_3.2
    have c49_1 := ha1.ext c49_3.2
    have c49_2 := ha2.ext c49_3.2
    have c49_5 := c46_5.other W47 ne_b5_b41
    have K47 : Keep h0 h47 [] := K44.wr W47 (Or.inr sz_b41)
    have Z47 : n0 ≤ h47.size := Nat.le_trans Z44 (Keep.of_wr W47).1
    refine Go.via st47 ?_
    refine Vi (T47.setTop (mkF m 186 #[sI p0, sI p1, sI p2, sI p3, sI p4, sI p5, sI 2, sI x0, sI x1, sI x2, sI x3, sR b5, sR b41, .unset, .unset, .unset, .unset, .unset, .unset] [(.int ((p5 >>> ((4 : Int32) &&& 31)) &&& (1 : Int32)))])) (fun tZ kZ => ?_) ?_
    · refine XS.astore X47.here hx rfl (hb hby at_121) rfl rfl (l' := #[sI p0, sI p1, sI p2, sI p3, sI p4, sI p5, sI 2, sI x0, sI x1, sI x2, sI x3, sR b5, sR b41, .unset, .unset, .unset, .unset, .unset, .unset]) rfl ?_
      refine XS.goto X47.here hx rfl (pc0 := 123) (pc' := 180) rfl (hb hby at_123) (by decide) (by decide) ?_
      refine XS.iload X47.here hx rfl (hb hby at_180) rfl ?_
      refine XS.iconst X47.here hx rfl (hb hby at_182) ?_
      refine XS.ishr X47.here hx rfl (hb hby at_183) rfl ?_
      refine XS.iconst X47.here hx rfl (hb hby at_184) ?_
      refine XS.iand X47.here hx rfl (hb hby at_185) rfl ?_
      exact kZ
    by_cases hc186 : ((p5 >>> ((4 : Int32) &&& 31)) &&& (1 : Int32)) = (0 : Int32)
    · refine Vi (T47.setTop (mkF m 194 #[sI p0, sI p1, sI p2, sI p3, sI p4, sI p5, sI 2, sI x0, sI x1, sI x2, sI x3, sR b5, sR b41, .unset, .unset, .unset, .unset, .unset, .unset] [])) (fun tZ kZ => ?_) ?_
      · show Steps p.tables e below (T47.setTop (mkF m 186 #[sI p0, sI p1, sI p2, sI p3, sI p4, sI p5, sI 2, sI x0, sI x1, sI x2, sI x3, sR b5, sR b41, .unset, .unset, .unset, .unset, .unset, .unset] [(.int ((p5 >>> ((4 : Int32) &&& 31)) &&& (1 : Int32)))])) _
        refine XS.ifYes X47.here hx rfl (pc0 := 186) (pc' := 194) rfl (hb hby at_186) rfl ((if0 _ _).trans (teq hc186).1) (by decide) (by decide) ?_
        exact kZ
      obtain ⟨as50, T50, h50, kk50, ab50, kc50, X50, e50, E50, hS50, hk50, hZ, hown, Ea50, Fc50, Fv50, Ar50, -, -, A50, -, nS50, st50⟩ := ldcCH (s := s) (vm0 := s.vm) (EL := own_EL) X47 hx hZ hown (wq hw 6 rfl) wS e47 hS0 (Nat.zero_le _) (own_EW hw) (by simp [own_EL]) Ac48.1 (vs := ([] : List Int32).map Value.int) (z := 0) ⟨by decide, by decide +kernel⟩ (by decide) rfl (g := (mkF m 194 #[sI p0, sI p1, sI p2, sI p3, sI p4, sI p5, sI 2, sI x0, sI x1, sI x2, sI x3, sR b5, sR b41, .unset, .unset, .unset, .unset, .unset, .unset] [])) rfl (hb hby at_194) (n := 64) (by decide) (by decide) (by decide) (by decide)
      have Sf51_0 := A50.safe c49_5.lt Sf48_0
      have Sf51_1 := A50.safe V47.lt Sf48_1
      have CR51c := CHr.trans CR48c A50
      have c52_3 := c49_3.ext E50
      have c52_0 := ha0.ext c52_3.2
      have c52_1 := ha1.ext c52_3.2
      have c52_2 := ha2.ext c52_3.2
      have c52_5 := c49_5.ext E50
      have c52_7 := V47.ext E50
      have Va50 := AV.ofArv Ar50 (n := 0) rfl (by decide)
      have K50 : Keep h0 h50 [] := K47.ext E50
      have Z50 : n0 ≤ h50.size := Nat.le_trans Z47 E50.1
      have ne_b5_as50 := (nS50 b5 Sf51_0).1
      have ne_b5_ab50 := (nS50 b5 Sf51_0).2
      have ne_b41_as50 := (nS50 b41 Sf51_1).1
      have ne_b41_ab50 := (nS50 b41 Sf51_1).2
      refine Go.via st50 ?_
      refine Vi (T50.setTop (mkF m 198 #[sI p0, sI p1, sI p2, sI p3, sI p4, sI p5, sI 2, sI x0, sI x1, sI x2, sI x3, sR b5, sR b41, sR as50, .unset, .unset, .unset, .unset, .unset] [])) (fun tZ kZ => ?_) ?_
      · refine XS.astore X50.here hx rfl (hb hby at_196) rfl rfl (l' := #[sI p0, sI p1, sI p2, sI p3, sI p4, sI p5, sI 2, sI x0, sI x1, sI x2, sI x3, sR b5, sR b41, sR as50, .unset, .unset, .unset, .unset, .unset]) rfl ?_
        exact kZ
      exact ta_2 l Z a0 hw (s := s) (vmT := T50.vm) ⟨X50, hx, hby, hml, Bd.notSynchronized, Bd.returns, hZ, hown, wS, Z50, e50, N47, hS50, hk50, A50.1, hx0, hx1, hx2, hx3, hcs, hsv, ha0, ha1, ha2, c52_3, c52_5⟩ p0 p1 p2 p3 p4 p5 b41 as50 c52_7
    · refine Vi (T47.setTop (mkF m 189 #[sI p0, sI p1, sI p2, sI p3, sI p4, sI p5, sI 2, sI x0, sI x1, sI x2, sI x3, sR b5, sR b41, .unset, .unset, .unset, .unset, .unset, .unset] [])) (fun tZ kZ => ?_) ?_
      · show Steps p.tables e below (T47.setTop (mkF m 186 #[sI p0, sI p1, sI p2, sI p3, sI p4, sI p5, sI 2, sI x0, sI x1, sI x2, sI x3, sR b5, sR b41, .unset, .unset, .unset, .unset, .unset, .unset] [(.int ((p5 >>> ((4 : Int32) &&& 31)) &&& (1 : Int32)))])) _
        refine XS.ifNo X47.here hx rfl (hb hby at_186) rfl ((if0 _ _).trans (feq hc186).1) ?_
        exact kZ
      obtain ⟨as53, T53, h53, kk53, ab53, kc53, X53, e53, E53, hS53, hk53, hZ, hown, Ea53, Fc53, Fv53, Ar53, -, -, A53, -, nS53, st53⟩ := ldcCH (s := s) (vm0 := s.vm) (EL := own_EL) X47 hx hZ hown (wq hw 161 rfl) wS e47 hS0 (Nat.zero_le _) (own_EW hw) (by simp [own_EL]) Ac48.1 (vs := ([106, 97, 118, 97, 46, 108, 97, 110, 103] : List Int32).map Value.int) (z := 9) ⟨by decide, by decide +kernel⟩ (by decide) rfl (g := (mkF m 189 #[sI p0, sI p1, sI p2, sI p3, sI p4, sI p5, sI 2, sI x0, sI x1, sI x2, sI x3, sR b5, sR b41, .unset, .unset, .unset, .unset, .unset, .unset] [])) rfl (hb hby at_189) (n := 64) (by decide) (by decide) (by decide) (by decide)
      have Sf54_0 := A53.safe c49_5.lt Sf48_0
      have Sf54_1 := A53.safe V47.lt Sf48_1
      have CR54c := CHr.trans CR48c A53
      have c55_3 := c49_3.ext E53
      have c55_0 := ha0.ext c55_3.2
      have c55_1 := ha1.ext c55_3.2
      have c55_2 := ha2.ext c55_3.2
      have c55_5 := c49_5.ext E53
      have c55_7 := V47.ext E53
      have Va53 := AV.ofArv Ar53 (n := 9) rfl (by decide)
      have K53 : Keep h0 h53 [] := K47.ext E53
      have Z53 : n0 ≤ h53.size := Nat.le_trans Z47 E53.1
      have ne_b5_as53 := (nS53 b5 Sf54_0).1
      have ne_b5_ab53 := (nS53 b5 Sf54_0).2
      have ne_b41_as53 := (nS53 b41 Sf54_1).1
      have ne_b41_ab53 := (nS53 b41 Sf54_1).2
      refine Go.via st53 ?_
      refine Vi (T53.setTop (mkF m 198 #[sI p0, sI p1, sI p2, sI p3, sI p4, sI p5, sI 2, sI x0, sI x1, sI x2, sI x3, sR b5, sR b41, sR as53, .unset, .unset, .unset, .unset, .unset] [])) (fun tZ kZ => ?_) ?_
      · refine XS.goto X53.here hx rfl (pc0 := 191) (pc' := 196) rfl (hb hby at_191) (by decide) (by decide) ?_
        refine XS.astore X53.here hx rfl (hb hby at_196) rfl rfl (l' := #[sI p0, sI p1, sI p2, sI p3, sI p4, sI p5, sI 2, sI x0, sI x1, sI x2, sI x3, sR b5, sR b41, sR as53, .unset, .unset, .unset, .unset, .unset]) rfl ?_
        exact kZ
      exact ta_2 l Z a0 hw (s := s) (vmT := T53.vm) ⟨X53, hx, hby, hml, Bd.notSynchronized, Bd.returns, hZ, hown, wS, Z53, e53, N47, hS53, hk53, A53.1, hx0, hx1, hx2, hx3, hcs, hsv, ha0, ha1, ha2, c55_3, c55_5⟩ p0 p1 p2 p3 p4 p5 b41 as53 c55_7
  · rw [hn]
    show Go p e below _ (T17.setTop (mkF m 70 #[sI p0, sI p1, sI p2, sI p3, sI p4, sI p5, sI 3, sI x0, sI x1, sI x2, sI x3, sR b5, .unset, .unset, .unset, .unset, .unset, .unset, .unset] []))
    refine Vi (T17.setTop (mkF m 133 #[sI p0, sI p1, sI p2, sI p3, sI p4, sI p5, sI 3, sI x0, sI x1, sI x2, sI x3, sR b5, .unset, .unset, .unset, .unset, .unset, .unset, .unset] [(.int 3)])) (fun tZ kZ => ?_) ?_
    · refine XS.iload X17.here hx rfl (hb hby at_70) rfl ?_
      refine XS.ifYes X17.here hx rfl (pc0 := 72) (pc' := 83) rfl (hb hby at_72) rfl ((if0 _ _).trans (feq (by decide)).2) (by decide) (by decide) ?_
      refine XS.iload X17.here hx rfl (hb hby at_83) rfl ?_
      refine XS.iconst X17.here hx rfl (hb hby at_85) ?_
      refine XS.icmpYes X17.here hx rfl (pc0 := 86) (pc' := 102) rfl (hb hby at_86) rfl (feq (by decide)).2 (by decide) (by decide) ?_
      refine XS.iload X17.here hx rfl (hb hby at_102) rfl ?_
      refine XS.iconst X17.here hx rfl (hb hby at_104) ?_
      refine XS.icmpYes X17.here hx rfl (pc0 := 105) (pc' := 126) rfl (hb hby at_105) rfl (feq (by decide)).2 (by decide) (by decide) ?_
      refine XS.iload X17.here hx rfl (hb hby at_126) rfl ?_
      refine XS.iconst X17.here hx rfl (hb hby at_128) ?_
      refine XS.icmpNo X17.here hx rfl (hb hby at_129) rfl (teq (by decide)).2 ?_
      refine XS.iconst X17.here hx rfl (hb hby at_132) ?_
      exact kZ
    obtain ⟨T56, h56, k56, X56, e56, E56, A56, B56, st56⟩ := newPE X17 hx hZ (wq hw 5 rfl) e17 (g := (mkF m 133 #[sI p0, sI p1, sI p2, sI p3, sI p4, sI p5, sI 3, sI x0, sI x1, sI x2, sI x3, sR b5, .unset, .unset, .unset, .unset, .unset, .unset, .unset] [(.int 3)])) rfl (hb hby at_133) rfl (by decide) (cap := 3) (by decide) (by decide) (by decide) (by decide) (ad := "[C") rfl
    obtain ⟨b56, g56⟩ : ∃ z, z = h17.size := ⟨_, rfl⟩
    rw [← g56] at A56 B56 st56
    have g_b56 : n0 ≤ b56 := Nat.le_trans Z17 (Nat.le_of_eq g56.symm)
    have sz_b56 : h0.size ≤ b56 := Nat.le_trans (K17).1 (Nat.le_of_eq g56.symm)
    have ne_b5_b56 : b5 ≠ b56 := Nat.ne_of_lt (Nat.lt_of_lt_of_le V17.lt (Nat.le_of_eq g56.symm))
    have Ac57 := CHr.ext E56 Ac18.1
    have Sf57_0 := Ac57.safe V17.lt Sf18_0
    have CR57c := CHr.trans CR18c Ac57
    have c58_3 := c19_3.ext E56
    have c58_0 := ha0.ext c58_3.2
    have c58_1 := ha1.ext c58_3.2
    have c58_2 := ha2.ext c58_3.2
    have c58_5 := V17.ext E56
    have K56 : Keep h0 h56 [] := K17.ext E56
    have Z56 : n0 ≤ h56.size := Nat.le_trans Z17 E56.1
    have Sf_b56 := Safe.ext E56 Ac18.1 (Safe.new (Nat.le_of_eq g56.symm))
    have V56 : AV Z h56 b56 .char 3 (fun k => .int ((fun _ => (0 : Int32)) k)) := by have q := AV.new A56; exact q
    refine Go.via st56 ?_
    refine Vi (T56.setTop (mkF m 139 #[sI p0, sI p1, sI p2, sI p3, sI p4, sI p5, sI 3, sI x0, sI x1, sI x2, sI x3, sR b5, .unset, .unset, .unset, .unset, .unset, .unset, .unset] [(.int x0), (.int 0), (.ref b56), (.ref b56)])) (fun tZ kZ => ?_) ?_
    · refine XS.dup X56.here hx rfl (hb hby at_135) rfl rfl ?_
      refine XS.iconst X56.here hx rfl (hb hby at_136) ?_
      refine XS.iload X56.here hx rfl (hb hby at_137) rfl ?_
      exact kZ
    obtain ⟨T59, h59, X59, e59, W59, V59, st59⟩ := AV.castore V56 X56 hx hZ e56 (j := (0 : Int32)) (by decide) (Ls := #[sI p0, sI p1, sI p2, sI p3, sI p4, sI p5, sI 3, sI x0, sI x1, sI x2, sI x3, sR b5, .unset, .unset, .unset, .unset, .unset, .unset, .unset]) (rest := [(.ref b56)]) (hb hby at_139) (x := x0)
    have N59 := Fr.snoc X59 N17 g_b56
    have Ac60 := CHr.wr W59 Sf_b56 Ac57.1
    have Sf60_0 := Ac60.safe c58_5.lt Sf57_0
    have Sf60_1 := Ac60.safe V56.lt Sf_b56
    have CR60c := CHr.trans CR57c Ac60
    have c61_3 := c58_3.wr W59 g_b56
    have c61_0 := ha0.ext c61_3.2
    have c61_1 := ha1.ext c61_3.2
    have c61_2 := ha2.ext c61_3.2
    have c61_5 := c58_5.other W59 ne_b5_b56
    have K59 : Keep h0 h59 [] := K56.wr W59 (Or.inr sz_b56)
    have Z59 : n0 ≤ h59.size := Nat.le_trans Z56 (Keep.of_wr W59).1
    refine Go.via st59 ?_
    refine Vi (T59.setTop (mkF m 144 #[sI p0, sI p1, sI p2, sI p3, sI p4, sI p5, sI 3, sI x0, sI x1, sI x2, sI x3, sR b5, .unset, .unset, .unset, .unset, .unset, .unset, .unset] [(.int x1), (.int 1), (.ref b56), (.ref b56)])) (fun tZ kZ => ?_) ?_
    · refine XS.dup X59.here hx rfl (hb hby at_140) rfl rfl ?_
      refine XS.iconst X59.here hx rfl (hb hby at_141) ?_
      refine XS.iload X59.here hx rfl (hb hby at_142) rfl ?_
      exact kZ
    obtain ⟨T62, h62, X62, e62, W62, V62, st62⟩ := AV.castore V59 X59 hx hZ e59 (j := (1 : Int32)) (by decide) (Ls := #[sI p0, sI p1, sI p2, sI p3, sI p4, sI p5, sI 3, sI x0, sI x1, sI x2, sI x3, sR b5, .unset, .unset, .unset, .unset, .unset, .unset, .unset]) (rest := [(.ref b56)]) (hb hby at_144) (x := x1)
    have N62 := Fr.snoc X62 N59 g_b56
    have Ac63 := CHr.wr W62 Sf60_1 Ac60.1
    have Sf63_0 := Ac63.safe c61_5.lt Sf60_0
    have Sf63_1 := Ac63.safe V59.lt Sf60_1
    have CR63c := CHr.trans CR60c Ac63
    have c64_3 := c61_3.wr W62 g_b56
    have c64_0 := ha0.ext c64_3.2
    have c64_1 := ha1.ext c64_3.2
    have c64_2 := ha2.ext c64_3.2
    have c64_5 := c61_5.other W62 ne_b5_b56
    have K62 : Keep h0 h62 [] := K59.wr W62 (Or.inr sz_b56)
    have Z62 : n0 ≤ h62.size := Nat.le_trans Z59 (Keep.of_wr W62).1
    refine Go.via st62 ?_
    refine Vi (T62.setTop (mkF m 149 #[sI p0, sI p1, sI p2, sI p3, sI p4, sI p5, sI 3, sI x0, sI x1, sI x2, sI x3, sR b5, .unset, .unset, .unset, .unset, .unset, .unset, .unset] [(.int x2), (.int 2), (.ref b56), (.ref b56)])) (fun tZ kZ => ?_) ?_
    · refine XS.dup X62.here hx rfl (hb hby at_145) rfl rfl ?_
      refine XS.iconst X62.here hx rfl (hb hby at_146) ?_
      refine XS.iload X62.here hx rfl (hb hby at_147) rfl ?_
      exact kZ
    obtain ⟨T65, h65, X65, e65, W65, V65, st65⟩ := AV.castore V62 X62 hx hZ e62 (j := (2 : Int32)) (by decide) (Ls := #[sI p0, sI p1, sI p2, sI p3, sI p4, sI p5, sI 3, sI x0, sI x1, sI x2, sI x3, sR b5, .unset, .unset, .unset, .unset, .unset, .unset, .unset]) (rest := [(.ref b56)]) (hb hby at_149) (x := x2)
    have N65 := Fr.snoc X65 N62 g_b56
    have Ac66 := CHr.wr W65 Sf63_1 Ac63.1
    have Sf66_0 := Ac66.safe c64_5.lt Sf63_0
    have Sf66_1 := Ac66.safe V62.lt Sf63_1
    have CR66c := CHr.trans CR63c Ac66
    have c67_3 := c64_3.wr W65 g_b56
    have c67_0 := ha0.ext c67_3.2
    have c67_1 := ha1.ext c67_3.2
    have c67_2 := ha2.ext c67_3.2
    have c67_5 := c64_5.other W65 ne_b5_b56
    have K65 : Keep h0 h65 [] := K62.wr W65 (Or.inr sz_b56)
    have Z65 : n0 ≤ h65.size := Nat.le_trans Z62 (Keep.of_wr W65).1
    refine Go.via st65 ?_
    refine Vi (T65.setTop (mkF m 186 #[sI p0, sI p1, sI p2, sI p3, sI p4, sI p5, sI 3, sI x0, sI x1, sI x2, sI x3, sR b5, sR b56, .unset, .unset, .unset, .unset, .unset, .unset] [(.int ((p5 >>> ((4 : Int32) &&& 31)) &&& (1 : Int32)))])) (fun tZ kZ => ?_) ?_
    · refine XS.astore X65.here hx rfl (hb hby at_150) rfl rfl (l' := #[sI p0, sI p1, sI p2, sI p3, sI p4, sI p5, sI 3, sI x0, sI x1, sI x2, sI x3, sR b5, sR b56, .unset, .unset, .unset, .unset, .unset, .unset]) rfl ?_
      refine XS.goto X65.here hx rfl (pc0 := 152) (pc' := 180) rfl (hb hby at_152) (by decide) (by decide) ?_
      refine XS.iload X65.here hx rfl (hb hby at_180) rfl ?_
      refine XS.iconst X65.here hx rfl (hb hby at_182) ?_
      refine XS.ishr X65.here hx rfl (hb hby at_183) rfl ?_
      refine XS.iconst X65.here hx rfl (hb hby at_184) ?_
      refine XS.iand X65.here hx rfl (hb hby at_185) rfl ?_
      exact kZ
    by_cases hc186 : ((p5 >>> ((4 : Int32) &&& 31)) &&& (1 : Int32)) = (0 : Int32)
    · refine Vi (T65.setTop (mkF m 194 #[sI p0, sI p1, sI p2, sI p3, sI p4, sI p5, sI 3, sI x0, sI x1, sI x2, sI x3, sR b5, sR b56, .unset, .unset, .unset, .unset, .unset, .unset] [])) (fun tZ kZ => ?_) ?_
      · show Steps p.tables e below (T65.setTop (mkF m 186 #[sI p0, sI p1, sI p2, sI p3, sI p4, sI p5, sI 3, sI x0, sI x1, sI x2, sI x3, sR b5, sR b56, .unset, .unset, .unset, .unset, .unset, .unset] [(.int ((p5 >>> ((4 : Int32) &&& 31)) &&& (1 : Int32)))])) _
        refine XS.ifYes X65.here hx rfl (pc0 := 186) (pc' := 194) rfl (hb hby at_186) rfl ((if0 _ _).trans (teq hc186).1) (by decide) (by decide) ?_
        exact kZ
      obtain ⟨as68, T68, h68, kk68, ab68, kc68, X68, e68, E68, hS68, hk68, hZ, hown, Ea68, Fc68, Fv68, Ar68, -, -, A68, -, nS68, st68⟩ := ldcCH (s := s) (vm0 := s.vm) (EL := own_EL) X65 hx hZ hown (wq hw 6 rfl) wS e65 hS0 (Nat.zero_le _) (own_EW hw) (by simp [own_EL]) Ac66.1 (vs := ([] : List Int32).map Value.int) (z := 0) ⟨by decide, by decide +kernel⟩ (by decide) rfl (g := (mkF m 194 #[sI p0, sI p1, sI p2, sI p3, sI p4, sI p5, sI 3, sI x0, sI x1, sI x2, sI x3, sR b5, sR b56, .unset, .unset, .unset, .unset, .unset, .unset] [])) rfl (hb hby at_194) (n := 64) (by decide) (by decide) (by decide) (by decide)
      have Sf69_0 := A68.safe c67_5.lt Sf66_0
      have Sf69_1 := A68.safe V65.lt Sf66_1
      have CR69c := CHr.trans CR66c A68
      have c70_3 := c67_3.ext E68
      have c70_0 := ha0.ext c70_3.2
      have c70_1 := ha1.ext c70_3.2
      have c70_2 := ha2.ext c70_3.2
      have c70_5 := c67_5.ext E68
      have c70_7 := V65.ext E68
      have Va68 := AV.ofArv Ar68 (n := 0) rfl (by decide)
      have K68 : Keep h0 h68 [] := K65.ext E68
      have Z68 : n0 ≤ h68.size := Nat.le_trans Z65 E68.1
      have ne_b5_as68 := (nS68 b5 Sf69_0).1
      have ne_b5_ab68 := (nS68 b5 Sf69_0).2
      have ne_b56_as68 := (nS68 b56 Sf69_1).1
      have ne_b56_ab68 := (nS68 b56 Sf69_1).2
      refine Go.via st68 ?_
      refine Vi (T68.setTop (mkF m 198 #[sI p0, sI p1, sI p2, sI p3, sI p4, sI p5, sI 3, sI x0, sI x1, sI x2, sI x3, sR b5, sR b56, sR as68, .unset, .unset, .unset, .unset, .unset] [])) (fun tZ kZ => ?_) ?_
      · refine XS.astore X68.here hx rfl (hb hby at_196) rfl rfl (l' := #[sI p0, sI p1, sI p2, sI p3, sI p4, sI p5, sI 3, sI x0, sI x1, sI x2, sI x3, sR b5, sR b56, sR as68, .unset, .unset, .unset, .unset, .unset]) rfl ?_
        exact kZ
      exact ta_3 l Z a0 hw (s := s) (vmT := T68.vm) ⟨X68, hx, hby, hml, Bd.notSynchronized, Bd.returns, hZ, hown, wS, Z68, e68, N65, hS68, hk68, A68.1, hx0, hx1, hx2, hx3, hcs, hsv, ha0, ha1, ha2, c70_3, c70_5⟩ p0 p1 p2 p3 p4 p5 b56 as68 c70_7
    · refine Vi (T65.setTop (mkF m 189 #[sI p0, sI p1, sI p2, sI p3, sI p4, sI p5, sI 3, sI x0, sI x1, sI x2, sI x3, sR b5, sR b56, .unset, .unset, .unset, .unset, .unset, .unset] [])) (fun tZ kZ => ?_) ?_
      · show Steps p.tables e below (T65.setTop (mkF m 186 #[sI p0, sI p1, sI p2, sI p3, sI p4, sI p5, sI 3, sI x0, sI x1, sI x2, sI x3, sR b5, sR b56, .unset, .unset, .unset, .unset, .unset, .unset] [(.int ((p5 >>> ((4 : Int32) &&& 31)) &&& (1 : Int32)))])) _
        refine XS.ifNo X65.here hx rfl (hb hby at_186) rfl ((if0 _ _).trans (feq hc186).1) ?_
        exact kZ
      obtain ⟨as71, T71, h71, kk71, ab71, kc71, X71, e71, E71, hS71, hk71, hZ, hown, Ea71, Fc71, Fv71, Ar71, -, -, A71, -, nS71, st71⟩ := ldcCH (s := s) (vm0 := s.vm) (EL := own_EL) X65 hx hZ hown (wq hw 161 rfl) wS e65 hS0 (Nat.zero_le _) (own_EW hw) (by simp [own_EL]) Ac66.1 (vs := ([106, 97, 118, 97, 46, 108, 97, 110, 103] : List Int32).map Value.int) (z := 9) ⟨by decide, by decide +kernel⟩ (by decide) rfl (g := (mkF m 189 #[sI p0, sI p1, sI p2, sI p3, sI p4, sI p5, sI 3, sI x0, sI x1, sI x2, sI x3, sR b5, sR b56, .unset, .unset, .unset, .unset, .unset, .unset] [])) rfl (hb hby at_189) (n := 64) (by decide) (by decide) (by decide) (by decide)
      have Sf72_0 := A71.safe c67_5.lt Sf66_0
      have Sf72_1 := A71.safe V65.lt Sf66_1
      have CR72c := CHr.trans CR66c A71
      have c73_3 := c67_3.ext E71
      have c73_0 := ha0.ext c73_3.2
      have c73_1 := ha1.ext c73_3.2
      have c73_2 := ha2.ext c73_3.2
      have c73_5 := c67_5.ext E71
      have c73_7 := V65.ext E71
      have Va71 := AV.ofArv Ar71 (n := 9) rfl (by decide)
      have K71 : Keep h0 h71 [] := K65.ext E71
      have Z71 : n0 ≤ h71.size := Nat.le_trans Z65 E71.1
      have ne_b5_as71 := (nS71 b5 Sf72_0).1
      have ne_b5_ab71 := (nS71 b5 Sf72_0).2
      have ne_b56_as71 := (nS71 b56 Sf72_1).1
      have ne_b56_ab71 := (nS71 b56 Sf72_1).2
      refine Go.via st71 ?_
      refine Vi (T71.setTop (mkF m 198 #[sI p0, sI p1, sI p2, sI p3, sI p4, sI p5, sI 3, sI x0, sI x1, sI x2, sI x3, sR b5, sR b56, sR as71, .unset, .unset, .unset, .unset, .unset] [])) (fun tZ kZ => ?_) ?_
      · refine XS.goto X71.here hx rfl (pc0 := 191) (pc' := 196) rfl (hb hby at_191) (by decide) (by decide) ?_
        refine XS.astore X71.here hx rfl (hb hby at_196) rfl rfl (l' := #[sI p0, sI p1, sI p2, sI p3, sI p4, sI p5, sI 3, sI x0, sI x1, sI x2, sI x3, sR b5, sR b56, sR as71, .unset, .unset, .unset, .unset, .unset]) rfl ?_
        exact kZ
      exact ta_3 l Z a0 hw (s := s) (vmT := T71.vm) ⟨X71, hx, hby, hml, Bd.notSynchronized, Bd.returns, hZ, hown, wS, Z71, e71, N65, hS71, hk71, A71.1, hx0, hx1, hx2, hx3, hcs, hsv, ha0, ha1, ha2, c73_3, c73_5⟩ p0 p1 p2 p3 p4 p5 b56 as71 c73_7
  · rw [hn]
    show Go p e below _ (T17.setTop (mkF m 70 #[sI p0, sI p1, sI p2, sI p3, sI p4, sI p5, sI 4, sI x0, sI x1, sI x2, sI x3, sR b5, .unset, .unset, .unset, .unset, .unset, .unset, .unset] []))
    refine Vi (T17.setTop (mkF m 156 #[sI p0, sI p1, sI p2, sI p3, sI p4, sI p5, sI 4, sI x0, sI x1, sI x2, sI x3, sR b5, .unset, .unset, .unset, .unset, .unset, .unset, .unset] [(.int 4)])) (fun tZ kZ => ?_) ?_
    · refine XS.iload X17.here hx rfl (hb hby at_70) rfl ?_
      refine XS.ifYes X17.here hx rfl (pc0 := 72) (pc' := 83) rfl (hb hby at_72) rfl ((if0 _ _).trans (feq (by decide)).2) (by decide) (by decide) ?_
      refine XS.iload X17.here hx rfl (hb hby at_83) rfl ?_
      refine XS.iconst X17.here hx rfl (hb hby at_85) ?_
      refine XS.icmpYes X17.here hx rfl (pc0 := 86) (pc' := 102) rfl (hb hby at_86) rfl (feq (by decide)).2 (by decide) (by decide) ?_
      refine XS.iload X17.here hx rfl (hb hby at_102) rfl ?_
      refine XS.iconst X17.here hx rfl (hb hby at_104) ?_
      refine XS.icmpYes X17.here hx rfl (pc0 := 105) (pc' := 126) rfl (hb hby at_105) rfl (feq (by decide)).2 (by decide) (by decide) ?_
      refine XS.iload X17.here hx rfl (hb hby at_126) rfl ?_
      refine XS.iconst X17.here hx rfl (hb hby at_128) ?_
      refine XS.icmpYes X17.here hx rfl (pc0 := 129) (pc' := 155) rfl (hb hby at_129) rfl (feq (by decide)).2 (by decide) (by decide) ?_
      refine XS.iconst X17.here hx rfl (hb hby at_155) ?_
      exact kZ
    obtain ⟨T74, h74, k74, X74, e74, E74, A74, B74, st74⟩ := newPE X17 hx hZ (wq hw 5 rfl) e17 (g := (mkF m 156 #[sI p0, sI p1, sI p2, sI p3, sI p4, sI p5, sI 4, sI x0, sI x1, sI x2, sI x3, sR b5, .unset, .unset, .unset, .unset, .unset, .unset, .unset] [(.int 4)])) rfl (hb hby at_156) rfl (by decide) (cap := 4) (by decide) (by decide) (by decide) (by decide) (ad := "[C") rfl
    obtain ⟨b74, g74⟩ : ∃ z, z = h17.size := ⟨_, rfl⟩
    rw [← g74] at A74 B74 st74
    have g_b74 : n0 ≤ b74 := Nat.le_trans Z17 (Nat.le_of_eq g74.symm)
    have sz_b74 : h0.size ≤ b74 := Nat.le_trans (K17).1 (Nat.le_of_eq g74.symm)
    have ne_b5_b74 : b5 ≠ b74 := Nat.ne_of_lt (Nat.lt_of_lt_of_le V17.lt (Nat.le_of_eq g74.symm))
    have Ac75 := CHr.ext E74 Ac18.1
    have Sf75_0 := Ac75.safe V17.lt Sf18_0
    have CR75c := CHr.trans CR18c Ac75
    have c76_3 := c19_3.ext E74
    have c76_0 := ha0.ext c76_3.2
    have c76_1 := ha1.ext c76_3.2
    have c76_2 := ha2.ext c76_3.2
    have c76_5 := V17.ext E74
    have K74 : Keep h0 h74 [] := K17.ext E74
    have Z74 : n0 ≤ h74.size := Nat.le_trans Z17 E74.1
    have Sf_b74 := Safe.ext E74 Ac18.1 (Safe.new (Nat.le_of_eq g74.symm))
    have V74 : AV Z h74 b74 .char 4 (fun k => .int ((fun _ => (0 : Int32)) k)) := by have q := AV.new A74; exact q
    refine Go.via st74 ?_
    refine Vi (T74.setTop (mkF m 162 #[sI p0, sI p1, sI p2, sI p3, sI p4, sI p5, sI 4, sI x0, sI x1, sI x2, sI x3, sR b5, .unset, .unset, .unset, .unset, .unset, .unset, .unset] [(.int x0), (.int 0), (.ref b74), (.ref b74)])) (fun tZ kZ => ?_) ?_
    · refine XS.dup X74.here hx rfl (hb hby at_158) rfl rfl ?_
      refine XS.iconst X74.here hx rfl (hb hby at_159) ?_
      refine XS.iload X74.here hx rfl (hb hby at_160) rfl ?_
      exact kZ
    obtain ⟨T77, h77, X77, e77, W77, V77, st77⟩ := AV.castore V74 X74 hx hZ e74 (j := (0 : Int32)) (by decide) (Ls := #[sI p0, sI p1, sI p2, sI p3, sI p4, sI p5, sI 4, sI x0, sI x1, sI x2, sI x3, sR b5, .unset, .unset, .unset, .unset, .unset, .unset, .unset]) (rest := [(.ref b74)]) (hb hby at_162) (x := x0)
    have N77 := Fr.snoc X77 N17 g_b74
    have Ac78 := CHr.wr W77 Sf_b74 Ac75.1
    have Sf78_0 := Ac78.safe c76_5.lt Sf75_0
    have Sf78_1 := Ac78.safe V74.lt Sf_b74
    have CR78c := CHr.trans CR75c Ac78
    have c79_3 := c76_3.wr W77 g_b74
    have c79_0 := ha0.ext c79_3.2
    have c79_1 := ha1.ext c79_3.2
    have c79_2 := ha2.ext c79_3.2
    have c79_5 := c76_5.other W77 ne_b5_b74
    have K77 : Keep h0 h77 [] := K74.wr W77 (Or.inr sz_b74)
    have Z77 : n0 ≤ h77.size := Nat.le_trans Z74 (Keep.of_wr W77).1
    refine Go.via st77 ?_
    refine Vi (T77.setTop (mkF m 167 #[sI p0, sI p1, sI p2, sI p3, sI p4, sI p5, sI 4, sI x0, sI x1, sI x2, sI x3, sR b5, .unset, .unset, .unset, .unset, .unset, .unset, .unset] [(.int x1), (.int 1), (.ref b74), (.ref b74)])) (fun tZ kZ => ?_) ?_
    · refine XS.dup X77.here hx rfl (hb hby at_163) rfl rfl ?_
      refine XS.iconst X77.here hx rfl (hb hby at_164) ?_
      refine XS.iload X77.here hx rfl (hb hby at_165) rfl ?_
      exact kZ
    obtain ⟨T80, h80, X80, e80, W80, V80, st80⟩ := AV.castore V77 X77 hx hZ e77 (j := (1 : Int32)) (by decide) (Ls := #[sI p0, sI p1, sI p2, sI p3, sI p4, sI p5, sI 4, sI x0, sI x1, sI x2, sI x3, sR b5, .unset, .unset, .unset, .unset, .unset, .unset, .unset]) (rest := [(.ref b74)]) (hb hby at_167) (x := x1)
    have N80 := Fr.snoc X80 N77 g_b74
    have Ac81 := CHr.wr W80 Sf78_1 Ac78.1
    have Sf81_0 := Ac81.safe c79_5.lt Sf78_0
    have Sf81_1 := Ac81.safe V77.lt Sf78_1
    have CR81c := CHr.trans CR78c Ac81
    have c82_3 := c79_3.wr W80 g_b74
    have c82_0 := ha0.ext c82_3.2
    have c82_1 := ha1.ext c82_3.2
    have c82_2 := ha2.ext c82_3.2
    have c82_5 := c79_5.other W80 ne_b5_b74
    have K80 : Keep h0 h80 [] := K77.wr W80 (Or.inr sz_b74)
    have Z80 : n0 ≤ h80.size := Nat.le_trans Z77 (Keep.of_wr W80).1
    refine Go.via st80 ?_
    refine Vi (T80.setTop (mkF m 172 #[sI p0, sI p1, sI p2, sI p3, sI p4, sI p5, sI 4, sI x0, sI x1, sI x2, sI x3, sR b5, .unset, .unset, .unset, .unset, .unset, .unset, .unset] [(.int x2), (.int 2), (.ref b74), (.ref b74)])) (fun tZ kZ => ?_) ?_
    · refine XS.dup X80.here hx rfl (hb hby at_168) rfl rfl ?_
      refine XS.iconst X80.here hx rfl (hb hby at_169) ?_
      refine XS.iload X80.here hx rfl (hb hby at_170) rfl ?_
      exact kZ
    obtain ⟨T83, h83, X83, e83, W83, V83, st83⟩ := AV.castore V80 X80 hx hZ e80 (j := (2 : Int32)) (by decide) (Ls := #[sI p0, sI p1, sI p2, sI p3, sI p4, sI p5, sI 4, sI x0, sI x1, sI x2, sI x3, sR b5, .unset, .unset, .unset, .unset, .unset, .unset, .unset]) (rest := [(.ref b74)]) (hb hby at_172) (x := x2)
    have N83 := Fr.snoc X83 N80 g_b74
    have Ac84 := CHr.wr W83 Sf81_1 Ac81.1
    have Sf84_0 := Ac84.safe c82_5.lt Sf81_0
    have Sf84_1 := Ac84.safe V80.lt Sf81_1
    have CR84c := CHr.trans CR81c Ac84
    have c85_3 := c82_3.wr W83 g_b74
    have c85_0 := ha0.ext c85_3.2
    have c85_1 := ha1.ext c85_3.2
    have c85_2 := ha2.ext c85_3.2
    have c85_5 := c82_5.other W83 ne_b5_b74
    have K83 : Keep h0 h83 [] := K80.wr W83 (Or.inr sz_b74)
    have Z83 : n0 ≤ h83.size := Nat.le_trans Z80 (Keep.of_wr W83).1
    refine Go.via st83 ?_
    refine Vi (T83.setTop (mkF m 177 #[sI p0, sI p1, sI p2, sI p3, sI p4, sI p5, sI 4, sI x0, sI x1, sI x2, sI x3, sR b5, .unset, .unset, .unset, .unset, .unset, .unset, .unset] [(.int x3), (.int 3), (.ref b74), (.ref b74)])) (fun tZ kZ => ?_) ?_
    · refine XS.dup X83.here hx rfl (hb hby at_173) rfl rfl ?_
      refine XS.iconst X83.here hx rfl (hb hby at_174) ?_
      refine XS.iload X83.here hx rfl (hb hby at_175) rfl ?_
      exact kZ
    obtain ⟨T86, h86, X86, e86, W86, V86, st86⟩ := AV.castore V83 X83 hx hZ e83 (j := (3 : Int32)) (by decide) (Ls := #[sI p0, sI p1, sI p2, sI p3, sI p4, sI p5, sI 4, sI x0, sI x1, sI x2, sI x3, sR b5, .unset, .unset, .unset, .unset, .unset, .unset, .unset]) (rest := [(.ref b74)]) (hb hby at_177) (x := x3)
    have N86 := Fr.snoc X86 N83 g_b74
    have Ac87 := CHr.wr W86 Sf84_1 Ac84.1
    have Sf87_0 := Ac87.safe c85_5.lt Sf84_0
    have Sf87_1 := Ac87.safe V83.lt Sf84_1
    have CR87c := CHr.trans CR84c Ac87
    have c88_3 := c85_3.wr W86 g_b74
    have c88_0 := ha0.ext c88_3.2
    have c88_1 := ha1.ext c88_3.2
    have c88_2 := ha2.ext c88_3.2
    have c88_5 := c85_5.other W86 ne_b5_b74
    have K86 : Keep h0 h86 [] := K83.wr W86 (Or.inr sz_b74)
    have Z86 : n0 ≤ h86.size := Nat.le_trans Z83 (Keep.of_wr W86).1
    refine Go.via st86 ?_
    refine Vi (T86.setTop (mkF m 186 #[sI p0, sI p1, sI p2, sI p3, sI p4, sI p5, sI 4, sI x0, sI x1, sI x2, sI x3, sR b5, sR b74, .unset, .unset, .unset, .unset, .unset, .unset] [(.int ((p5 >>> ((4 : Int32) &&& 31)) &&& (1 : Int32)))])) (fun tZ kZ => ?_) ?_
    · refine XS.astore X86.here hx rfl (hb hby at_178) rfl rfl (l' := #[sI p0, sI p1, sI p2, sI p3, sI p4, sI p5, sI 4, sI x0, sI x1, sI x2, sI x3, sR b5, sR b74, .unset, .unset, .unset, .unset, .unset, .unset]) rfl ?_
      refine XS.iload X86.here hx rfl (hb hby at_180) rfl ?_
      refine XS.iconst X86.here hx rfl (hb hby at_182) ?_
      refine XS.ishr X86.here hx rfl (hb hby at_183) rfl ?_
      refine XS.iconst X86.here hx rfl (hb hby at_184) ?_
      refine XS.iand X86.here hx rfl (hb hby at_185) rfl ?_
      exact kZ
    by_cases hc186 : ((p5 >>> ((4 : Int32) &&& 31)) &&& (1 : Int32)) = (0 : Int32)
    · refine Vi (T86.setTop (mkF m 194 #[sI p0, sI p1, sI p2, sI p3, sI p4, sI p5, sI 4, sI x0, sI x1, sI x2, sI x3, sR b5, sR b74, .unset, .unset, .unset, .unset, .unset, .unset] [])) (fun tZ kZ => ?_) ?_
      · show Steps p.tables e below (T86.setTop (mkF m 186 #[sI p0, sI p1, sI p2, sI p3, sI p4, sI p5, sI 4, sI x0, sI x1, sI x2, sI x3, sR b5, sR b74, .unset, .unset, .unset, .unset, .unset, .unset] [(.int ((p5 >>> ((4 : Int32) &&& 31)) &&& (1 : Int32)))])) _
        refine XS.ifYes X86.here hx rfl (pc0 := 186) (pc' := 194) rfl (hb hby at_186) rfl ((if0 _ _).trans (teq hc186).1) (by decide) (by decide) ?_
        exact kZ
      obtain ⟨as89, T89, h89, kk89, ab89, kc89, X89, e89, E89, hS89, hk89, hZ, hown, Ea89, Fc89, Fv89, Ar89, -, -, A89, -, nS89, st89⟩ := ldcCH (s := s) (vm0 := s.vm) (EL := own_EL) X86 hx hZ hown (wq hw 6 rfl) wS e86 hS0 (Nat.zero_le _) (own_EW hw) (by simp [own_EL]) Ac87.1 (vs := ([] : List Int32).map Value.int) (z := 0) ⟨by decide, by decide +kernel⟩ (by decide) rfl (g := (mkF m 194 #[sI p0, sI p1, sI p2, sI p3, sI p4, sI p5, sI 4, sI x0, sI x1, sI x2, sI x3, sR b5, sR b74, .unset, .unset, .unset, .unset, .unset, .unset] [])) rfl (hb hby at_194) (n := 64) (by decide) (by decide) (by decide) (by decide)
      have Sf90_0 := A89.safe c88_5.lt Sf87_0
      have Sf90_1 := A89.safe V86.lt Sf87_1
      have CR90c := CHr.trans CR87c A89
      have c91_3 := c88_3.ext E89
      have c91_0 := ha0.ext c91_3.2
      have c91_1 := ha1.ext c91_3.2
      have c91_2 := ha2.ext c91_3.2
      have c91_5 := c88_5.ext E89
      have c91_7 := V86.ext E89
      have Va89 := AV.ofArv Ar89 (n := 0) rfl (by decide)
      have K89 : Keep h0 h89 [] := K86.ext E89
      have Z89 : n0 ≤ h89.size := Nat.le_trans Z86 E89.1
      have ne_b5_as89 := (nS89 b5 Sf90_0).1
      have ne_b5_ab89 := (nS89 b5 Sf90_0).2
      have ne_b74_as89 := (nS89 b74 Sf90_1).1
      have ne_b74_ab89 := (nS89 b74 Sf90_1).2
      refine Go.via st89 ?_
      refine Vi (T89.setTop (mkF m 198 #[sI p0, sI p1, sI p2, sI p3, sI p4, sI p5, sI 4, sI x0, sI x1, sI x2, sI x3, sR b5, sR b74, sR as89, .unset, .unset, .unset, .unset, .unset] [])) (fun tZ kZ => ?_) ?_
      · refine XS.astore X89.here hx rfl (hb hby at_196) rfl rfl (l' := #[sI p0, sI p1, sI p2, sI p3, sI p4, sI p5, sI 4, sI x0, sI x1, sI x2, sI x3, sR b5, sR b74, sR as89, .unset, .unset, .unset, .unset, .unset]) rfl ?_
        exact kZ
      exact ta_4 l Z a0 hw (s := s) (vmT := T89.vm) ⟨X89, hx, hby, hml, Bd.notSynchronized, Bd.returns, hZ, hown, wS, Z89, e89, N86, hS89, hk89, A89.1, hx0, hx1, hx2, hx3, hcs, hsv, ha0, ha1, ha2, c91_3, c91_5⟩ p0 p1 p2 p3 p4 p5 b74 as89 c91_7
    · refine Vi (T86.setTop (mkF m 189 #[sI p0, sI p1, sI p2, sI p3, sI p4, sI p5, sI 4, sI x0, sI x1, sI x2, sI x3, sR b5, sR b74, .unset, .unset, .unset, .unset, .unset, .unset] [])) (fun tZ kZ => ?_) ?_
      · show Steps p.tables e below (T86.setTop (mkF m 186 #[sI p0, sI p1, sI p2, sI p3, sI p4, sI p5, sI 4, sI x0, sI x1, sI x2, sI x3, sR b5, sR b74, .unset, .unset, .unset, .unset, .unset, .unset] [(.int ((p5 >>> ((4 : Int32) &&& 31)) &&& (1 : Int32)))])) _
        refine XS.ifNo X86.here hx rfl (hb hby at_186) rfl ((if0 _ _).trans (feq hc186).1) ?_
        exact kZ
      obtain ⟨as92, T92, h92, kk92, ab92, kc92, X92, e92, E92, hS92, hk92, hZ, hown, Ea92, Fc92, Fv92, Ar92, -, -, A92, -, nS92, st92⟩ := ldcCH (s := s) (vm0 := s.vm) (EL := own_EL) X86 hx hZ hown (wq hw 161 rfl) wS e86 hS0 (Nat.zero_le _) (own_EW hw) (by simp [own_EL]) Ac87.1 (vs := ([106, 97, 118, 97, 46, 108, 97, 110, 103] : List Int32).map Value.int) (z := 9) ⟨by decide, by decide +kernel⟩ (by decide) rfl (g := (mkF m 189 #[sI p0, sI p1, sI p2, sI p3, sI p4, sI p5, sI 4, sI x0, sI x1, sI x2, sI x3, sR b5, sR b74, .unset, .unset, .unset, .unset, .unset, .unset] [])) rfl (hb hby at_189) (n := 64) (by decide) (by decide) (by decide) (by decide)
      have Sf93_0 := A92.safe c88_5.lt Sf87_0
      have Sf93_1 := A92.safe V86.lt Sf87_1
      have CR93c := CHr.trans CR87c A92
      have c94_3 := c88_3.ext E92
      have c94_0 := ha0.ext c94_3.2
      have c94_1 := ha1.ext c94_3.2
      have c94_2 := ha2.ext c94_3.2
      have c94_5 := c88_5.ext E92
      have c94_7 := V86.ext E92
      have Va92 := AV.ofArv Ar92 (n := 9) rfl (by decide)
      have K92 : Keep h0 h92 [] := K86.ext E92
      have Z92 : n0 ≤ h92.size := Nat.le_trans Z86 E92.1
      have ne_b5_as92 := (nS92 b5 Sf93_0).1
      have ne_b5_ab92 := (nS92 b5 Sf93_0).2
      have ne_b74_as92 := (nS92 b74 Sf93_1).1
      have ne_b74_ab92 := (nS92 b74 Sf93_1).2
      refine Go.via st92 ?_
      refine Vi (T92.setTop (mkF m 198 #[sI p0, sI p1, sI p2, sI p3, sI p4, sI p5, sI 4, sI x0, sI x1, sI x2, sI x3, sR b5, sR b74, sR as92, .unset, .unset, .unset, .unset, .unset] [])) (fun tZ kZ => ?_) ?_
      · refine XS.goto X92.here hx rfl (pc0 := 191) (pc' := 196) rfl (hb hby at_191) (by decide) (by decide) ?_
        refine XS.astore X92.here hx rfl (hb hby at_196) rfl rfl (l' := #[sI p0, sI p1, sI p2, sI p3, sI p4, sI p5, sI 4, sI x0, sI x1, sI x2, sI x3, sR b5, sR b74, sR as92, .unset, .unset, .unset, .unset, .unset]) rfl ?_
        exact kZ
      exact ta_4 l Z a0 hw (s := s) (vmT := T92.vm) ⟨X92, hx, hby, hml, Bd.notSynchronized, Bd.returns, hZ, hown, wS, Z92, e92, N86, hS92, hk92, A92.1, hx0, hx1, hx2, hx3, hcs, hsv, ha0, ha1, ha2, c94_3, c94_5⟩ p0 p1 p2 p3 p4 p5 b74 as92 c94_7
theorem comes_1 {Post : Tables → Env → Array Value → State → Outcome → State → Prop} (hpost : ∀ tb e args s v u, (limb_1_1.after args s (.returned v) u = true ∧ limb_1_2.after args s (.returned v) u = true ∧ True) → ReturnedEndW s (.returned v) u (Jvm.fieldLocs frame_1_writes args s ++ Jvm.arrayLocs frame_1_arrays args s ++ Jvm.staticLocs frame_1_statics s) 32 4288 → Post tb e args s (.returned v) u) :
    ArmFor flags0 classFile x code maxLocals ret World_1 tables_1 room_1 Calls_1 rest_1 Pre_1 Post := by
  intro l hfl _ _ p e ha hc hk s m args below hf hA hF happ hP
  obtain ⟨hcalls, hrest, hpre⟩ := hP
  obtain ⟨-, -, -, hnamed, -, -, -, hat⟩ := (Spec.applies_iff hf).mp happ
  obtain ⟨hg, hn⟩ := and_e (Cond.before_iff.mp (show (Jvm.Cond.and given_1 narrow_1).before args s = true from hpre))
  obtain ⟨g1, g2⟩ := and_e hg
  obtain ⟨g3, g4⟩ := and_e g2
  obtain ⟨g5, g6⟩ := and_e g4
  obtain ⟨g7, g8⟩ := and_e g6
  obtain ⟨g9, g10⟩ := and_e g8
  obtain ⟨g11, g12⟩ := and_e g10
  obtain ⟨w0, w1, w2, w3, w4, w5, rfl⟩ : ∃ w0 w1 w2 w3 w4 w5 : Value, args = #[w0, w1, w2, w3, w4, w5] := by
    have hs : args.size = 6 := by simpa [Cond.value, given_1] using g1
    obtain ⟨L⟩ := args
    match L, hs with
    | [w0, w1, w2, w3, w4, w5], _ => exact ⟨w0, w1, w2, w3, w4, w5, rfl⟩
  have hw := fun d (hd : d ∈ tables_1) => atoms_spec (ws := Jvm.Cond.code x code maxLocals ret :: tables_1) hat d (List.mem_cons_of_mem _ hd)
  have hfit : Fit s := fun {y c} hc i hi => by
    obtain ⟨ha, rfl⟩ := Array.getElem?_eq_some_iff.mp hc
    have q := List.all_eq_true.mp ((Array.all_eq_true_iff_forall_mem.mp hF) _ (Array.getElem_mem ha)) i (List.mem_range.mpr hi)
    simpa [Array.getElem?_eq_getElem hi] using q
  obtain ⟨hsets, hown0⟩ := atoms_of _ (rest_1_c_eq ▸ (show rest_1_c.before _ s = true from hrest))
  have hr0 := Cond.before_iff.mp hown0
  obtain ⟨i0, ei0⟩ := is_v g3
  obtain rfl : w0 = (.int i0) := Option.some.inj ei0
  obtain ⟨i1, ei1⟩ := is_v g5
  obtain rfl : w1 = (.int i1) := Option.some.inj ei1
  obtain ⟨i2, ei2⟩ := is_v g7
  obtain rfl : w2 = (.int i2) := Option.some.inj ei2
  obtain ⟨i3, ei3⟩ := is_v g9
  obtain rfl : w3 = (.int i3) := Option.some.inj ei3
  obtain ⟨i4, ei4⟩ := is_v g11
  obtain rfl : w4 = (.int i4) := Option.some.inj ei4
  obtain ⟨i5, ei5⟩ := is_v g12
  obtain rfl : w5 = (.int i5) := Option.some.inj ei5
  obtain ⟨em, evEM⟩ := exa_v (Cond.before_iff.mp (hsets _ (List.mem_of_getElem? (i := 2) rfl)))
  have S_EM : Sta s s.heap "java/util/Optional" "EMPTY" "Ljava/util/Optional;" (.ref em) := Sta.start evEM (Or.inl (hsets _ (List.mem_of_getElem? (i := 1) rfl)))
  obtain ⟨cs, evCS⟩ := is_v (Cond.before_iff.mp (hsets _ (List.mem_of_getElem? (i := 5) rfl)))
  have S_CS : Sta s s.heap "java/lang/String" "COMPACT_STRINGS" "Z" (.int cs) := Sta.start evCS (Or.inl (hsets _ (List.mem_of_getElem? (i := 4) rfl)))
  have hcs : ¬ cs = 0 := gotF (Cond.eq_ints evCS (Term.int_eval 0)) (not_v (Cond.before_iff.mp (hsets _ (List.mem_of_getElem? (i := 6) rfl))))
  obtain ⟨sv, evSV, hsv⟩ := isR_v (Cond.before_iff.mp (hsets _ (List.mem_of_getElem? (i := 12) rfl)))
  have S_SV : Sta s s.heap "jdk/internal/util/Preconditions" "SIOOBE_FORMATTER" "Ljava/util/function/BiFunction;" sv := Sta.start evSV (Or.inl (hsets _ (List.mem_of_getElem? (i := 11) rfl)))
  have hCH : CHv s own_EL s.vm s.heap := CHv.start (own_EW hw) (fun p hp => hcalls.1 p (by revert p; decide)) (hsets _ (List.mem_of_getElem? (i := 6) rfl)) (wq hw 9 rfl) (wq hw 8 rfl)
  obtain ⟨n, o, h1, h2, h3, _, L, rfl, ⟨rfl, N⟩, hq⟩ := rm0 l s _ hw tables_1 i0 i1 i2 i3 i4 i5 cs sv em s.heap s.heap.size (Nat.le_refl _) S_CS S_SV S_EM (Old.start s) hcs hsv p e ha hc hk s m _ below hf ((Spec.applies_iff_loose hf).mp happ).1 ⟨rfl, State.Warmed39.refl s, rfl, hCH⟩ trivial
  refine ⟨n, _, h1, h2, h3, hpost _ _ _ _ _ _ ⟨Cond.after_iff.mpr rfl, Cond.after_iff.mpr (eq_i res_at (Term.int_eval (1)) rfl), trivial⟩ ⟨hq.1, hq.2.1, hq.2.2.1, (hq.2.2.2.sift fun y hy => Or.inr (N y hy)).mono (by decide) (by decide)⟩⟩
theorem main_1_1 : Claimed_1_1 := comes_1 fun _ _ _ _ _ _ h hF => ⟨h.1, hF⟩
theorem main_1_2 : Claimed_1_2 := comes_1 fun _ _ _ _ _ _ h hF => ⟨h.2.1, hF⟩
end Jvm.Pilot.@@N@@
namespace Jvm.Pilot.@@N@@
open Jvm Jvm.ClassFile Sem Op Lib Jvm.Free Jvm.Stand Jvm.Pilot.@@N@@.Jvm.D
/-! MADE BY PROGRAM (witnessworld.py) out of the Statement's table words and the real class files: 25 classes; the members and pool entries that the words name. The judged class is class 1, her method 2. -/
namespace start1
open Jvm.ClassFile
def u (s : String) : CpInfo := .utf8 (stringToUtf16 s)
/-- a pool by its gaps: so many unusable entries, then the entry; so many at the end -/
def gap : Nat → List CpInfo → List CpInfo
  | 0, r => r
  | n + 1, r => .unusable :: gap n r
def poolList (es : List (Nat × CpInfo)) (last : Nat) : List CpInfo := es.foldr (fun e r => gap e.1 (e.2 :: r)) (gap last [])
def pool (es : List (Nat × CpInfo)) (last : Nat) : Array CpInfo := ⟨poolList es last⟩
def fileOf (pool : Array CpInfo) (this : Nat) (attrs : Array Attribute := #[]) (ms : Array MethodInfo := #[]) (fl : Nat := 33) (sup : Nat := 0) (ifs : Array Nat := #[]) (fds : Array FieldInfo := #[]) : ClassFile where
  minorVersion := 0
  majorVersion := 65
  constantPool := pool
  accessFlags := fl
  thisClass := this
  superClass := sup
  interfaces := ifs
  fields := fds
  methods := ms
  attributes := attrs
def plain (name : String) (sup : Option ClassId) : Class where
  name := name
  kind := .ordinary
  loader := none
  accessFlags := 33
  super := sup
  interfaces := #[]
  cf := none
  fields := #[]
  methods := #[]
  instanceTypes := #[]
  staticTypes := #[]
  resolved := #[]
  callSites := []
  init := .initialized
  statics := none
  mirror := none

def pool0 : Array CpInfo := pool [(5, u "<init>"), (0, u "()V"), (1, .class_ 10), (1, u "java/lang/Object")] 113

def k0c0 : Code := { maxStack := 0, maxLocals := 1, code := object_method_1_code, exceptionTable := #[], attributes := #[] }
def k0m0 : Method := { name := "<init>", desc := "()V", sig := { parameters := [], returnType := none }, accessFlags := 1, code := some k0c0 }
/-- java/lang/Object -/
def k0 : Class := { plain "java/lang/Object" none with
  accessFlags := 33
  interfaces := #[]
  cf := some (fileOf pool0 8 #[] #[{ accessFlags := 1, nameIndex := 5, descriptorIndex := 6, attributes := #[] }] 33 0 #[] #[])
  fields := #[]
  methods := #[k0m0]
  instanceTypes := #[]
  staticTypes := #[]
  resolved := Array.replicate 124 none
  statics := none }

def pool1 : Array CpInfo := pool [(2, .class_ 4), (1, u "java/lang/Object"), (0, u "<init>"), (0, u "()V"), (0, .integer 2147483647), (0, .methodref 9 10), (0, .class_ 11), (0, .nameAndType 12 13), (0, u "com/example/bindery/bindery/compiler/JavaTypeSimpleNamePinLaw"), (0, u "pick"), (0, u "(III)C"), (0, .string 15), (0, u "java.lang"), (0, .string 17), (0, u ""), (0, .class_ 19), (0, u "com/example/bindery/bindery/compiler/JavaType"), (0, .class_ 21), (0, u "java/lang/String"), (0, .methodref 20 23), (0, .nameAndType 5 24), (0, u "([C)V"), (0, .methodref 18 26), (0, .nameAndType 5 27), (0, u "(Ljava/lang/String;Ljava/lang/String;)V"), (0, .methodref 18 29), (0, .nameAndType 30 31), (0, u "simpleName"), (0, u "()Ljava/lang/String;"), (0, .methodref 20 33), (0, .nameAndType 34 35), (0, u "length"), (0, u "()I"), (0, .methodref 20 37), (0, .nameAndType 38 39), (0, u "charAt"), (0, u "(I)C"), (3, u "law"), (0, u "(IIIIII)Z")] 4

def k1m0 : Method := { name := "<init>", desc := "()V", sig := { parameters := [], returnType := none }, accessFlags := 1, code := none }
def k1c1 : Code := { maxStack := 2, maxLocals := 3, code := method_2_code, exceptionTable := #[], attributes := #[] }
def k1m1 : Method := { name := "pick", desc := "(III)C", sig := { parameters := [.int, .int, .int], returnType := some .char }, accessFlags := 10, code := some k1c1 }
def k1c2 : Code := { maxStack := 6, maxLocals := 19, code := code, exceptionTable := #[], attributes := #[] }
def k1m2 : Method := { name := "law", desc := "(IIIIII)Z", sig := { parameters := [.int, .int, .int, .int, .int, .int], returnType := some .boolean }, accessFlags := 9, code := some k1c2 }
/-- com/example/bindery/bindery/compiler/JavaTypeSimpleNamePinLaw -/
def k1 : Class := { plain "com/example/bindery/bindery/compiler/JavaTypeSimpleNamePinLaw" (some 0) with
  accessFlags := 49
  interfaces := #[]
  cf := some (fileOf pool1 9 #[] #[{ accessFlags := 1, nameIndex := 5, descriptorIndex := 6, attributes := #[] }, { accessFlags := 10, nameIndex := 12, descriptorIndex := 13, attributes := #[] }, { accessFlags := 9, nameIndex := 43, descriptorIndex := 44, attributes := #[] }] 49 2 #[] #[])
  fields := #[]
  methods := #[k1m0, k1m1, k1m2]
  instanceTypes := #[]
  staticTypes := #[]
  resolved := Array.replicate 49 none
  statics := none }

def pool2 : Array CpInfo := pool [(1, .class_ 2), (0, u "java/io/Serializable"), (0, .class_ 4), (0, u "java/lang/Object")] 2

/-- java/io/Serializable -/
def k2 : Class := { plain "java/io/Serializable" (some 0) with
  accessFlags := 1537
  interfaces := #[]
  cf := some (fileOf pool2 1 #[] #[] 1537 3 #[] #[])
  fields := #[]
  methods := #[]
  instanceTypes := #[]
  staticTypes := #[]
  resolved := Array.replicate 7 none
  statics := none }

def pool3 : Array CpInfo := pool [(1, .class_ 2), (0, u "java/lang/Comparable"), (0, .class_ 4), (0, u "java/lang/Object")] 7

/-- java/lang/Comparable -/
def k3 : Class := { plain "java/lang/Comparable" (some 0) with
  accessFlags := 1537
  interfaces := #[]
  cf := some (fileOf pool3 1 #[] #[] 1537 3 #[] #[])
  fields := #[]
  methods := #[]
  instanceTypes := #[]
  staticTypes := #[]
  resolved := Array.replicate 12 none
  statics := none }

def pool4 : Array CpInfo := pool [(2, .class_ 4), (1, u "java/lang/CharSequence"), (42, .class_ 48), (0, u "java/lang/CharSequence$1CodePointIterator"), (10, .class_ 60), (0, u "java/lang/CharSequence$1CharIterator"), (5, .class_ 67), (0, u "java/lang/Object")] 63

/-- java/lang/CharSequence -/
def k4 : Class := { plain "java/lang/CharSequence" (some 0) with
  accessFlags := 1537
  interfaces := #[]
  cf := some (fileOf pool4 2 #[.nestMembers #[47, 59]] #[] 1537 66 #[] #[])
  fields := #[]
  methods := #[]
  instanceTypes := #[]
  staticTypes := #[]
  resolved := Array.replicate 131 none
  statics := none }

def pool5 : Array CpInfo := pool [(1, .class_ 2), (0, u "java/lang/constant/Constable"), (0, .class_ 4), (0, u "java/lang/Object")] 6

/-- java/lang/constant/Constable -/
def k5 : Class := { plain "java/lang/constant/Constable" (some 0) with
  accessFlags := 1537
  interfaces := #[]
  cf := some (fileOf pool5 1 #[] #[] 1537 3 #[] #[])
  fields := #[]
  methods := #[]
  instanceTypes := #[]
  staticTypes := #[]
  resolved := Array.replicate 11 none
  statics := none }

def pool6 : Array CpInfo := pool [(1, .class_ 2), (0, u "java/lang/constant/ConstantDesc"), (0, .class_ 4), (0, u "java/lang/Object")] 32

/-- java/lang/constant/ConstantDesc -/
def k6 : Class := { plain "java/lang/constant/ConstantDesc" (some 0) with
  accessFlags := 1537
  interfaces := #[]
  cf := some (fileOf pool6 1 #[] #[] 1537 3 #[] #[])
  fields := #[]
  methods := #[]
  instanceTypes := #[]
  staticTypes := #[]
  resolved := Array.replicate 37 none
  statics := none }

def pool7 : Array CpInfo := pool [(1, .methodref 2 3), (0, .class_ 4), (0, .nameAndType 5 6), (0, u "java/lang/Object"), (0, u "<init>"), (0, u "()V"), (0, .string 8), (0, u ""), (0, .fieldref 10 11), (0, .class_ 12), (0, .nameAndType 13 14), (0, u "java/lang/String"), (0, u "value"), (0, u "[B"), (0, .fieldref 10 16), (0, .nameAndType 17 18), (0, u "coder"), (0, u "B"), (2, u "hash"), (0, u "I"), (2, u "hashIsZero"), (0, u "Z"), (0, .methodref 10 28), (0, .nameAndType 5 29), (0, u "([CIILjava/lang/Void;)V"), (8, .fieldref 10 39), (0, .nameAndType 40 26), (0, u "COMPACT_STRINGS"), (1, .class_ 44), (1, u "java/lang/StringUTF16"), (0, u "compress"), (1, .methodref 42 48), (0, .nameAndType 49 50), (0, u "coderFromArrayLen"), (0, u "([BI)B"), (46, u "([BII)I"), (9, .class_ 109), (1, u "java/lang/StringLatin1"), (32, u "()Z"), (34, .methodref 42 178), (0, .nameAndType 45 179), (0, u "([CII)[B"), (31, u "([BB)V"), (122, u "()I"), (0, .methodref 10 336), (0, .nameAndType 17 337), (0, u "()B"), (25, u "([BI)C"), (27, u "(II)V"), (35, u "(I)C"), (64, .methodref 10 493), (0, .nameAndType 494 142), (0, u "isLatin1"), (0, .methodref 107 496), (0, .nameAndType 497 363), (0, u "charAt"), (3, u "checkIndex"), (3, .methodref 10 506), (0, .nameAndType 507 334), (0, u "length"), (5, u "checkFromToIndex"), (7, .methodref 10 522), (0, .nameAndType 523 524), (0, u "checkBoundsBeginEnd"), (0, u "(III)V"), (50, .class_ 576), (0, u "java/lang/CharSequence"), (22, u "CASE_INSENSITIVE_ORDER"), (0, u "Ljava/util/Comparator;"), (35, u "(II)I"), (4, .methodref 10 642), (0, .nameAndType 643 636), (0, u "lastIndexOf"), (0, .methodref 107 645), (0, .nameAndType 643 97), (35, .methodref 10 682), (0, .nameAndType 683 684), (0, u "substring"), (0, u "(II)Ljava/lang/String;"), (0, .methodref 107 686), (0, .nameAndType 687 688), (0, u "newString"), (0, u "([BII)Ljava/lang/String;"), (76, u "(I)I"), (126, u "(I)Ljava/lang/String;"), (117, u "([C)V"), (42, .fieldref 1054 1055), (0, .class_ 1056), (0, .nameAndType 1057 1058), (0, u "jdk/internal/util/Preconditions"), (0, u "SIOOBE_FORMATTER"), (0, u "Ljava/util/function/BiFunction;"), (0, .methodref 1054 1060), (0, .nameAndType 501 1061), (0, u "(IILjava/util/function/BiFunction;)I"), (0, .methodref 1054 1063), (0, .nameAndType 513 1064), (0, u "(IIILjava/util/function/BiFunction;)I"), (36, u "serialPersistentFields"), (0, u "[Ljava/io/ObjectStreamField;"), (0, .class_ 1104), (0, u "java/lang/String$CaseInsensitiveComparator"), (1, .class_ 1107), (0, u "java/io/Serializable"), (0, .class_ 1109), (0, u "java/lang/Comparable"), (0, .class_ 1111), (0, u "java/lang/constant/Constable"), (0, .class_ 1113), (0, u "java/lang/constant/ConstantDesc"), (2, u "serialVersionUID"), (0, u "J"), (3, u "REPL"), (0, u "C"), (2, u "LATIN1"), (1, u "UTF16")] 323

def k7m0 : Method := { name := "<init>", desc := "()V", sig := { parameters := [], returnType := none }, accessFlags := 1, code := none }
def k7c1 : Code := { maxStack := 5, maxLocals := 2, code := jdk_42_method_3_code, exceptionTable := #[], attributes := #[] }
def k7m1 : Method := { name := "<init>", desc := "([C)V", sig := { parameters := [(.array .char)], returnType := none }, accessFlags := 1, code := some k7c1 }
def k7c2 : Code := { maxStack := 2, maxLocals := 1, code := jdk_42_method_54_code, exceptionTable := #[], attributes := #[] }
def k7m2 : Method := { name := "length", desc := "()I", sig := { parameters := [], returnType := some .int }, accessFlags := 1, code := some k7c2 }
def k7c3 : Code := { maxStack := 2, maxLocals := 2, code := jdk_42_method_56_code, exceptionTable := #[], attributes := #[] }
def k7m3 : Method := { name := "charAt", desc := "(I)C", sig := { parameters := [.int], returnType := some .char }, accessFlags := 1, code := some k7c3 }
def k7c4 : Code := { maxStack := 4, maxLocals := 2, code := jdk_42_method_82_code, exceptionTable := #[], attributes := #[] }
def k7m4 : Method := { name := "lastIndexOf", desc := "(I)I", sig := { parameters := [.int], returnType := some .int }, accessFlags := 1, code := some k7c4 }
def k7c5 : Code := { maxStack := 3, maxLocals := 3, code := jdk_42_method_83_code, exceptionTable := #[], attributes := #[] }
def k7m5 : Method := { name := "lastIndexOf", desc := "(II)I", sig := { parameters := [.int, .int], returnType := some .int }, accessFlags := 1, code := some k7c5 }
def k7c6 : Code := { maxStack := 3, maxLocals := 2, code := jdk_42_method_91_code, exceptionTable := #[], attributes := #[] }
def k7m6 : Method := { name := "substring", desc := "(I)Ljava/lang/String;", sig := { parameters := [.int], returnType := some (.object "java/lang/String") }, accessFlags := 1, code := some k7c6 }
def k7c7 : Code := { maxStack := 3, maxLocals := 5, code := jdk_42_method_92_code, exceptionTable := #[], attributes := #[] }
def k7m7 : Method := { name := "substring", desc := "(II)Ljava/lang/String;", sig := { parameters := [.int, .int], returnType := some (.object "java/lang/String") }, accessFlags := 1, code := some k7c7 }
def k7c8 : Code := { maxStack := 4, maxLocals := 6, code := jdk_42_method_149_code, exceptionTable := #[], attributes := #[] }
def k7m8 : Method := { name := "<init>", desc := "([CIILjava/lang/Void;)V", sig := { parameters := [(.array .char), .int, .int, (.object "java/lang/Void")], returnType := none }, accessFlags := 2, code := some k7c8 }
def k7c9 : Code := { maxStack := 2, maxLocals := 3, code := jdk_42_method_151_code, exceptionTable := #[], attributes := #[] }
def k7m9 : Method := { name := "<init>", desc := "([BB)V", sig := { parameters := [(.array .byte), .byte], returnType := none }, accessFlags := 0, code := some k7c9 }
def k7c10 : Code := { maxStack := 1, maxLocals := 1, code := jdk_42_method_152_code, exceptionTable := #[], attributes := #[] }
def k7m10 : Method := { name := "coder", desc := "()B", sig := { parameters := [], returnType := some .byte }, accessFlags := 0, code := some k7c10 }
def k7c11 : Code := { maxStack := 1, maxLocals := 1, code := jdk_42_method_154_code, exceptionTable := #[], attributes := #[] }
def k7m11 : Method := { name := "isLatin1", desc := "()Z", sig := { parameters := [], returnType := some .boolean }, accessFlags := 0, code := some k7c11 }
def k7c12 : Code := { maxStack := 3, maxLocals := 2, code := jdk_42_method_155_code, exceptionTable := #[], attributes := #[] }
def k7m12 : Method := { name := "checkIndex", desc := "(II)V", sig := { parameters := [.int, .int], returnType := none }, accessFlags := 8, code := some k7c12 }
def k7c13 : Code := { maxStack := 4, maxLocals := 3, code := jdk_42_method_158_code, exceptionTable := #[], attributes := #[] }
def k7m13 : Method := { name := "checkBoundsBeginEnd", desc := "(III)V", sig := { parameters := [.int, .int, .int], returnType := none }, accessFlags := 8, code := some k7c13 }
/-- java/lang/String -/
def k7 : Class := { plain "java/lang/String" (some 0) with
  accessFlags := 49
  interfaces := #[2, 3, 4, 5, 6]
  cf := some (fileOf pool7 10 #[.nestMembers #[1103]] #[{ accessFlags := 1, nameIndex := 5, descriptorIndex := 6, attributes := #[] }, { accessFlags := 1, nameIndex := 5, descriptorIndex := 1010, attributes := #[] }, { accessFlags := 1, nameIndex := 507, descriptorIndex := 334, attributes := #[] }, { accessFlags := 1, nameIndex := 497, descriptorIndex := 427, attributes := #[] }, { accessFlags := 1, nameIndex := 643, descriptorIndex := 765, attributes := #[] }, { accessFlags := 1, nameIndex := 643, descriptorIndex := 636, attributes := #[] }, { accessFlags := 1, nameIndex := 683, descriptorIndex := 892, attributes := #[] }, { accessFlags := 1, nameIndex := 683, descriptorIndex := 684, attributes := #[] }, { accessFlags := 2, nameIndex := 5, descriptorIndex := 29, attributes := #[] }, { accessFlags := 0, nameIndex := 5, descriptorIndex := 211, attributes := #[] }, { accessFlags := 0, nameIndex := 17, descriptorIndex := 337, attributes := #[] }, { accessFlags := 0, nameIndex := 494, descriptorIndex := 142, attributes := #[] }, { accessFlags := 8, nameIndex := 501, descriptorIndex := 391, attributes := #[] }, { accessFlags := 8, nameIndex := 523, descriptorIndex := 524, attributes := #[] }] 49 2 #[1106, 1108, 575, 1110, 1112] #[{ accessFlags := 18, nameIndex := 13, descriptorIndex := 14, attributes := #[] }, { accessFlags := 18, nameIndex := 17, descriptorIndex := 18, attributes := #[] }, { accessFlags := 2, nameIndex := 21, descriptorIndex := 22, attributes := #[] }, { accessFlags := 2, nameIndex := 25, descriptorIndex := 26, attributes := #[] }, { accessFlags := 26, nameIndex := 1116, descriptorIndex := 1117, attributes := #[] }, { accessFlags := 24, nameIndex := 40, descriptorIndex := 26, attributes := #[] }, { accessFlags := 26, nameIndex := 1101, descriptorIndex := 1102, attributes := #[] }, { accessFlags := 26, nameIndex := 1121, descriptorIndex := 1122, attributes := #[] }, { accessFlags := 25, nameIndex := 599, descriptorIndex := 600, attributes := #[] }, { accessFlags := 24, nameIndex := 1125, descriptorIndex := 18, attributes := #[] }, { accessFlags := 24, nameIndex := 1127, descriptorIndex := 18, attributes := #[] }])
  fields := #[{ name := "value", type := (.array .byte), accessFlags := 18, slot := 0, constantValue := 0 }, { name := "coder", type := .byte, accessFlags := 18, slot := 1, constantValue := 0 }, { name := "hash", type := .int, accessFlags := 2, slot := 2, constantValue := 0 }, { name := "hashIsZero", type := .boolean, accessFlags := 2, slot := 3, constantValue := 0 }, { name := "serialVersionUID", type := .long, accessFlags := 26, slot := 0, constantValue := 0 }, { name := "COMPACT_STRINGS", type := .boolean, accessFlags := 24, slot := 1, constantValue := 0 }, { name := "serialPersistentFields", type := (.array (.object "java/io/ObjectStreamField")), accessFlags := 26, slot := 2, constantValue := 0 }, { name := "REPL", type := .char, accessFlags := 26, slot := 3, constantValue := 0 }, { name := "CASE_INSENSITIVE_ORDER", type := (.object "java/util/Comparator"), accessFlags := 25, slot := 4, constantValue := 0 }, { name := "LATIN1", type := .byte, accessFlags := 24, slot := 5, constantValue := 0 }, { name := "UTF16", type := .byte, accessFlags := 24, slot := 6, constantValue := 0 }]
  methods := #[k7m0, k7m1, k7m2, k7m3, k7m4, k7m5, k7m6, k7m7, k7m8, k7m9, k7m10, k7m11, k7m12, k7m13]
  instanceTypes := #[(.array .byte), .byte, .int, .boolean]
  staticTypes := #[.long, .boolean, (.array (.object "java/io/ObjectStreamField")), .char, (.object "java/util/Comparator"), .byte, .byte]
  resolved := Array.replicate 1451 none
  statics := some 0 }

def pool8 : Array CpInfo := pool [(1, .methodref 2 3), (0, .class_ 4), (0, .nameAndType 5 6), (0, u "java/lang/Object"), (0, u "<init>"), (0, u "()V"), (0, .class_ 8), (0, u "java/lang/Record")] 13

def k8c0 : Code := { maxStack := 1, maxLocals := 1, code := jdk_30_method_1_code, exceptionTable := #[], attributes := #[] }
def k8m0 : Method := { name := "<init>", desc := "()V", sig := { parameters := [], returnType := none }, accessFlags := 4, code := some k8c0 }
/-- java/lang/Record -/
def k8 : Class := { plain "java/lang/Record" (some 0) with
  accessFlags := 1057
  interfaces := #[]
  cf := some (fileOf pool8 7 #[] #[{ accessFlags := 4, nameIndex := 5, descriptorIndex := 6, attributes := #[] }] 1057 2 #[] #[])
  fields := #[]
  methods := #[k8m0]
  instanceTypes := #[]
  staticTypes := #[]
  resolved := Array.replicate 22 none
  statics := none }

def pool9 : Array CpInfo := pool [(1, .methodref 2 3), (0, .class_ 4), (0, .nameAndType 5 6), (0, u "java/lang/Record"), (0, u "<init>"), (0, u "()V"), (0, .fieldref 8 9), (0, .class_ 10), (0, .nameAndType 11 12), (0, u "com/example/bindery/bindery/compiler/JavaType"), (0, u "packageName"), (0, u "Ljava/lang/String;"), (0, .fieldref 8 14), (0, .nameAndType 15 12), (0, u "name"), (0, .fieldref 8 17), (0, .nameAndType 18 19), (0, u "argument"), (0, u "Ljava/util/Optional;"), (0, .methodref 21 22), (0, .class_ 23), (0, .nameAndType 24 25), (0, u "java/util/Optional"), (0, u "empty"), (0, u "()Ljava/util/Optional;"), (0, .methodref 8 27), (0, .nameAndType 5 28), (0, u "(Ljava/lang/String;Ljava/lang/String;Ljava/util/Optional;)V"), (4, u "(Ljava/lang/String;Ljava/lang/String;)V"), (0, .class_ 35), (0, u "com/example/bindery/bindery/compiler/JavaType$Argument"), (8, .class_ 46), (1, u "java/lang/String"), (2, .methodref 44 50), (0, .nameAndType 51 52), (0, u "lastIndexOf"), (0, u "(I)I"), (0, .methodref 44 54), (0, .nameAndType 55 56), (0, u "substring"), (0, u "(I)Ljava/lang/String;"), (31, u "OBJECT"), (0, u "Lcom/example/bindery/bindery/compiler/JavaType;"), (4, u "STRING"), (6, u "SERIALIZABLE"), (6, u "INT"), (4, u "INTEGER"), (6, u "QNAME"), (6, u "MAP"), (6, u "JAXB_ELEMENT"), (6, u "DOM_ELEMENT"), (14, u "simpleName"), (0, u "()Ljava/lang/String;")] 39

def k9c0 : Code := { maxStack := 4, maxLocals := 3, code := prog_5_method_1_code, exceptionTable := #[], attributes := #[] }
def k9m0 : Method := { name := "<init>", desc := "(Ljava/lang/String;Ljava/lang/String;)V", sig := { parameters := [(.object "java/lang/String"), (.object "java/lang/String")], returnType := none }, accessFlags := 0, code := some k9c0 }
def k9c1 : Code := { maxStack := 2, maxLocals := 4, code := prog_5_method_2_code, exceptionTable := #[], attributes := #[] }
def k9m1 : Method := { name := "<init>", desc := "(Ljava/lang/String;Ljava/lang/String;Ljava/util/Optional;)V", sig := { parameters := [(.object "java/lang/String"), (.object "java/lang/String"), (.object "java/util/Optional")], returnType := none }, accessFlags := 0, code := some k9c1 }
def k9c2 : Code := { maxStack := 3, maxLocals := 1, code := prog_5_method_8_code, exceptionTable := #[], attributes := #[] }
def k9m2 : Method := { name := "simpleName", desc := "()Ljava/lang/String;", sig := { parameters := [], returnType := some (.object "java/lang/String") }, accessFlags := 0, code := some k9c2 }
/-- com/example/bindery/bindery/compiler/JavaType -/
def k9 : Class := { plain "com/example/bindery/bindery/compiler/JavaType" (some 8) with
  accessFlags := 48
  interfaces := #[]
  cf := some (fileOf pool9 8 #[.nestMembers #[34]] #[{ accessFlags := 0, nameIndex := 5, descriptorIndex := 33, attributes := #[] }, { accessFlags := 0, nameIndex := 5, descriptorIndex := 28, attributes := #[] }, { accessFlags := 0, nameIndex := 156, descriptorIndex := 157, attributes := #[] }] 48 2 #[] #[{ accessFlags := 18, nameIndex := 11, descriptorIndex := 12, attributes := #[] }, { accessFlags := 18, nameIndex := 15, descriptorIndex := 12, attributes := #[] }, { accessFlags := 18, nameIndex := 18, descriptorIndex := 19, attributes := #[] }, { accessFlags := 24, nameIndex := 88, descriptorIndex := 89, attributes := #[] }, { accessFlags := 24, nameIndex := 94, descriptorIndex := 89, attributes := #[] }, { accessFlags := 24, nameIndex := 101, descriptorIndex := 89, attributes := #[] }, { accessFlags := 24, nameIndex := 108, descriptorIndex := 89, attributes := #[] }, { accessFlags := 24, nameIndex := 113, descriptorIndex := 89, attributes := #[] }, { accessFlags := 24, nameIndex := 120, descriptorIndex := 89, attributes := #[] }, { accessFlags := 24, nameIndex := 127, descriptorIndex := 89, attributes := #[] }, { accessFlags := 24, nameIndex := 134, descriptorIndex := 89, attributes := #[] }, { accessFlags := 24, nameIndex := 141, descriptorIndex := 89, attributes := #[] }])
  fields := #[{ name := "packageName", type := (.object "java/lang/String"), accessFlags := 18, slot := 0, constantValue := 0 }, { name := "name", type := (.object "java/lang/String"), accessFlags := 18, slot := 1, constantValue := 0 }, { name := "argument", type := (.object "java/util/Optional"), accessFlags := 18, slot := 2, constantValue := 0 }, { name := "OBJECT", type := (.object "com/example/bindery/bindery/compiler/JavaType"), accessFlags := 24, slot := 0, constantValue := 0 }, { name := "STRING", type := (.object "com/example/bindery/bindery/compiler/JavaType"), accessFlags := 24, slot := 1, constantValue := 0 }, { name := "SERIALIZABLE", type := (.object "com/example/bindery/bindery/compiler/JavaType"), accessFlags := 24, slot := 2, constantValue := 0 }, { name := "INT", type := (.object "com/example/bindery/bindery/compiler/JavaType"), accessFlags := 24, slot := 3, constantValue := 0 }, { name := "INTEGER", type := (.object "com/example/bindery/bindery/compiler/JavaType"), accessFlags := 24, slot := 4, constantValue := 0 }, { name := "QNAME", type := (.object "com/example/bindery/bindery/compiler/JavaType"), accessFlags := 24, slot := 5, constantValue := 0 }, { name := "MAP", type := (.object "com/example/bindery/bindery/compiler/JavaType"), accessFlags := 24, slot := 6, constantValue := 0 }, { name := "JAXB_ELEMENT", type := (.object "com/example/bindery/bindery/compiler/JavaType"), accessFlags := 24, slot := 7, constantValue := 0 }, { name := "DOM_ELEMENT", type := (.object "com/example/bindery/bindery/compiler/JavaType"), accessFlags := 24, slot := 8, constantValue := 0 }]
  methods := #[k9m0, k9m1, k9m2]
  instanceTypes := #[(.object "java/lang/String"), (.object "java/lang/String"), (.object "java/util/Optional")]
  staticTypes := #[(.object "com/example/bindery/bindery/compiler/JavaType"), (.object "com/example/bindery/bindery/compiler/JavaType"), (.object "com/example/bindery/bindery/compiler/JavaType"), (.object "com/example/bindery/bindery/compiler/JavaType"), (.object "com/example/bindery/bindery/compiler/JavaType"), (.object "com/example/bindery/bindery/compiler/JavaType"), (.object "com/example/bindery/bindery/compiler/JavaType"), (.object "com/example/bindery/bindery/compiler/JavaType"), (.object "com/example/bindery/bindery/compiler/JavaType")]
  resolved := Array.replicate 197 none
  statics := none }

def pool10 : Array CpInfo := pool [(1, .fieldref 2 3), (0, .class_ 4), (0, .nameAndType 5 6), (0, u "java/util/Optional"), (0, u "EMPTY"), (0, u "Ljava/util/Optional;"), (1, .class_ 10), (1, u "java/lang/Object"), (4, u "value"), (0, u "Ljava/lang/Object;"), (38, u "empty"), (0, u "()Ljava/util/Optional;")] 130

def k10c0 : Code := { maxStack := 1, maxLocals := 1, code := jdk_32_method_1_code, exceptionTable := #[], attributes := #[] }
def k10m0 : Method := { name := "empty", desc := "()Ljava/util/Optional;", sig := { parameters := [], returnType := some (.object "java/util/Optional") }, accessFlags := 9, code := some k10c0 }
/-- java/util/Optional -/
def k10 : Class := { plain "java/util/Optional" (some 0) with
  accessFlags := 49
  interfaces := #[]
  cf := some (fileOf pool10 2 #[] #[{ accessFlags := 9, nameIndex := 55, descriptorIndex := 56, attributes := #[] }] 49 8 #[] #[{ accessFlags := 26, nameIndex := 5, descriptorIndex := 6, attributes := #[] }, { accessFlags := 18, nameIndex := 15, descriptorIndex := 16, attributes := #[] }])
  fields := #[{ name := "EMPTY", type := (.object "java/util/Optional"), accessFlags := 26, slot := 0, constantValue := 0 }, { name := "value", type := (.object "java/lang/Object"), accessFlags := 18, slot := 0, constantValue := 0 }]
  methods := #[k10m0]
  instanceTypes := #[(.object "java/lang/Object")]
  staticTypes := #[(.object "java/util/Optional")]
  resolved := Array.replicate 187 none
  statics := some 1 }

def pool11 : Array CpInfo := pool [(1, .class_ 2), (0, u "java/lang/String"), (1, .class_ 6), (1, u "java/lang/Object"), (0, u "<init>"), (0, u "()V"), (0, .methodref 1 10), (0, .nameAndType 11 12), (0, u "checkIndex"), (0, u "(II)V"), (1, .class_ 16), (1, u "java/lang/StringLatin1"), (21, .methodref 39 40), (0, .class_ 41), (0, .nameAndType 42 43), (0, u "java/lang/Math"), (0, u "min"), (0, u "(II)I"), (9, u "([BI)C"), (34, .methodref 14 89), (0, .nameAndType 90 91), (0, u "canEncode"), (0, u "(I)Z"), (20, .methodref 1 113), (0, .nameAndType 7 114), (0, u "([BB)V"), (6, u "$assertionsDisabled"), (0, u "Z"), (8, .class_ 133), (1, u "java/util/Arrays"), (17, .string 152), (0, u ""), (43, u "newString"), (0, u "([BII)Ljava/lang/String;"), (23, .class_ 223), (1, u "java/lang/StringLatin1$LinesSpliterator"), (8, .methodref 131 233), (0, .nameAndType 234 235), (0, u "copyOfRange"), (0, u "([BII)[B"), (16, u "charAt"), (8, u "([BII)I"), (47, u "lastIndexOf"), (80, .class_ 391), (0, u "java/lang/StringLatin1$CharsSpliterator")] 3

def k11m0 : Method := { name := "<init>", desc := "()V", sig := { parameters := [], returnType := none }, accessFlags := 0, code := none }
def k11c1 : Code := { maxStack := 2, maxLocals := 2, code := jdk_43_method_2_code, exceptionTable := #[], attributes := #[] }
def k11m1 : Method := { name := "charAt", desc := "([BI)C", sig := { parameters := [(.array .byte), .int], returnType := some .char }, accessFlags := 9, code := some k11c1 }
def k11c2 : Code := { maxStack := 2, maxLocals := 1, code := jdk_43_method_4_code, exceptionTable := #[], attributes := #[] }
def k11m2 : Method := { name := "canEncode", desc := "(I)Z", sig := { parameters := [.int], returnType := some .boolean }, accessFlags := 9, code := some k11c2 }
def k11c3 : Code := { maxStack := 3, maxLocals := 4, code := jdk_43_method_27_code, exceptionTable := #[], attributes := #[] }
def k11m3 : Method := { name := "lastIndexOf", desc := "([BII)I", sig := { parameters := [(.array .byte), .int, .int], returnType := some .int }, accessFlags := 9, code := some k11c3 }
def k11c4 : Code := { maxStack := 6, maxLocals := 3, code := jdk_43_method_47_code, exceptionTable := #[], attributes := #[] }
def k11m4 : Method := { name := "newString", desc := "([BII)Ljava/lang/String;", sig := { parameters := [(.array .byte), .int, .int], returnType := some (.object "java/lang/String") }, accessFlags := 9, code := some k11c4 }
/-- java/lang/StringLatin1 -/
def k11 : Class := { plain "java/lang/StringLatin1" (some 0) with
  accessFlags := 48
  interfaces := #[]
  cf := some (fileOf pool11 14 #[.nestMembers #[390, 221]] #[{ accessFlags := 0, nameIndex := 7, descriptorIndex := 8, attributes := #[] }, { accessFlags := 9, nameIndex := 252, descriptorIndex := 53, attributes := #[] }, { accessFlags := 9, nameIndex := 90, descriptorIndex := 91, attributes := #[] }, { accessFlags := 9, nameIndex := 309, descriptorIndex := 261, attributes := #[] }, { accessFlags := 9, nameIndex := 196, descriptorIndex := 197, attributes := #[] }] 48 4 #[] #[{ accessFlags := 4120, nameIndex := 121, descriptorIndex := 122, attributes := #[] }])
  fields := #[{ name := "$assertionsDisabled", type := .boolean, accessFlags := 4120, slot := 0, constantValue := 0 }]
  methods := #[k11m0, k11m1, k11m2, k11m3, k11m4]
  instanceTypes := #[]
  staticTypes := #[.boolean]
  resolved := Array.replicate 395 none
  statics := none }

def pool12 : Array CpInfo := pool [(1, .class_ 2), (0, u "java/lang/Math"), (1, .class_ 6), (1, u "java/lang/Object"), (0, u "<init>"), (0, u "()V"), (89, .class_ 100), (1, u "java/lang/Math$RandomNumberGeneratorHolder"), (71, u "negativeZeroFloatBits"), (0, u "J"), (2, u "negativeZeroDoubleBits"), (24, u "min"), (43, u "$assertionsDisabled"), (0, u "Z"), (88, u "(II)I"), (2, u "twoToTheDoubleScaleDown"), (0, u "D"), (4, u "twoToTheDoubleScaleUp"), (9, u "E"), (3, u "PI"), (2, u "TAU"), (2, u "DEGREES_TO_RADIANS"), (0, u "RADIANS_TO_DEGREES")] 94

def k12m0 : Method := { name := "<init>", desc := "()V", sig := { parameters := [], returnType := none }, accessFlags := 2, code := none }
def k12c1 : Code := { maxStack := 2, maxLocals := 2, code := jdk_29_method_69_code, exceptionTable := #[], attributes := #[] }
def k12m1 : Method := { name := "min", desc := "(II)I", sig := { parameters := [.int, .int], returnType := some .int }, accessFlags := 9, code := some k12c1 }
/-- java/lang/Math -/
def k12 : Class := { plain "java/lang/Math" (some 0) with
  accessFlags := 49
  interfaces := #[]
  cf := some (fileOf pool12 1 #[.nestMembers #[98]] #[{ accessFlags := 2, nameIndex := 7, descriptorIndex := 8, attributes := #[] }, { accessFlags := 9, nameIndex := 201, descriptorIndex := 335, attributes := #[] }] 49 4 #[] #[{ accessFlags := 25, nameIndex := 354, descriptorIndex := 339, attributes := #[] }, { accessFlags := 25, nameIndex := 358, descriptorIndex := 339, attributes := #[] }, { accessFlags := 25, nameIndex := 361, descriptorIndex := 339, attributes := #[] }, { accessFlags := 26, nameIndex := 364, descriptorIndex := 339, attributes := #[] }, { accessFlags := 26, nameIndex := 365, descriptorIndex := 339, attributes := #[] }, { accessFlags := 26, nameIndex := 172, descriptorIndex := 173, attributes := #[] }, { accessFlags := 26, nameIndex := 176, descriptorIndex := 173, attributes := #[] }, { accessFlags := 8, nameIndex := 344, descriptorIndex := 339, attributes := #[] }, { accessFlags := 8, nameIndex := 338, descriptorIndex := 339, attributes := #[] }, { accessFlags := 4120, nameIndex := 245, descriptorIndex := 246, attributes := #[] }])
  fields := #[{ name := "E", type := .double, accessFlags := 25, slot := 0, constantValue := 0 }, { name := "PI", type := .double, accessFlags := 25, slot := 1, constantValue := 0 }, { name := "TAU", type := .double, accessFlags := 25, slot := 2, constantValue := 0 }, { name := "DEGREES_TO_RADIANS", type := .double, accessFlags := 26, slot := 3, constantValue := 0 }, { name := "RADIANS_TO_DEGREES", type := .double, accessFlags := 26, slot := 4, constantValue := 0 }, { name := "negativeZeroFloatBits", type := .long, accessFlags := 26, slot := 5, constantValue := 0 }, { name := "negativeZeroDoubleBits", type := .long, accessFlags := 26, slot := 6, constantValue := 0 }, { name := "twoToTheDoubleScaleUp", type := .double, accessFlags := 8, slot := 7, constantValue := 0 }, { name := "twoToTheDoubleScaleDown", type := .double, accessFlags := 8, slot := 8, constantValue := 0 }, { name := "$assertionsDisabled", type := .boolean, accessFlags := 4120, slot := 9, constantValue := 0 }]
  methods := #[k12m0, k12m1]
  instanceTypes := #[]
  staticTypes := #[.double, .double, .double, .double, .double, .long, .long, .double, .double, .boolean]
  resolved := Array.replicate 460 none
  statics := none }

def pool13 : Array CpInfo := pool [(2, .class_ 4), (1, u "java/lang/Object"), (0, u "<init>"), (0, u "()V"), (17, .class_ 26), (1, u "jdk/internal/util/Preconditions"), (6, u "checkIndex"), (13, u "checkFromToIndex"), (7, .class_ 56), (0, u "jdk/internal/util/Preconditions$4"), (57, .class_ 115), (0, u "jdk/internal/util/Preconditions$1"), (7, u "SIOOBE_FORMATTER"), (0, u "Ljava/util/function/BiFunction;"), (0, .class_ 126), (0, u "jdk/internal/util/Preconditions$2"), (3, u "AIOOBE_FORMATTER"), (0, .class_ 132), (0, u "jdk/internal/util/Preconditions$3"), (3, u "IOOBE_FORMATTER"), (41, u "(IILjava/util/function/BiFunction;)I"), (4, u "(IIILjava/util/function/BiFunction;)I")] 10

def k13m0 : Method := { name := "<init>", desc := "()V", sig := { parameters := [], returnType := none }, accessFlags := 1, code := none }
def k13c1 : Code := { maxStack := 3, maxLocals := 3, code := jdk_41_method_11_code, exceptionTable := #[], attributes := #[] }
def k13m1 : Method := { name := "checkIndex", desc := "(IILjava/util/function/BiFunction;)I", sig := { parameters := [.int, .int, (.object "java/util/function/BiFunction")], returnType := some .int }, accessFlags := 9, code := some k13c1 }
def k13c2 : Code := { maxStack := 4, maxLocals := 4, code := jdk_41_method_12_code, exceptionTable := #[], attributes := #[] }
def k13m2 : Method := { name := "checkFromToIndex", desc := "(IIILjava/util/function/BiFunction;)I", sig := { parameters := [.int, .int, .int, (.object "java/util/function/BiFunction")], returnType := some .int }, accessFlags := 9, code := some k13c2 }
/-- jdk/internal/util/Preconditions -/
def k13 : Class := { plain "jdk/internal/util/Preconditions" (some 0) with
  accessFlags := 33
  interfaces := #[]
  cf := some (fileOf pool13 24 #[.nestMembers #[55, 131, 125, 114]] #[{ accessFlags := 1, nameIndex := 5, descriptorIndex := 6, attributes := #[] }, { accessFlags := 9, nameIndex := 33, descriptorIndex := 178, attributes := #[] }, { accessFlags := 9, nameIndex := 47, descriptorIndex := 183, attributes := #[] }] 33 2 #[] #[{ accessFlags := 25, nameIndex := 123, descriptorIndex := 124, attributes := #[] }, { accessFlags := 25, nameIndex := 130, descriptorIndex := 124, attributes := #[] }, { accessFlags := 25, nameIndex := 136, descriptorIndex := 124, attributes := #[] }])
  fields := #[{ name := "SIOOBE_FORMATTER", type := (.object "java/util/function/BiFunction"), accessFlags := 25, slot := 0, constantValue := 0 }, { name := "AIOOBE_FORMATTER", type := (.object "java/util/function/BiFunction"), accessFlags := 25, slot := 1, constantValue := 0 }, { name := "IOOBE_FORMATTER", type := (.object "java/util/function/BiFunction"), accessFlags := 25, slot := 2, constantValue := 0 }]
  methods := #[k13m0, k13m1, k13m2]
  instanceTypes := #[]
  staticTypes := #[(.object "java/util/function/BiFunction"), (.object "java/util/function/BiFunction"), (.object "java/util/function/BiFunction")]
  resolved := Array.replicate 194 none
  statics := some 2 }

def pool14 : Array CpInfo := pool [(6, .class_ 8), (1, u "java/lang/Object"), (0, u "<init>"), (0, u "()V"), (1, .class_ 14), (1, u "java/lang/StringUTF16"), (31, u "$assertionsDisabled"), (0, u "Z"), (13, u "HI_BYTE_SHIFT"), (0, u "I"), (2, u "LO_BYTE_SHIFT"), (49, .methodref 12 116), (0, .nameAndType 117 118), (0, u "compress"), (0, u "([CI[BII)I"), (3, u "([CII)[B"), (138, u "coderFromArrayLen"), (0, u "([BI)B"), (106, .class_ 371), (1, u "java/lang/StringUTF16$LinesSpliterator"), (58, u "MAX_LENGTH"), (196, .class_ 628), (0, u "java/lang/StringUTF16$CodePointsSpliterator"), (0, .class_ 630), (0, u "java/lang/StringUTF16$CharsSpliterator")] 4

def k14m0 : Method := { name := "<init>", desc := "()V", sig := { parameters := [], returnType := none }, accessFlags := 0, code := none }
def k14c1 : Code := { maxStack := 2, maxLocals := 2, code := jdk_52_method_15_code, exceptionTable := #[], attributes := #[] }
def k14m1 : Method := { name := "coderFromArrayLen", desc := "([BI)B", sig := { parameters := [(.array .byte), .int], returnType := some .byte }, accessFlags := 8, code := some k14c1 }
def k14c2 : Code := { maxStack := 5, maxLocals := 6, code := jdk_52_method_16_code, exceptionTable := #[], attributes := #[] }
def k14m2 : Method := { name := "compress", desc := "([CII)[B", sig := { parameters := [(.array .char), .int, .int], returnType := some (.array .byte) }, accessFlags := 9, code := some k14c2 }
def k14c3 : Code := { maxStack := 3, maxLocals := 7, code := jdk_52_method_21_code, exceptionTable := #[], attributes := #[] }
def k14m3 : Method := { name := "compress", desc := "([CI[BII)I", sig := { parameters := [(.array .char), .int, (.array .byte), .int, .int], returnType := some .int }, accessFlags := 9, code := some k14c3 }
/-- java/lang/StringUTF16 -/
def k14 : Class := { plain "java/lang/StringUTF16" (some 0) with
  accessFlags := 48
  interfaces := #[]
  cf := some (fileOf pool14 12 #[.nestMembers #[627, 629, 369]] #[{ accessFlags := 0, nameIndex := 9, descriptorIndex := 10, attributes := #[] }, { accessFlags := 8, nameIndex := 261, descriptorIndex := 262, attributes := #[] }, { accessFlags := 9, nameIndex := 117, descriptorIndex := 122, attributes := #[] }, { accessFlags := 9, nameIndex := 117, descriptorIndex := 118, attributes := #[] }] 48 6 #[] #[{ accessFlags := 26, nameIndex := 61, descriptorIndex := 62, attributes := #[] }, { accessFlags := 26, nameIndex := 65, descriptorIndex := 62, attributes := #[] }, { accessFlags := 24, nameIndex := 430, descriptorIndex := 62, attributes := #[] }, { accessFlags := 4120, nameIndex := 46, descriptorIndex := 47, attributes := #[] }])
  fields := #[{ name := "HI_BYTE_SHIFT", type := .int, accessFlags := 26, slot := 0, constantValue := 0 }, { name := "LO_BYTE_SHIFT", type := .int, accessFlags := 26, slot := 1, constantValue := 0 }, { name := "MAX_LENGTH", type := .int, accessFlags := 24, slot := 2, constantValue := 0 }, { name := "$assertionsDisabled", type := .boolean, accessFlags := 4120, slot := 3, constantValue := 0 }]
  methods := #[k14m0, k14m1, k14m2, k14m3]
  instanceTypes := #[]
  staticTypes := #[.int, .int, .int, .boolean]
  resolved := Array.replicate 635 none
  statics := none }

def pool15 : Array CpInfo := pool [(2, .class_ 4), (1, u "java/lang/Object"), (0, u "<init>"), (0, u "()V"), (7, .class_ 16), (1, u "java/util/Arrays"), (57, .class_ 76), (1, u "java/util/Arrays$NaturalOrder"), (36, .class_ 115), (1, u "java/util/Arrays$LegacyMergeSort"), (1, u "Z"), (21, u "copyOfRange"), (10, .methodref 151 152), (0, .class_ 153), (0, .nameAndType 154 155), (0, u "java/lang/System"), (0, u "arraycopy"), (0, u "(Ljava/lang/Object;ILjava/lang/Object;II)V"), (148, .methodref 305 306), (0, .class_ 307), (0, .nameAndType 308 309), (0, u "java/lang/Math"), (0, u "min"), (0, u "(II)I"), (29, .methodref 14 340), (0, .nameAndType 341 342), (0, u "copyOfRangeByte"), (0, u "([BII)[B"), (0, .methodref 14 344), (0, .nameAndType 345 346), (0, u "checkLength"), (0, u "(II)V"), (28, .class_ 376), (0, u "java/util/Arrays$ArrayList"), (68, u "$assertionsDisabled"), (269, u "MIN_ARRAY_SORT_GRAN"), (0, u "I"), (2, u "INSERTIONSORT_THRESHOLD"), (255, .class_ 976), (0, u "java/util/Arrays$ArrayItr")] 52

def k15m0 : Method := { name := "<init>", desc := "()V", sig := { parameters := [], returnType := none }, accessFlags := 2, code := none }
def k15c1 : Code := { maxStack := 4, maxLocals := 2, code := jdk_65_method_131_code, exceptionTable := #[], attributes := #[] }
def k15m1 : Method := { name := "checkLength", desc := "(II)V", sig := { parameters := [.int, .int], returnType := none }, accessFlags := 10, code := some k15c1 }
def k15c2 : Code := { maxStack := 3, maxLocals := 3, code := jdk_65_method_132_code, exceptionTable := #[], attributes := #[] }
def k15m2 : Method := { name := "copyOfRange", desc := "([BII)[B", sig := { parameters := [(.array .byte), .int, .int], returnType := some (.array .byte) }, accessFlags := 9, code := some k15c2 }
def k15c3 : Code := { maxStack := 6, maxLocals := 5, code := jdk_65_method_133_code, exceptionTable := #[], attributes := #[] }
def k15m3 : Method := { name := "copyOfRangeByte", desc := "([BII)[B", sig := { parameters := [(.array .byte), .int, .int], returnType := some (.array .byte) }, accessFlags := 10, code := some k15c3 }
/-- java/util/Arrays -/
def k15 : Class := { plain "java/util/Arrays" (some 0) with
  accessFlags := 49
  interfaces := #[]
  cf := some (fileOf pool15 14 #[.nestMembers #[975, 375, 113, 74]] #[{ accessFlags := 2, nameIndex := 5, descriptorIndex := 6, attributes := #[] }, { accessFlags := 10, nameIndex := 345, descriptorIndex := 346, attributes := #[] }, { accessFlags := 9, nameIndex := 139, descriptorIndex := 342, attributes := #[] }, { accessFlags := 10, nameIndex := 341, descriptorIndex := 342, attributes := #[] }] 49 2 #[] #[{ accessFlags := 26, nameIndex := 715, descriptorIndex := 716, attributes := #[] }, { accessFlags := 26, nameIndex := 719, descriptorIndex := 716, attributes := #[] }, { accessFlags := 4120, nameIndex := 445, descriptorIndex := 117, attributes := #[] }])
  fields := #[{ name := "MIN_ARRAY_SORT_GRAN", type := .int, accessFlags := 26, slot := 0, constantValue := 0 }, { name := "INSERTIONSORT_THRESHOLD", type := .int, accessFlags := 26, slot := 1, constantValue := 0 }, { name := "$assertionsDisabled", type := .boolean, accessFlags := 4120, slot := 2, constantValue := 0 }]
  methods := #[k15m0, k15m1, k15m2, k15m3]
  instanceTypes := #[]
  staticTypes := #[.int, .int, .boolean]
  resolved := Array.replicate 1029 none
  statics := none }

def pool16 : Array CpInfo := pool [(2, .class_ 4), (1, u "java/lang/Object"), (0, u "<init>"), (0, u "()V"), (1, .class_ 10), (1, u "java/lang/System"), (0, u "allowSecurityManager"), (0, u "I"), (16, u "cons"), (0, u "Ljava/io/Console;"), (77, .class_ 110), (1, u "java/lang/System$CallersHolder"), (43, u "initialErrStream"), (0, u "Ljava/io/PrintStream;"), (19, u "security"), (0, u "Ljava/lang/SecurityManager;"), (31, .class_ 209), (0, u "java/lang/System$1"), (7, u "props"), (0, u "Ljava/util/Properties;"), (2, u "lineSeparator"), (0, u "Ljava/lang/String;"), (96, .class_ 321), (1, u "java/lang/System$LoggerFinder"), (5, .class_ 328), (0, u "java/lang/System$Logger"), (67, u "err"), (2, u "out"), (91, u "notSupportedJnuEncoding"), (15, u "in"), (17, u "initialIn"), (0, u "Ljava/io/InputStream;"), (35, u "bootLayer"), (0, u "Ljava/lang/ModuleLayer;"), (99, .class_ 664), (0, u "java/lang/System$2"), (9, u "NEVER"), (2, u "MAYBE"), (49, u "arraycopy"), (0, u "(Ljava/lang/Object;ILjava/lang/Object;II)V"), (72, .class_ 802), (0, u "java/lang/System$Logger$Level")] 31

def k16m0 : Method := { name := "<init>", desc := "()V", sig := { parameters := [], returnType := none }, accessFlags := 2, code := none }
def k16m1 : Method := { name := "arraycopy", desc := "(Ljava/lang/Object;ILjava/lang/Object;II)V", sig := { parameters := [(.object "java/lang/Object"), .int, (.object "java/lang/Object"), .int, .int], returnType := none }, accessFlags := 265, code := none }
/-- java/lang/System -/
def k16 : Class := { plain "java/lang/System" (some 0) with
  accessFlags := 49
  interfaces := #[]
  cf := some (fileOf pool16 8 #[.nestMembers #[319, 327, 801, 108, 663, 208]] #[{ accessFlags := 2, nameIndex := 5, descriptorIndex := 6, attributes := #[] }, { accessFlags := 265, nameIndex := 727, descriptorIndex := 728, attributes := #[] }] 49 2 #[] #[{ accessFlags := 25, nameIndex := 507, descriptorIndex := 526, attributes := #[] }, { accessFlags := 25, nameIndex := 399, descriptorIndex := 155, attributes := #[] }, { accessFlags := 25, nameIndex := 396, descriptorIndex := 155, attributes := #[] }, { accessFlags := 10, nameIndex := 525, descriptorIndex := 526, attributes := #[] }, { accessFlags := 26, nameIndex := 674, descriptorIndex := 12, attributes := #[] }, { accessFlags := 26, nameIndex := 677, descriptorIndex := 12, attributes := #[] }, { accessFlags := 10, nameIndex := 11, descriptorIndex := 12, attributes := #[] }, { accessFlags := 74, nameIndex := 175, descriptorIndex := 176, attributes := #[] }, { accessFlags := 10, nameIndex := 491, descriptorIndex := 222, attributes := #[] }, { accessFlags := 74, nameIndex := 29, descriptorIndex := 30, attributes := #[] }, { accessFlags := 74, nameIndex := 154, descriptorIndex := 155, attributes := #[] }, { accessFlags := 10, nameIndex := 217, descriptorIndex := 218, attributes := #[] }, { accessFlags := 10, nameIndex := 221, descriptorIndex := 222, attributes := #[] }, { accessFlags := 8, nameIndex := 562, descriptorIndex := 563, attributes := #[] }])
  fields := #[{ name := "in", type := (.object "java/io/InputStream"), accessFlags := 25, slot := 0, constantValue := 0 }, { name := "out", type := (.object "java/io/PrintStream"), accessFlags := 25, slot := 1, constantValue := 0 }, { name := "err", type := (.object "java/io/PrintStream"), accessFlags := 25, slot := 2, constantValue := 0 }, { name := "initialIn", type := (.object "java/io/InputStream"), accessFlags := 10, slot := 3, constantValue := 0 }, { name := "NEVER", type := .int, accessFlags := 26, slot := 4, constantValue := 0 }, { name := "MAYBE", type := .int, accessFlags := 26, slot := 5, constantValue := 0 }, { name := "allowSecurityManager", type := .int, accessFlags := 10, slot := 6, constantValue := 0 }, { name := "security", type := (.object "java/lang/SecurityManager"), accessFlags := 74, slot := 7, constantValue := 0 }, { name := "notSupportedJnuEncoding", type := (.object "java/lang/String"), accessFlags := 10, slot := 8, constantValue := 0 }, { name := "cons", type := (.object "java/io/Console"), accessFlags := 74, slot := 9, constantValue := 0 }, { name := "initialErrStream", type := (.object "java/io/PrintStream"), accessFlags := 74, slot := 10, constantValue := 0 }, { name := "props", type := (.object "java/util/Properties"), accessFlags := 10, slot := 11, constantValue := 0 }, { name := "lineSeparator", type := (.object "java/lang/String"), accessFlags := 10, slot := 12, constantValue := 0 }, { name := "bootLayer", type := (.object "java/lang/ModuleLayer"), accessFlags := 8, slot := 13, constantValue := 0 }]
  methods := #[k16m0, k16m1]
  instanceTypes := #[]
  staticTypes := #[(.object "java/io/InputStream"), (.object "java/io/PrintStream"), (.object "java/io/PrintStream"), (.object "java/io/InputStream"), .int, .int, .int, (.object "java/lang/SecurityManager"), (.object "java/lang/String"), (.object "java/io/Console"), (.object "java/io/PrintStream"), (.object "java/util/Properties"), (.object "java/lang/String"), (.object "java/lang/ModuleLayer")]
  resolved := Array.replicate 834 none
  statics := none }

def pool17 : Array CpInfo := pool [(9, u "<init>"), (6, .class_ 18), (1, u "java/lang/Object"), (0, u "()V"), (1, .class_ 23), (1, u "jdk/internal/util/ArraysSupport"), (0, u "LOG2_ARRAY_LONG_INDEX_SCALE"), (0, u "I"), (2, u "U"), (0, u "Ljdk/internal/misc/Unsafe;"), (8, u "BIG_ENDIAN"), (0, u "Z"), (8, u "LOG2_BYTE_BIT_SIZE"), (4, u "LOG2_ARRAY_INT_INDEX_SCALE"), (54, u "JLA"), (0, u "Ljdk/internal/access/JavaLangAccess;"), (11, u "LOG2_ARRAY_BOOLEAN_INDEX_SCALE"), (9, u "LOG2_ARRAY_BYTE_INDEX_SCALE"), (5, u "LOG2_ARRAY_CHAR_INDEX_SCALE"), (5, u "LOG2_ARRAY_SHORT_INDEX_SCALE"), (18, u "LOG2_ARRAY_FLOAT_INDEX_SCALE"), (24, u "LOG2_ARRAY_DOUBLE_INDEX_SCALE"), (89, u "T_BOOLEAN"), (2, u "T_CHAR"), (1, u "T_FLOAT"), (1, u "T_DOUBLE"), (1, u "T_BYTE"), (1, u "T_SHORT"), (1, u "T_INT"), (1, u "T_LONG"), (1, u "SOFT_MAX_ARRAY_LENGTH")] 83

def k17m0 : Method := { name := "<init>", desc := "()V", sig := { parameters := [], returnType := none }, accessFlags := 2, code := none }
/-- jdk/internal/util/ArraysSupport -/
def k17 : Class := { plain "jdk/internal/util/ArraysSupport" (some 0) with
  accessFlags := 33
  interfaces := #[]
  cf := some (fileOf pool17 21 #[] #[{ accessFlags := 2, nameIndex := 9, descriptorIndex := 19, attributes := #[] }] 33 16 #[] #[{ accessFlags := 24, nameIndex := 28, descriptorIndex := 29, attributes := #[] }, { accessFlags := 26, nameIndex := 38, descriptorIndex := 39, attributes := #[] }, { accessFlags := 25, nameIndex := 121, descriptorIndex := 25, attributes := #[] }, { accessFlags := 25, nameIndex := 131, descriptorIndex := 25, attributes := #[] }, { accessFlags := 25, nameIndex := 137, descriptorIndex := 25, attributes := #[] }, { accessFlags := 25, nameIndex := 143, descriptorIndex := 25, attributes := #[] }, { accessFlags := 25, nameIndex := 53, descriptorIndex := 25, attributes := #[] }, { accessFlags := 25, nameIndex := 24, descriptorIndex := 25, attributes := #[] }, { accessFlags := 25, nameIndex := 162, descriptorIndex := 25, attributes := #[] }, { accessFlags := 25, nameIndex := 187, descriptorIndex := 25, attributes := #[] }, { accessFlags := 26, nameIndex := 48, descriptorIndex := 25, attributes := #[] }, { accessFlags := 25, nameIndex := 277, descriptorIndex := 25, attributes := #[] }, { accessFlags := 25, nameIndex := 280, descriptorIndex := 25, attributes := #[] }, { accessFlags := 25, nameIndex := 282, descriptorIndex := 25, attributes := #[] }, { accessFlags := 25, nameIndex := 284, descriptorIndex := 25, attributes := #[] }, { accessFlags := 25, nameIndex := 286, descriptorIndex := 25, attributes := #[] }, { accessFlags := 25, nameIndex := 288, descriptorIndex := 25, attributes := #[] }, { accessFlags := 25, nameIndex := 290, descriptorIndex := 25, attributes := #[] }, { accessFlags := 25, nameIndex := 292, descriptorIndex := 25, attributes := #[] }, { accessFlags := 26, nameIndex := 108, descriptorIndex := 109, attributes := #[] }, { accessFlags := 25, nameIndex := 294, descriptorIndex := 25, attributes := #[] }])
  fields := #[{ name := "U", type := (.object "jdk/internal/misc/Unsafe"), accessFlags := 24, slot := 0, constantValue := 0 }, { name := "BIG_ENDIAN", type := .boolean, accessFlags := 26, slot := 1, constantValue := 0 }, { name := "LOG2_ARRAY_BOOLEAN_INDEX_SCALE", type := .int, accessFlags := 25, slot := 2, constantValue := 0 }, { name := "LOG2_ARRAY_BYTE_INDEX_SCALE", type := .int, accessFlags := 25, slot := 3, constantValue := 0 }, { name := "LOG2_ARRAY_CHAR_INDEX_SCALE", type := .int, accessFlags := 25, slot := 4, constantValue := 0 }, { name := "LOG2_ARRAY_SHORT_INDEX_SCALE", type := .int, accessFlags := 25, slot := 5, constantValue := 0 }, { name := "LOG2_ARRAY_INT_INDEX_SCALE", type := .int, accessFlags := 25, slot := 6, constantValue := 0 }, { name := "LOG2_ARRAY_LONG_INDEX_SCALE", type := .int, accessFlags := 25, slot := 7, constantValue := 0 }, { name := "LOG2_ARRAY_FLOAT_INDEX_SCALE", type := .int, accessFlags := 25, slot := 8, constantValue := 0 }, { name := "LOG2_ARRAY_DOUBLE_INDEX_SCALE", type := .int, accessFlags := 25, slot := 9, constantValue := 0 }, { name := "LOG2_BYTE_BIT_SIZE", type := .int, accessFlags := 26, slot := 10, constantValue := 0 }, { name := "T_BOOLEAN", type := .int, accessFlags := 25, slot := 11, constantValue := 0 }, { name := "T_CHAR", type := .int, accessFlags := 25, slot := 12, constantValue := 0 }, { name := "T_FLOAT", type := .int, accessFlags := 25, slot := 13, constantValue := 0 }, { name := "T_DOUBLE", type := .int, accessFlags := 25, slot := 14, constantValue := 0 }, { name := "T_BYTE", type := .int, accessFlags := 25, slot := 15, constantValue := 0 }, { name := "T_SHORT", type := .int, accessFlags := 25, slot := 16, constantValue := 0 }, { name := "T_INT", type := .int, accessFlags := 25, slot := 17, constantValue := 0 }, { name := "T_LONG", type := .int, accessFlags := 25, slot := 18, constantValue := 0 }, { name := "JLA", type := (.object "jdk/internal/access/JavaLangAccess"), accessFlags := 26, slot := 19, constantValue := 0 }, { name := "SOFT_MAX_ARRAY_LENGTH", type := .int, accessFlags := 25, slot := 20, constantValue := 0 }]
  methods := #[k17m0]
  instanceTypes := #[]
  staticTypes := #[(.object "jdk/internal/misc/Unsafe"), .boolean, .int, .int, .int, .int, .int, .int, .int, .int, .int, .int, .int, .int, .int, .int, .int, .int, .int, (.object "jdk/internal/access/JavaLangAccess"), .int]
  resolved := Array.replicate 378 none
  statics := none }

def pool18 : Array CpInfo := pool [(1, u "java/lang/Cloneable"), (0, .class_ 1), (0, u "java/lang/Object"), (0, .class_ 3)] 3

/-- java/lang/Cloneable -/
def k18 : Class := { plain "java/lang/Cloneable" (some 0) with
  accessFlags := 1537
  interfaces := #[]
  cf := some (fileOf pool18 2 #[] #[] 1537 4 #[] #[])
  fields := #[]
  methods := #[]
  instanceTypes := #[]
  staticTypes := #[]
  resolved := Array.replicate 8 none
  statics := none }

/-- the primitive byte -/
def k19 : Class := { plain "byte" none with kind := .primitive 'B', accessFlags := 0x411 }
/-- [B -/
def k20 : Class := { plain "[B" (some 0) with kind := .array 19 .byte, interfaces := #[18, 2], accessFlags := 1041 }

/-- the primitive char -/
def k21 : Class := { plain "char" none with kind := .primitive 'C', accessFlags := 0x411 }
/-- [C -/
def k22 : Class := { plain "[C" (some 0) with kind := .array 21 .char, interfaces := #[18, 2], accessFlags := 1041 }

/-- the primitive int -/
def k23 : Class := { plain "int" none with kind := .primitive 'I', accessFlags := 0x411 }
/-- [I -/
def k24 : Class := { plain "[I" (some 0) with kind := .array 23 .int, interfaces := #[18, 2], accessFlags := 1041 }

def heap : Heap := #[{ cls := 7, slots := #[.long 0, .int 1, .null, .int 0, .null, .int 0, .int 0], vm := .statics 7 },
  { cls := 10, slots := #[.ref 3], vm := .statics 10 },
  { cls := 13, slots := #[.null, .null, .null], vm := .statics 13 },
  { cls := 10, slots := #[.null], vm := .none }]
def classes : Array Class := #[k0, k1, k2, k3, k4, k5, k6, k7, k8, k9, k10, k11, k12, k13, k14, k15, k16, k17, k18, k19, k20, k21, k22, k23, k24]
def interned : List (Array UInt16 × Addr) := []
def slotsUsed : Nat := 12
def theMethod : MethodId := ⟨1, 2⟩
def args0 : Array Value := #[.int 1, .int 2, .int 3, .int 4, .int 5, .int 6]
def aboutOver (below : List Frame) : State where
  vm := { classes := classes, interned := interned.toArray }
  heap := heap
  slotsUsed := slotsUsed
  threads := #[{ frames := .invoking theMethod args0 :: below }]
def below0 : List Frame := [.native { method := ⟨0, 0⟩, args := #[] }]
def about1 : State := aboutOver below0
def p0 : Program := .bare "" "" ""
def e0 : Env := launch0.env 0 0 0
theorem w_frames : about1.frames = Frame.invoking theMethod args0 :: below0 := rfl
set_option maxRecDepth 65536 in
theorem w_args : argsFit about1.vm theMethod args0 = true := by decide +kernel
set_option maxRecDepth 65536 in
theorem w_heap : heapFits about1 = true := by decide +kernel
set_option maxRecDepth 65536 in
theorem w_runnable : about1.curStatus? = some .runnable := by decide +kernel
set_option maxRecDepth 65536 in
theorem w_alone : about1.alone = true := by decide +kernel
set_option maxRecDepth 65536 in
theorem w_named : about1.methodNamed? x = some theMethod := by decide +kernel
set_option maxRecDepth 65536 in
theorem w_hears : about1.hears theMethod below0 = true := by decide +kernel
set_option maxRecDepth 65536 in
theorem w_ripe : about1.ripe theMethod args0 below0 = true := by decide +kernel
theorem w_running : about1.status = .running := rfl
set_option maxRecDepth 65536 in
theorem w_room : about1.hasRoom e0.platform room_1 = true :=
  launch0.hasRoom_least _ room_1 (by decide +kernel) (by decide +kernel) (by decide +kernel) (by decide +kernel) (by decide +kernel) (by decide +kernel)
theorem allAtoms_all (ts : List Jvm.Cond) (a : Array Jvm.Value) (st : Jvm.State) : (allAtoms ts).before a st = ts.all (fun c => c.before a st) := by
  induction ts with
  | nil => rfl
  | cons c t ih =>
    show (Jvm.Cond.and c (allAtoms t)).before a st = _
    rw [Jvm.Cond.before_and, ih, List.all_cons]
def words1 : List Jvm.Cond := Jvm.Cond.code x code maxLocals ret :: tables_1
/-- a 'code' word, met by the world's own term for the bytes: nothing is compared byte by byte -/
theorem code_word {y : MethodName} {bytes : ByteArray} {mx : Nat} {rt : Option FieldType} {a : Array Value} {s : State} {m : MethodId} {meth : Method} {c : Code} (h1 : s.methodNamed? y = some m) (h2 : s.vm.method? m = some meth) (h3 : meth.code = some c) (h4 : c.code = bytes)
    (h5 : (c.maxLocals == mx && c.exceptionTable.isEmpty && decide (c.maxStack ≤ mostOperands) && decide (meth.sig.returnType = rt) && !meth.locks && decide (parseMethodDescriptor y.desc = some meth.sig)) = true) : (Jvm.Cond.code y bytes mx rt).before a s = true := by
  simp only [Bool.and_eq_true, beq_iff_eq, Bool.not_eq_true', decide_eq_true_eq] at h5
  obtain ⟨⟨⟨⟨⟨g1, g2⟩, g3⟩, g4⟩, g5⟩, g6⟩ := h5
  simp [Cond.before, Cond.holds, Cond.value, h1, h2, h3, h4, g1, g2, g3, g4, g5, g6]
def isCode : Jvm.Cond → Bool
  | .code _ _ _ _ => true
  | _ => false
theorem all_split {L : List Jvm.Cond} {P : Jvm.Cond → Bool} (h1 : L.all (fun c => isCode c || P c) = true) (h2 : ∀ c ∈ L.filter isCode, P c = true) : L.all P = true := by
  refine List.all_eq_true.mpr fun c hc => ?_
  have h := List.all_eq_true.mp h1 c hc
  rcases Bool.eq_false_or_eq_true (isCode c) with hi | hi
  · exact h2 c (List.mem_filter.mpr ⟨hc, hi⟩)
  · simpa [hi] using h
set_option maxRecDepth 65536 in
theorem w_c0 : (Jvm.Cond.code x code maxLocals ret).before args0 about1 = true := code_word (m := ⟨1, 2⟩) (meth := k1m2) (c := k1c2) (by decide +kernel) rfl rfl rfl (by decide +kernel)
set_option maxRecDepth 65536 in
theorem w_c1 : (Jvm.Cond.code ({ cls := "com/example/bindery/bindery/compiler/JavaTypeSimpleNamePinLaw", name := "pick", desc := "(III)C" } : Jvm.MethodName) method_2_code (3 : Nat) (Option.some Jvm.ClassFile.FieldType.char)).before args0 about1 = true := code_word (m := ⟨1, 1⟩) (meth := k1m1) (c := k1c1) (by decide +kernel) rfl rfl rfl (by decide +kernel)
set_option maxRecDepth 65536 in
theorem w_c2 : (Jvm.Cond.code ({ cls := "java/lang/String", name := "<init>", desc := "([C)V" } : Jvm.MethodName) jdk_42_method_3_code (2 : Nat) (Option.none : Option Jvm.ClassFile.FieldType)).before args0 about1 = true := code_word (m := ⟨7, 1⟩) (meth := k7m1) (c := k7c1) (by decide +kernel) rfl rfl rfl (by decide +kernel)
set_option maxRecDepth 65536 in
theorem w_c3 : (Jvm.Cond.code ({ cls := "java/lang/String", name := "<init>", desc := "([CIILjava/lang/Void;)V" } : Jvm.MethodName) jdk_42_method_149_code (6 : Nat) (Option.none : Option Jvm.ClassFile.FieldType)).before args0 about1 = true := code_word (m := ⟨7, 8⟩) (meth := k7m8) (c := k7c8) (by decide +kernel) rfl rfl rfl (by decide +kernel)
set_option maxRecDepth 65536 in
theorem w_c4 : (Jvm.Cond.code ({ cls := "java/lang/Object", name := "<init>", desc := "()V" } : Jvm.MethodName) object_method_1_code (1 : Nat) (Option.none : Option Jvm.ClassFile.FieldType)).before args0 about1 = true := code_word (m := ⟨0, 0⟩) (meth := k0m0) (c := k0c0) (by decide +kernel) rfl rfl rfl (by decide +kernel)
set_option maxRecDepth 65536 in
theorem w_c5 : (Jvm.Cond.code ({ cls := "com/example/bindery/bindery/compiler/JavaType", name := "<init>", desc := "(Ljava/lang/String;Ljava/lang/String;)V" } : Jvm.MethodName) prog_5_method_1_code (3 : Nat) (Option.none : Option Jvm.ClassFile.FieldType)).before args0 about1 = true := code_word (m := ⟨9, 0⟩) (meth := k9m0) (c := k9c0) (by decide +kernel) rfl rfl rfl (by decide +kernel)
set_option maxRecDepth 65536 in
theorem w_c6 : (Jvm.Cond.code ({ cls := "java/util/Optional", name := "empty", desc := "()Ljava/util/Optional;" } : Jvm.MethodName) jdk_32_method_1_code (1 : Nat) (Option.some (Jvm.ClassFile.FieldType.object "java/util/Optional"))).before args0 about1 = true := code_word (m := ⟨10, 0⟩) (meth := k10m0) (c := k10c0) (by decide +kernel) rfl rfl rfl (by decide +kernel)
set_option maxRecDepth 65536 in
theorem w_c7 : (Jvm.Cond.code ({ cls := "com/example/bindery/bindery/compiler/JavaType", name := "<init>", desc := "(Ljava/lang/String;Ljava/lang/String;Ljava/util/Optional;)V" } : Jvm.MethodName) prog_5_method_2_code (4 : Nat) (Option.none : Option Jvm.ClassFile.FieldType)).before args0 about1 = true := code_word (m := ⟨9, 1⟩) (meth := k9m1) (c := k9c1) (by decide +kernel) rfl rfl rfl (by decide +kernel)
set_option maxRecDepth 65536 in
theorem w_c8 : (Jvm.Cond.code ({ cls := "java/lang/Record", name := "<init>", desc := "()V" } : Jvm.MethodName) jdk_30_method_1_code (1 : Nat) (Option.none : Option Jvm.ClassFile.FieldType)).before args0 about1 = true := code_word (m := ⟨8, 0⟩) (meth := k8m0) (c := k8c0) (by decide +kernel) rfl rfl rfl (by decide +kernel)
set_option maxRecDepth 65536 in
theorem w_c9 : (Jvm.Cond.code ({ cls := "com/example/bindery/bindery/compiler/JavaType", name := "simpleName", desc := "()Ljava/lang/String;" } : Jvm.MethodName) prog_5_method_8_code (1 : Nat) (Option.some (Jvm.ClassFile.FieldType.object "java/lang/String"))).before args0 about1 = true := code_word (m := ⟨9, 2⟩) (meth := k9m2) (c := k9c2) (by decide +kernel) rfl rfl rfl (by decide +kernel)
set_option maxRecDepth 65536 in
theorem w_c10 : (Jvm.Cond.code ({ cls := "java/lang/String", name := "lastIndexOf", desc := "(I)I" } : Jvm.MethodName) jdk_42_method_82_code (2 : Nat) (Option.some Jvm.ClassFile.FieldType.int)).before args0 about1 = true := code_word (m := ⟨7, 4⟩) (meth := k7m4) (c := k7c4) (by decide +kernel) rfl rfl rfl (by decide +kernel)
set_option maxRecDepth 65536 in
theorem w_c11 : (Jvm.Cond.code ({ cls := "java/lang/String", name := "length", desc := "()I" } : Jvm.MethodName) jdk_42_method_54_code (1 : Nat) (Option.some Jvm.ClassFile.FieldType.int)).before args0 about1 = true := code_word (m := ⟨7, 2⟩) (meth := k7m2) (c := k7c2) (by decide +kernel) rfl rfl rfl (by decide +kernel)
set_option maxRecDepth 65536 in
theorem w_c12 : (Jvm.Cond.code ({ cls := "java/lang/String", name := "coder", desc := "()B" } : Jvm.MethodName) jdk_42_method_152_code (1 : Nat) (Option.some Jvm.ClassFile.FieldType.byte)).before args0 about1 = true := code_word (m := ⟨7, 10⟩) (meth := k7m10) (c := k7c10) (by decide +kernel) rfl rfl rfl (by decide +kernel)
set_option maxRecDepth 65536 in
theorem w_c13 : (Jvm.Cond.code ({ cls := "java/lang/String", name := "lastIndexOf", desc := "(II)I" } : Jvm.MethodName) jdk_42_method_83_code (3 : Nat) (Option.some Jvm.ClassFile.FieldType.int)).before args0 about1 = true := code_word (m := ⟨7, 5⟩) (meth := k7m5) (c := k7c5) (by decide +kernel) rfl rfl rfl (by decide +kernel)
set_option maxRecDepth 65536 in
theorem w_c14 : (Jvm.Cond.code ({ cls := "java/lang/String", name := "isLatin1", desc := "()Z" } : Jvm.MethodName) jdk_42_method_154_code (1 : Nat) (Option.some Jvm.ClassFile.FieldType.boolean)).before args0 about1 = true := code_word (m := ⟨7, 11⟩) (meth := k7m11) (c := k7c11) (by decide +kernel) rfl rfl rfl (by decide +kernel)
set_option maxRecDepth 65536 in
theorem w_c15 : (Jvm.Cond.code ({ cls := "java/lang/StringLatin1", name := "lastIndexOf", desc := "([BII)I" } : Jvm.MethodName) jdk_43_method_27_code (4 : Nat) (Option.some Jvm.ClassFile.FieldType.int)).before args0 about1 = true := code_word (m := ⟨11, 3⟩) (meth := k11m3) (c := k11c3) (by decide +kernel) rfl rfl rfl (by decide +kernel)
set_option maxRecDepth 65536 in
theorem w_c16 : (Jvm.Cond.code ({ cls := "java/lang/StringLatin1", name := "canEncode", desc := "(I)Z" } : Jvm.MethodName) jdk_43_method_4_code (1 : Nat) (Option.some Jvm.ClassFile.FieldType.boolean)).before args0 about1 = true := code_word (m := ⟨11, 2⟩) (meth := k11m2) (c := k11c2) (by decide +kernel) rfl rfl rfl (by decide +kernel)
set_option maxRecDepth 65536 in
theorem w_c17 : (Jvm.Cond.code ({ cls := "java/lang/Math", name := "min", desc := "(II)I" } : Jvm.MethodName) jdk_29_method_69_code (2 : Nat) (Option.some Jvm.ClassFile.FieldType.int)).before args0 about1 = true := code_word (m := ⟨12, 1⟩) (meth := k12m1) (c := k12c1) (by decide +kernel) rfl rfl rfl (by decide +kernel)
set_option maxRecDepth 65536 in
theorem w_c18 : (Jvm.Cond.code ({ cls := "java/lang/String", name := "substring", desc := "(I)Ljava/lang/String;" } : Jvm.MethodName) jdk_42_method_91_code (2 : Nat) (Option.some (Jvm.ClassFile.FieldType.object "java/lang/String"))).before args0 about1 = true := code_word (m := ⟨7, 6⟩) (meth := k7m6) (c := k7c6) (by decide +kernel) rfl rfl rfl (by decide +kernel)
set_option maxRecDepth 65536 in
theorem w_c19 : (Jvm.Cond.code ({ cls := "java/lang/String", name := "substring", desc := "(II)Ljava/lang/String;" } : Jvm.MethodName) jdk_42_method_92_code (5 : Nat) (Option.some (Jvm.ClassFile.FieldType.object "java/lang/String"))).before args0 about1 = true := code_word (m := ⟨7, 7⟩) (meth := k7m7) (c := k7c7) (by decide +kernel) rfl rfl rfl (by decide +kernel)
set_option maxRecDepth 65536 in
theorem w_c20 : (Jvm.Cond.code ({ cls := "java/lang/String", name := "checkBoundsBeginEnd", desc := "(III)V" } : Jvm.MethodName) jdk_42_method_158_code (3 : Nat) (Option.none : Option Jvm.ClassFile.FieldType)).before args0 about1 = true := code_word (m := ⟨7, 13⟩) (meth := k7m13) (c := k7c13) (by decide +kernel) rfl rfl rfl (by decide +kernel)
set_option maxRecDepth 65536 in
theorem w_c21 : (Jvm.Cond.code ({ cls := "jdk/internal/util/Preconditions", name := "checkFromToIndex", desc := "(IIILjava/util/function/BiFunction;)I" } : Jvm.MethodName) jdk_41_method_12_code (4 : Nat) (Option.some Jvm.ClassFile.FieldType.int)).before args0 about1 = true := code_word (m := ⟨13, 2⟩) (meth := k13m2) (c := k13c2) (by decide +kernel) rfl rfl rfl (by decide +kernel)
set_option maxRecDepth 65536 in
theorem w_c22 : (Jvm.Cond.code ({ cls := "java/lang/StringUTF16", name := "compress", desc := "([CII)[B" } : Jvm.MethodName) jdk_52_method_16_code (6 : Nat) (Option.some (Jvm.ClassFile.FieldType.array Jvm.ClassFile.FieldType.byte))).before args0 about1 = true := code_word (m := ⟨14, 2⟩) (meth := k14m2) (c := k14c2) (by decide +kernel) rfl rfl rfl (by decide +kernel)
set_option maxRecDepth 65536 in
theorem w_c23 : (Jvm.Cond.code ({ cls := "java/lang/StringUTF16", name := "compress", desc := "([CI[BII)I" } : Jvm.MethodName) jdk_52_method_21_code (7 : Nat) (Option.some Jvm.ClassFile.FieldType.int)).before args0 about1 = true := code_word (m := ⟨14, 3⟩) (meth := k14m3) (c := k14c3) (by decide +kernel) rfl rfl rfl (by decide +kernel)
set_option maxRecDepth 65536 in
theorem w_c24 : (Jvm.Cond.code ({ cls := "java/lang/StringUTF16", name := "coderFromArrayLen", desc := "([BI)B" } : Jvm.MethodName) jdk_52_method_15_code (2 : Nat) (Option.some Jvm.ClassFile.FieldType.byte)).before args0 about1 = true := code_word (m := ⟨14, 1⟩) (meth := k14m1) (c := k14c1) (by decide +kernel) rfl rfl rfl (by decide +kernel)
set_option maxRecDepth 65536 in
theorem w_c25 : (Jvm.Cond.code ({ cls := "java/lang/StringLatin1", name := "newString", desc := "([BII)Ljava/lang/String;" } : Jvm.MethodName) jdk_43_method_47_code (3 : Nat) (Option.some (Jvm.ClassFile.FieldType.object "java/lang/String"))).before args0 about1 = true := code_word (m := ⟨11, 4⟩) (meth := k11m4) (c := k11c4) (by decide +kernel) rfl rfl rfl (by decide +kernel)
set_option maxRecDepth 65536 in
theorem w_c26 : (Jvm.Cond.code ({ cls := "java/util/Arrays", name := "copyOfRange", desc := "([BII)[B" } : Jvm.MethodName) jdk_65_method_132_code (3 : Nat) (Option.some (Jvm.ClassFile.FieldType.array Jvm.ClassFile.FieldType.byte))).before args0 about1 = true := code_word (m := ⟨15, 2⟩) (meth := k15m2) (c := k15c2) (by decide +kernel) rfl rfl rfl (by decide +kernel)
set_option maxRecDepth 65536 in
theorem w_c27 : (Jvm.Cond.code ({ cls := "java/util/Arrays", name := "copyOfRangeByte", desc := "([BII)[B" } : Jvm.MethodName) jdk_65_method_133_code (5 : Nat) (Option.some (Jvm.ClassFile.FieldType.array Jvm.ClassFile.FieldType.byte))).before args0 about1 = true := code_word (m := ⟨15, 3⟩) (meth := k15m3) (c := k15c3) (by decide +kernel) rfl rfl rfl (by decide +kernel)
set_option maxRecDepth 65536 in
theorem w_c28 : (Jvm.Cond.code ({ cls := "java/util/Arrays", name := "checkLength", desc := "(II)V" } : Jvm.MethodName) jdk_65_method_131_code (2 : Nat) (Option.none : Option Jvm.ClassFile.FieldType)).before args0 about1 = true := code_word (m := ⟨15, 1⟩) (meth := k15m1) (c := k15c1) (by decide +kernel) rfl rfl rfl (by decide +kernel)
set_option maxRecDepth 65536 in
theorem w_c29 : (Jvm.Cond.code ({ cls := "java/lang/String", name := "<init>", desc := "([BB)V" } : Jvm.MethodName) jdk_42_method_151_code (3 : Nat) (Option.none : Option Jvm.ClassFile.FieldType)).before args0 about1 = true := code_word (m := ⟨7, 9⟩) (meth := k7m9) (c := k7c9) (by decide +kernel) rfl rfl rfl (by decide +kernel)
set_option maxRecDepth 65536 in
theorem w_c30 : (Jvm.Cond.code ({ cls := "java/lang/String", name := "charAt", desc := "(I)C" } : Jvm.MethodName) jdk_42_method_56_code (2 : Nat) (Option.some Jvm.ClassFile.FieldType.char)).before args0 about1 = true := code_word (m := ⟨7, 3⟩) (meth := k7m3) (c := k7c3) (by decide +kernel) rfl rfl rfl (by decide +kernel)
set_option maxRecDepth 65536 in
theorem w_c31 : (Jvm.Cond.code ({ cls := "java/lang/StringLatin1", name := "charAt", desc := "([BI)C" } : Jvm.MethodName) jdk_43_method_2_code (2 : Nat) (Option.some Jvm.ClassFile.FieldType.char)).before args0 about1 = true := code_word (m := ⟨11, 1⟩) (meth := k11m1) (c := k11c1) (by decide +kernel) rfl rfl rfl (by decide +kernel)
set_option maxRecDepth 65536 in
theorem w_c32 : (Jvm.Cond.code ({ cls := "java/lang/String", name := "checkIndex", desc := "(II)V" } : Jvm.MethodName) jdk_42_method_155_code (2 : Nat) (Option.none : Option Jvm.ClassFile.FieldType)).before args0 about1 = true := code_word (m := ⟨7, 12⟩) (meth := k7m12) (c := k7c12) (by decide +kernel) rfl rfl rfl (by decide +kernel)
set_option maxRecDepth 65536 in
theorem w_c33 : (Jvm.Cond.code ({ cls := "jdk/internal/util/Preconditions", name := "checkIndex", desc := "(IILjava/util/function/BiFunction;)I" } : Jvm.MethodName) jdk_41_method_11_code (3 : Nat) (Option.some Jvm.ClassFile.FieldType.int)).before args0 about1 = true := code_word (m := ⟨13, 1⟩) (meth := k13m1) (c := k13c1) (by decide +kernel) rfl rfl rfl (by decide +kernel)
def codes1 : List Jvm.Cond := [Jvm.Cond.code x code maxLocals ret, Jvm.Cond.code ({ cls := "com/example/bindery/bindery/compiler/JavaTypeSimpleNamePinLaw", name := "pick", desc := "(III)C" } : Jvm.MethodName) method_2_code (3 : Nat) (Option.some Jvm.ClassFile.FieldType.char), Jvm.Cond.code ({ cls := "java/lang/String", name := "<init>", desc := "([C)V" } : Jvm.MethodName) jdk_42_method_3_code (2 : Nat) (Option.none : Option Jvm.ClassFile.FieldType), Jvm.Cond.code ({ cls := "java/lang/String", name := "<init>", desc := "([CIILjava/lang/Void;)V" } : Jvm.MethodName) jdk_42_method_149_code (6 : Nat) (Option.none : Option Jvm.ClassFile.FieldType), Jvm.Cond.code ({ cls := "java/lang/Object", name := "<init>", desc := "()V" } : Jvm.MethodName) object_method_1_code (1 : Nat) (Option.none : Option Jvm.ClassFile.FieldType), Jvm.Cond.code ({ cls := "com/example/bindery/bindery/compiler/JavaType", name := "<init>", desc := "(Ljava/lang/String;Ljava/lang/String;)V" } : Jvm.MethodName) prog_5_method_1_code (3 : Nat) (Option.none : Option Jvm.ClassFile.FieldType), Jvm.Cond.code ({ cls := "java/util/Optional", name := "empty", desc := "()Ljava/util/Optional;" } : Jvm.MethodName) jdk_32_method_1_code (1 : Nat) (Option.some (Jvm.ClassFile.FieldType.object "java/util/Optional")), Jvm.Cond.code ({ cls := "com/example/bindery/bindery/compiler/JavaType", name := "<init>", desc := "(Ljava/lang/String;Ljava/lang/String;Ljava/util/Optional;)V" } : Jvm.MethodName) prog_5_method_2_code (4 : Nat) (Option.none : Option Jvm.ClassFile.FieldType), Jvm.Cond.code ({ cls := "java/lang/Record", name := "<init>", desc := "()V" } : Jvm.MethodName) jdk_30_method_1_code (1 : Nat) (Option.none : Option Jvm.ClassFile.FieldType), Jvm.Cond.code ({ cls := "com/example/bindery/bindery/compiler/JavaType", name := "simpleName", desc := "()Ljava/lang/String;" } : Jvm.MethodName) prog_5_method_8_code (1 : Nat) (Option.some (Jvm.ClassFile.FieldType.object "java/lang/String")), Jvm.Cond.code ({ cls := "java/lang/String", name := "lastIndexOf", desc := "(I)I" } : Jvm.MethodName) jdk_42_method_82_code (2 : Nat) (Option.some Jvm.ClassFile.FieldType.int), Jvm.Cond.code ({ cls := "java/lang/String", name := "length", desc := "()I" } : Jvm.MethodName) jdk_42_method_54_code (1 : Nat) (Option.some Jvm.ClassFile.FieldType.int), Jvm.Cond.code ({ cls := "java/lang/String", name := "coder", desc := "()B" } : Jvm.MethodName) jdk_42_method_152_code (1 : Nat) (Option.some Jvm.ClassFile.FieldType.byte), Jvm.Cond.code ({ cls := "java/lang/String", name := "lastIndexOf", desc := "(II)I" } : Jvm.MethodName) jdk_42_method_83_code (3 : Nat) (Option.some Jvm.ClassFile.FieldType.int), Jvm.Cond.code ({ cls := "java/lang/String", name := "isLatin1", desc := "()Z" } : Jvm.MethodName) jdk_42_method_154_code (1 : Nat) (Option.some Jvm.ClassFile.FieldType.boolean), Jvm.Cond.code ({ cls := "java/lang/StringLatin1", name := "lastIndexOf", desc := "([BII)I" } : Jvm.MethodName) jdk_43_method_27_code (4 : Nat) (Option.some Jvm.ClassFile.FieldType.int), Jvm.Cond.code ({ cls := "java/lang/StringLatin1", name := "canEncode", desc := "(I)Z" } : Jvm.MethodName) jdk_43_method_4_code (1 : Nat) (Option.some Jvm.ClassFile.FieldType.boolean), Jvm.Cond.code ({ cls := "java/lang/Math", name := "min", desc := "(II)I" } : Jvm.MethodName) jdk_29_method_69_code (2 : Nat) (Option.some Jvm.ClassFile.FieldType.int), Jvm.Cond.code ({ cls := "java/lang/String", name := "substring", desc := "(I)Ljava/lang/String;" } : Jvm.MethodName) jdk_42_method_91_code (2 : Nat) (Option.some (Jvm.ClassFile.FieldType.object "java/lang/String")), Jvm.Cond.code ({ cls := "java/lang/String", name := "substring", desc := "(II)Ljava/lang/String;" } : Jvm.MethodName) jdk_42_method_92_code (5 : Nat) (Option.some (Jvm.ClassFile.FieldType.object "java/lang/String")), Jvm.Cond.code ({ cls := "java/lang/String", name := "checkBoundsBeginEnd", desc := "(III)V" } : Jvm.MethodName) jdk_42_method_158_code (3 : Nat) (Option.none : Option Jvm.ClassFile.FieldType), Jvm.Cond.code ({ cls := "jdk/internal/util/Preconditions", name := "checkFromToIndex", desc := "(IIILjava/util/function/BiFunction;)I" } : Jvm.MethodName) jdk_41_method_12_code (4 : Nat) (Option.some Jvm.ClassFile.FieldType.int), Jvm.Cond.code ({ cls := "java/lang/StringUTF16", name := "compress", desc := "([CII)[B" } : Jvm.MethodName) jdk_52_method_16_code (6 : Nat) (Option.some (Jvm.ClassFile.FieldType.array Jvm.ClassFile.FieldType.byte)), Jvm.Cond.code ({ cls := "java/lang/StringUTF16", name := "compress", desc := "([CI[BII)I" } : Jvm.MethodName) jdk_52_method_21_code (7 : Nat) (Option.some Jvm.ClassFile.FieldType.int), Jvm.Cond.code ({ cls := "java/lang/StringUTF16", name := "coderFromArrayLen", desc := "([BI)B" } : Jvm.MethodName) jdk_52_method_15_code (2 : Nat) (Option.some Jvm.ClassFile.FieldType.byte), Jvm.Cond.code ({ cls := "java/lang/StringLatin1", name := "newString", desc := "([BII)Ljava/lang/String;" } : Jvm.MethodName) jdk_43_method_47_code (3 : Nat) (Option.some (Jvm.ClassFile.FieldType.object "java/lang/String")), Jvm.Cond.code ({ cls := "java/util/Arrays", name := "copyOfRange", desc := "([BII)[B" } : Jvm.MethodName) jdk_65_method_132_code (3 : Nat) (Option.some (Jvm.ClassFile.FieldType.array Jvm.ClassFile.FieldType.byte)), Jvm.Cond.code ({ cls := "java/util/Arrays", name := "copyOfRangeByte", desc := "([BII)[B" } : Jvm.MethodName) jdk_65_method_133_code (5 : Nat) (Option.some (Jvm.ClassFile.FieldType.array Jvm.ClassFile.FieldType.byte)), Jvm.Cond.code ({ cls := "java/util/Arrays", name := "checkLength", desc := "(II)V" } : Jvm.MethodName) jdk_65_method_131_code (2 : Nat) (Option.none : Option Jvm.ClassFile.FieldType), Jvm.Cond.code ({ cls := "java/lang/String", name := "<init>", desc := "([BB)V" } : Jvm.MethodName) jdk_42_method_151_code (3 : Nat) (Option.none : Option Jvm.ClassFile.FieldType), Jvm.Cond.code ({ cls := "java/lang/String", name := "charAt", desc := "(I)C" } : Jvm.MethodName) jdk_42_method_56_code (2 : Nat) (Option.some Jvm.ClassFile.FieldType.char), Jvm.Cond.code ({ cls := "java/lang/StringLatin1", name := "charAt", desc := "([BI)C" } : Jvm.MethodName) jdk_43_method_2_code (2 : Nat) (Option.some Jvm.ClassFile.FieldType.char), Jvm.Cond.code ({ cls := "java/lang/String", name := "checkIndex", desc := "(II)V" } : Jvm.MethodName) jdk_42_method_155_code (2 : Nat) (Option.none : Option Jvm.ClassFile.FieldType), Jvm.Cond.code ({ cls := "jdk/internal/util/Preconditions", name := "checkIndex", desc := "(IILjava/util/function/BiFunction;)I" } : Jvm.MethodName) jdk_41_method_11_code (3 : Nat) (Option.some Jvm.ClassFile.FieldType.int)]
set_option maxRecDepth 65536 in
theorem codes_eq : words1.filter isCode = codes1 := rfl
theorem w_codes : ∀ c ∈ words1.filter isCode, c.before args0 about1 = true := by
  rw [codes_eq]
  intro c hc
  simp only [codes1, List.mem_cons, List.not_mem_nil, or_false] at hc
  rcases hc with rfl | rfl | rfl | rfl | rfl | rfl | rfl | rfl | rfl | rfl | rfl | rfl | rfl | rfl | rfl | rfl | rfl | rfl | rfl | rfl | rfl | rfl | rfl | rfl | rfl | rfl | rfl | rfl | rfl | rfl | rfl | rfl | rfl | rfl
  · exact w_c0
  · exact w_c1
  · exact w_c2
  · exact w_c3
  · exact w_c4
  · exact w_c5
  · exact w_c6
  · exact w_c7
  · exact w_c8
  · exact w_c9
  · exact w_c10
  · exact w_c11
  · exact w_c12
  · exact w_c13
  · exact w_c14
  · exact w_c15
  · exact w_c16
  · exact w_c17
  · exact w_c18
  · exact w_c19
  · exact w_c20
  · exact w_c21
  · exact w_c22
  · exact w_c23
  · exact w_c24
  · exact w_c25
  · exact w_c26
  · exact w_c27
  · exact w_c28
  · exact w_c29
  · exact w_c30
  · exact w_c31
  · exact w_c32
  · exact w_c33
set_option maxRecDepth 65536 in
theorem w_t1 : (words1.take 24).all (fun c => isCode c || c.before args0 about1) = true := by decide +kernel
set_option maxRecDepth 65536 in
theorem w_t2 : ((words1.drop 24).take 24).all (fun c => isCode c || c.before args0 about1) = true := by decide +kernel
set_option maxRecDepth 65536 in
theorem w_t3 : (((words1.drop 24).drop 24).take 24).all (fun c => isCode c || c.before args0 about1) = true := by decide +kernel
set_option maxRecDepth 65536 in
theorem w_t4 : ((((words1.drop 24).drop 24).drop 24).take 24).all (fun c => isCode c || c.before args0 about1) = true := by decide +kernel
set_option maxRecDepth 65536 in
theorem w_t5 : (((((words1.drop 24).drop 24).drop 24).drop 24).take 24).all (fun c => isCode c || c.before args0 about1) = true := by decide +kernel
set_option maxRecDepth 65536 in
theorem w_t6 : ((((((words1.drop 24).drop 24).drop 24).drop 24).drop 24).take 24).all (fun c => isCode c || c.before args0 about1) = true := by decide +kernel
set_option maxRecDepth 65536 in
theorem w_t7 : ((((((words1.drop 24).drop 24).drop 24).drop 24).drop 24).drop 24).all (fun c => isCode c || c.before args0 about1) = true := by decide +kernel
theorem w_tables : (allAtoms (Jvm.Cond.code x code maxLocals ret :: tables_1)).before args0 about1 = true := by
  rw [allAtoms_all]
  show words1.all (fun c => c.before args0 about1) = true
  refine all_split ?_ w_codes
  rw [← List.take_append_drop 24 words1, List.all_append, w_t1, ← List.take_append_drop 24 (words1.drop 24), List.all_append, w_t2, ← List.take_append_drop 24 ((words1.drop 24).drop 24), List.all_append, w_t3, ← List.take_append_drop 24 (((words1.drop 24).drop 24).drop 24), List.all_append, w_t4, ← List.take_append_drop 24 ((((words1.drop 24).drop 24).drop 24).drop 24), List.all_append, w_t5, ← List.take_append_drop 24 (((((words1.drop 24).drop 24).drop 24).drop 24).drop 24), List.all_append, w_t6, w_t7]
  rfl
set_option maxRecDepth 65536 in
theorem w_rest : rest_1_c.before args0 about1 = true := by decide +kernel
set_option maxRecDepth 65536 in
theorem w_case : (Jvm.Cond.and given_1 narrow_1).before args0 about1 = true := by decide +kernel
set_option maxRecDepth 65536 in
theorem w_consts : constsHeld consts_1 about1 := Jvm.Lit.constsHeldB_iff.mp (by decide +kernel)
theorem w_applies : (headSpec (Jvm.Cond.code x code maxLocals ret :: tables_1) room_1).applies x e0.platform about1 = true :=
  (Spec.applies_iff w_frames).mpr ⟨w_running, w_runnable, w_alone, w_named, w_hears, w_ripe, w_room, w_tables⟩
theorem atStart : AtStart classFile x code maxLocals ret World_1 tables_1 room_1 Calls_1 rest_1 Pre_1 launch0 p0 e0 about1 theMethod args0 below0 :=
  ⟨lists_1, trivial, launch0.admits_env _ _ _, launch0.least_env, fairChoices_fair.cas, fairChoices_fair.clock, w_frames, w_args, w_heap, w_applies, ⟨w_consts, trivial⟩, w_rest, w_case⟩
end start1
theorem witness_1 : WitnessClaimed_1 := ⟨start1.p0, start1.e0, start1.about1, start1.theMethod, start1.args0, start1.below0, start1.atStart⟩
end Jvm.Pilot.@@N@@
