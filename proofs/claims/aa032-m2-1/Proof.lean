import JvmDerived
import JvmDerived.Pilot.@@N@@Statement
import JvmDerived.Pilot.@@N@@Code
set_option linter.unusedVariables false
set_option linter.unusedSimpArgs false
namespace Jvm.Pilot.@@N@@
open Jvm Jvm.ClassFile Sem Op Lib Jvm.Free Jvm.Stand Jvm.LawKit Jvm.RoadKit Bundle Jvm.Pilot.@@N@@.Jvm.D
/-- from T the run comes to an end of which P speaks -/
def Go (p : Program) (e : Env) (below : List Frame) (P : Outcome → State → Prop) (T : State) : Prop := ∃ s₂ o, Steps p.tables e below T s₂ ∧ s₂.status = .running ∧ Ended s₂ below o ∧ P o s₂
theorem Go.via {p : Program} {e : Env} {below : List Frame} {P : Outcome → State → Prop} {T T' : State} (h : ∀ t, Steps p.tables e below T' t → Steps p.tables e below T t) (g : Go p e below P T') : Go p e below P T := by
  obtain ⟨s₂, o, a, b⟩ := g
  exact ⟨s₂, o, h _ a, b⟩
theorem Go.into {p : Program} {e : Env} {below : List Frame} {P : Outcome → State → Prop} {T : State} {g g' : JFrame} (q : g = g') (h : Go p e below P (T.setTop g')) : ∃ s₂ o, Steps p.tables e below (T.setTop g) s₂ ∧ s₂.status = .running ∧ Ended s₂ below o ∧ P o s₂ := by
  subst q; exact h
section Ret
variable {p : Program} {l : Launch} {e : Env} {R : Room} {s : State} {m : MethodId} {args : Array Value} {below : List Frame} {meth : Method} {c : Code} {T : State} {locs : List Loc} {cells slots K N : Nat}
theorem Go.fin (X : Stand p l e R s m args below meth c T locs cells slots) (hlk : meth.locks = false) {v : Option Value} (hv : meth.sig.returnType = none → v = none) {Q : Option Value → Heap → List Loc → Prop} {g : JFrame}
    (st : ∀ fs, (∀ (f : JFrame) (acts : List Action), f.method = m → f.locked = none → f.entered = [] → (doReturn e (T.setTop f) acts v).1 = T.setFrames fs) → Steps p.tables e below (T.setTop g) (T.setFrames fs))
    (hk : cells ≤ K) (hn : slots ≤ N) (hq : Q v T.heap locs) : Go p e below (fun o u => ∃ v L, o = .returned v ∧ Q v u.heap L ∧ FrameEnd s o u L K N) (T.setTop g) := by
  obtain ⟨fs, hr, hrun, hended, hW, hsame⟩ := X.leave (v := v) hv
  exact ⟨_, _, st fs hr, hrun, hended, _, _, rfl, hq, ⟨_, rfl⟩, hW, hsame.mono hk hn⟩
theorem Go.retI (X : Stand p l e R s m args below meth c T locs cells slots) (hx : p.tables.exec = Jvm.exec) (hlk : meth.locks = false) {Q : Option Value → Heap → List Loc → Prop} {pc : Nat} {Ls : Array Slot} {z : Int32} {rest : List Value} (hret : meth.sig.returnType = some .int) (hd : decode c.code pc = .ok (.ireturn, 1))
    (hk : cells ≤ K) (hn : slots ≤ N) (hq : Q (some (.int z)) T.heap locs) : Go p e below (fun o u => ∃ v L, o = .returned v ∧ Q v u.heap L ∧ FrameEnd s o u L K N) (T.setTop (mkF m pc Ls (.int z :: rest))) :=
  Go.fin X hlk (v := some (.int z)) (fun h => by rw [hret] at h; cases h) (fun fs hr => retOut X hx hret rfl (Or.inl ⟨rfl, Or.inl rfl, _, rfl⟩) hd hr) hk hn hq
theorem Go.retN (X : Stand p l e R s m args below meth c T locs cells slots) (hx : p.tables.exec = Jvm.exec) (hlk : meth.locks = false) {Q : Option Value → Heap → List Loc → Prop} {pc : Nat} {Ls : Array Slot} {z : Int32} {rest : List Value} {t : FieldType} (hret : meth.sig.returnType = some t) (ht : t = .boolean ∨ t = .byte ∨ t = .char ∨ t = .short) (hd : decode c.code pc = .ok (.ireturn, 1))
    (hk : cells ≤ K) (hn : slots ≤ N) (hq : Q (some (.int (nar t z))) T.heap locs) : Go p e below (fun o u => ∃ v L, o = .returned v ∧ Q v u.heap L ∧ FrameEnd s o u L K N) (T.setTop (mkF m pc Ls (.int z :: rest))) :=
  Go.fin X hlk (v := some (.int (nar t z))) (fun h => by rw [hret] at h; cases h) (fun fs hr => Jvm.RoadKit.retN X hx hret ht hd hr) hk hn hq
theorem Go.retJ (X : Stand p l e R s m args below meth c T locs cells slots) (hx : p.tables.exec = Jvm.exec) (hlk : meth.locks = false) {Q : Option Value → Heap → List Loc → Prop} {pc : Nat} {Ls : Array Slot} {z : Int64} {rest : List Value} (hret : meth.sig.returnType = some .long) (hd : decode c.code pc = .ok (.lreturn, 1))
    (hk : cells ≤ K) (hn : slots ≤ N) (hq : Q (some (.long z)) T.heap locs) : Go p e below (fun o u => ∃ v L, o = .returned v ∧ Q v u.heap L ∧ FrameEnd s o u L K N) (T.setTop (mkF m pc Ls (.long z :: rest))) :=
  Go.fin X hlk (v := some (.long z)) (fun h => by rw [hret] at h; cases h) (fun fs hr => retOut X hx hret rfl (Or.inr (Or.inl ⟨rfl, rfl, _, rfl⟩)) hd hr) hk hn hq
theorem Go.retR (X : Stand p l e R s m args below meth c T locs cells slots) (hx : p.tables.exec = Jvm.exec) (hlk : meth.locks = false) {Q : Option Value → Heap → List Loc → Prop} {pc : Nat} {Ls : Array Slot} {w : Value} {rest : List Value} {t : FieldType} (hret : meth.sig.returnType = some t) (ht : t.isReference = true) (hw : w.isRef = true) (hd : decode c.code pc = .ok (.areturn, 1))
    (hk : cells ≤ K) (hn : slots ≤ N) (hq : Q (some w) T.heap locs) : Go p e below (fun o u => ∃ v L, o = .returned v ∧ Q v u.heap L ∧ FrameEnd s o u L K N) (T.setTop (mkF m pc Ls (w :: rest))) :=
  Go.fin X hlk (v := some w) (fun h => by rw [hret] at h; cases h) (fun fs hr => retOut X hx hret (by rcases ref_cases hw with rfl | ⟨z, rfl⟩ <;> cases t <;> rfl) (Or.inr (Or.inr (Or.inr (Or.inr ⟨rfl, ht, hw⟩)))) hd hr) hk hn hq
theorem Go.retV (X : Stand p l e R s m args below meth c T locs cells slots) (hx : p.tables.exec = Jvm.exec) (hlk : meth.locks = false) {Q : Option Value → Heap → List Loc → Prop} {pc : Nat} {Ls : Array Slot} (hret : meth.sig.returnType = none) (hd : decode c.code pc = .ok (.return_, 1))
    (hk : cells ≤ K) (hn : slots ≤ N) (hq : Q none T.heap locs) : Go p e below (fun o u => ∃ v L, o = .returned v ∧ Q v u.heap L ∧ FrameEnd s o u L K N) (T.setTop (mkF m pc Ls [])) :=
  Go.fin X hlk (v := none) (fun _ => rfl) (fun fs hr => X.returnOut hx hret hd hr) hk hn hq
theorem Go.retNW {vm₁ : Vm} (X : Stand p l e R (s.setVm vm₁) m args below meth c T locs cells slots) (hx : p.tables.exec = Jvm.exec) {n : Nat} (hS : s.Since vm₁ n) (hnn : n ≤ T.heap.size) (hlk : meth.locks = false) {Q : Option Value → Heap → List Loc → Prop} {pc : Nat} {Ls : Array Slot} {z : Int32} {rest : List Value} {t : FieldType} (hret : meth.sig.returnType = some t) (ht : t = .boolean ∨ t = .byte ∨ t = .char ∨ t = .short) (hd : decode c.code pc = .ok (.ireturn, 1))
    (hk : cells ≤ K) (hn : slots ≤ N) (hq : Q (some (.int (nar t z))) T.heap locs) : Go p e below (fun o u => ∃ v L, o = .returned v ∧ Q v u.heap L ∧ ReturnedEndW s o u L K N) (T.setTop (mkF m pc Ls (.int z :: rest))) := by
  obtain ⟨fs, hr, hrun, hended, h1, h2, h3, h4⟩ := X.leaveW hS hnn (v := some (.int (nar t z))) (fun h => by rw [hret] at h; cases h) hlk
  exact ⟨_, _, Jvm.RoadKit.retN X hx hret ht hd hr, hrun, hended, _, _, rfl, hq, h1, h2, h3, h4.mono hk hn⟩
end Ret
theorem d1_0 : decode prog_34_method_1_code 0 = .ok (.aload_n 0, 1) := by decide +kernel
theorem d1_1 : decode prog_34_method_1_code 1 = .ok (.invokespecial 1, 3) := by decide +kernel
theorem d1_4 : decode prog_34_method_1_code 4 = .ok (.aload_n 0, 1) := by decide +kernel
theorem d1_5 : decode prog_34_method_1_code 5 = .ok (.lload_n 1, 1) := by decide +kernel
theorem d1_6 : decode prog_34_method_1_code 6 = .ok (.putfield 7, 3) := by decide +kernel
theorem d1_9 : decode prog_34_method_1_code 9 = .ok (.return_, 1) := by decide +kernel
def Q1 (Z : State) (o0 : Addr) (q1 : Int64) (u : Int64) (h0 : Heap) (n0 : Nat) (v : Option Value) (h : Heap) (L : List Loc) : Prop := v = none ∧ Fr n0 L ∧ Keep h0 h [o0] ∧ Exa Z h o0 "com/example/muster/muster/core/SeededRandom" ∧ Fld Z h o0 "com/example/muster/muster/core/SeededRandom" "state" "J" (.long q1)
theorem pn_0 : plainName "com/example/muster/muster/core/SeededRandom" = true := by first | (simp [plainName, overriddenIn]; done) | decide +kernel
theorem ef_1_aa (m : MethodId) (x0 : Addr) (x1 : Int64) : entryFrame m #[(.ref x0), (.long x1)] 3 = mkF m 0 #[.val (.ref x0), .val (.long x1), .second] [] := by first | (simp [entryFrame, mkF, argsToLocals, Value.category]; done) | rfl
set_option maxRecDepth 65536 in
set_option maxHeartbeats 40000000 in
theorem rm1 (l : Launch) (Z : State) (a0 : Array Value) (hw : ∀ d ∈ tables_1, d.before a0 Z = true) (ws : List Jvm.Cond) (o0 : Addr) (q1 : Int64) (u : Int64) (h0 : Heap) (n0 : Nat) (Z0 : n0 ≤ h0.size) (ha0 : Exa Z h0 o0 "com/example/muster/muster/core/SeededRandom") (ha1 : Fld Z h0 o0 "com/example/muster/muster/core/SeededRandom" "state" "J" (.long u)) (ha2 : n0 ≤ o0) :
    MetFree l (⟨"com/example/muster/muster/core/SeededRandom", "<init>", "(J)V"⟩ : MethodName) (head1 (Jvm.Cond.code (⟨"com/example/muster/muster/core/SeededRandom", "<init>", "(J)V"⟩ : MethodName) prog_34_method_1_code 3 none :: ws) ({ frames := 1, cells := 0, slots := 0, locals := 12 } : Room)) (fun a U => a = #[(.ref o0), (.long q1)] ∧ Z.Warmed39 U.vm ∧ U.heap = h0) (fun _ _ _ _ _ => True) (fun _ U o U' => ∃ v L, o = .returned v ∧ Q1 Z o0 q1 u h0 n0 v U'.heap L ∧ FrameEnd U o U' L ({ frames := 1, cells := 0, slots := 0, locals := 12 } : Room).cells ({ frames := 1, cells := 0, slots := 0, locals := 12 } : Room).slots) := by
  refine MetFree.of_bodySF (plainFor_of_name pn_0) hisR ?_
  intro p e s m args below meth c s₁ Bd hml0 hP hK
  obtain ⟨rfl, hZ, hh⟩ := hP
  have hx := Bd.exec
  have hby := Bd.bytes
  have hml : c.maxLocals = 3 := hml0
  have hown : s.vm.findClass "com/example/muster/muster/core/SeededRandom" = some m.cls := findClass_of_methodNamed Bd.named
  have hnm := (name_of_methodNamed Bd.named Bd.method).1
  have X0 : Stand p l e ({ frames := 1, cells := 0, slots := 0, locals := 12 } : Room) s m #[(.ref o0), (.long q1)] below meth c s₁ [] 0 0 := Stand.of_body Bd
  have e0 : s₁.heap = h0 := by rw [← hh, Bd.state]; rfl
  have N0 := Fr.nil n0
  refine Go.into (P := fun oo uu => ∃ v L, oo = .returned v ∧ Q1 Z o0 q1 u h0 n0 v uu.heap L ∧ FrameEnd s oo uu L ({ frames := 1, cells := 0, slots := 0, locals := 12 } : Room).cells ({ frames := 1, cells := 0, slots := 0, locals := 12 } : Room).slots) (ef_1_aa m o0 q1) ?_
  show Go p e below _ (s₁.setTop (mkF m 0 #[.val (.ref o0), .val (.long q1), .second] []))
  refine Go.via (T' := s₁.setTop (mkF m 1 #[.val (.ref o0), .val (.long q1), .second] [(.ref o0)])) (fun tZ kZ => ?_) ?_
  · show Steps p.tables e below (s₁.setTop (mkF m 0 #[.val (.ref o0), .val (.long q1), .second] [])) _
    refine XS.aloadN X0.here hx rfl (hb hby d1_0) rfl rfl ?_
    show Steps p.tables e below (s₁.setTop (mkF m 1 #[.val (.ref o0), .val (.long q1), .second] [(.ref o0)])) _
    exact kZ
  obtain ⟨T1, X1, e1, st1⟩ := initO X0 hx hZ hown (hw _ (List.mem_of_getElem? (i := 7) rfl)) (hw _ (List.mem_of_getElem? (i := 8) rfl)) (hw _ (List.mem_of_getElem? (i := 9) rfl)) e0 (g := (mkF m 1 #[.val (.ref o0), .val (.long q1), .second] [(.ref o0)])) rfl (by rw [hml]; rfl) rfl (hb hby d1_1) (by decide) (W := 0) (by show 2 * 0 + _ ≤ _; exact Nat.le_of_eq rfl) (by decide)
  refine Go.via st1 ?_
  show Go p e below _ (T1.setTop (mkF m 4 #[.val (.ref o0), .val (.long q1), .second] []))
  refine Go.via (T' := T1.setTop (mkF m 6 #[.val (.ref o0), .val (.long q1), .second] [(.long q1), (.ref o0)])) (fun tZ kZ => ?_) ?_
  · show Steps p.tables e below (T1.setTop (mkF m 4 #[.val (.ref o0), .val (.long q1), .second] [])) _
    refine XS.aloadN X1.here hx rfl (hb hby d1_4) rfl rfl ?_
    show Steps p.tables e below (T1.setTop (mkF m 5 #[.val (.ref o0), .val (.long q1), .second] [(.ref o0)])) _
    refine XS.lloadN X1.here hx rfl (hb hby d1_5) rfl ?_
    show Steps p.tables e below (T1.setTop (mkF m 6 #[.val (.ref o0), .val (.long q1), .second] [(.long q1), (.ref o0)])) _
    exact kZ
  obtain ⟨T2, h2, X2, e2, W2, st2⟩ := putF X1 hx hZ hown (host := "") (Or.inl (hw _ (List.mem_of_getElem? (i := 10) rfl))) Via.refl e1 ha1 ha0 (Or.inl (hw _ (List.mem_of_getElem? (i := 11) rfl))) (hw _ (List.mem_of_getElem? (i := 2) rfl)) (ty := .long) (by decide) rfl rfl (g := (mkF m 6 #[.val (.ref o0), .val (.long q1), .second] [(.long q1), (.ref o0)])) rfl rfl (hb hby d1_6)
  have N2 := Fr.snoc X2 N0 ha2
  have c3_0 := ha0.wr W2
  have K2 : Keep h0 h2 [o0] := (Keep.refl h0 [o0]).wr W2 (Or.inl (by simp))
  have Z2 : n0 ≤ h2.size := Nat.le_trans Z0 (Keep.of_wr W2).1
  have Fw2 := ha1.same W2
  refine Go.via st2 ?_
  show Go p e below _ (T2.setTop (mkF m 9 #[.val (.ref o0), .val (.long q1), .second] []))
  refine Go.retV X2 hx Bd.notSynchronized Bd.returns (hb hby d1_9) (by decide) (by decide) ?_
  rw [e2]
  exact ⟨rfl, N2, K2, c3_0, Fw2⟩
theorem d3_0 : decode prog_34_method_2_code 0 = .ok (.aload_n 0, 1) := by decide +kernel
theorem d3_1 : decode prog_34_method_2_code 1 = .ok (.dup, 1) := by decide +kernel
theorem d3_2 : decode prog_34_method_2_code 2 = .ok (.getfield 7, 3) := by decide +kernel
theorem d3_5 : decode prog_34_method_2_code 5 = .ok (.ldc2_w 13, 3) := by decide +kernel
theorem d3_8 : decode prog_34_method_2_code 8 = .ok (.ladd, 1) := by decide +kernel
theorem d3_9 : decode prog_34_method_2_code 9 = .ok (.putfield 7, 3) := by decide +kernel
theorem d3_12 : decode prog_34_method_2_code 12 = .ok (.aload_n 0, 1) := by decide +kernel
theorem d3_13 : decode prog_34_method_2_code 13 = .ok (.getfield 7, 3) := by decide +kernel
theorem d3_16 : decode prog_34_method_2_code 16 = .ok (.lstore_n 1, 1) := by decide +kernel
theorem d3_17 : decode prog_34_method_2_code 17 = .ok (.lload_n 1, 1) := by decide +kernel
theorem d3_18 : decode prog_34_method_2_code 18 = .ok (.lload_n 1, 1) := by decide +kernel
theorem d3_19 : decode prog_34_method_2_code 19 = .ok (.bipush 30, 2) := by decide +kernel
theorem d3_21 : decode prog_34_method_2_code 21 = .ok (.lushr, 1) := by decide +kernel
theorem d3_22 : decode prog_34_method_2_code 22 = .ok (.lxor, 1) := by decide +kernel
theorem d3_23 : decode prog_34_method_2_code 23 = .ok (.ldc2_w 15, 3) := by decide +kernel
theorem d3_26 : decode prog_34_method_2_code 26 = .ok (.lmul, 1) := by decide +kernel
def w3_0 (u : Int64) : Int64 := (((u + (-7046029254386353131 : Int64)) ^^^ (((u + (-7046029254386353131 : Int64)).toUInt64 >>> ((30 : Int32) &&& 0x3f).toInt64.toUInt64).toInt64)) * (-4658895280553007687 : Int64))
theorem d3_27 : decode prog_34_method_2_code 27 = .ok (.lstore_n 1, 1) := by decide +kernel
theorem d3_28 : decode prog_34_method_2_code 28 = .ok (.lload_n 1, 1) := by decide +kernel
theorem d3_29 : decode prog_34_method_2_code 29 = .ok (.lload_n 1, 1) := by decide +kernel
theorem d3_30 : decode prog_34_method_2_code 30 = .ok (.bipush 27, 2) := by decide +kernel
theorem d3_32 : decode prog_34_method_2_code 32 = .ok (.lushr, 1) := by decide +kernel
theorem d3_33 : decode prog_34_method_2_code 33 = .ok (.lxor, 1) := by decide +kernel
theorem d3_34 : decode prog_34_method_2_code 34 = .ok (.ldc2_w 17, 3) := by decide +kernel
theorem d3_37 : decode prog_34_method_2_code 37 = .ok (.lmul, 1) := by decide +kernel
def w3_1 (u : Int64) : Int64 := (((w3_0 u) ^^^ (((w3_0 u).toUInt64 >>> ((27 : Int32) &&& 0x3f).toInt64.toUInt64).toInt64)) * (-7723592293110705685 : Int64))
theorem d3_38 : decode prog_34_method_2_code 38 = .ok (.lstore_n 1, 1) := by decide +kernel
theorem d3_39 : decode prog_34_method_2_code 39 = .ok (.lload_n 1, 1) := by decide +kernel
theorem d3_40 : decode prog_34_method_2_code 40 = .ok (.lload_n 1, 1) := by decide +kernel
theorem d3_41 : decode prog_34_method_2_code 41 = .ok (.bipush 31, 2) := by decide +kernel
theorem d3_43 : decode prog_34_method_2_code 43 = .ok (.lushr, 1) := by decide +kernel
theorem d3_44 : decode prog_34_method_2_code 44 = .ok (.lxor, 1) := by decide +kernel
theorem d3_45 : decode prog_34_method_2_code 45 = .ok (.lreturn, 1) := by decide +kernel
def Q3 (Z : State) (o0 : Addr) (u : Int64) (h0 : Heap) (n0 : Nat) (v : Option Value) (h : Heap) (L : List Loc) : Prop := v = some (.long ((w3_1 u) ^^^ (((w3_1 u).toUInt64 >>> ((31 : Int32) &&& 0x3f).toInt64.toUInt64).toInt64))) ∧ Fr n0 L ∧ Keep h0 h [o0] ∧ Exa Z h o0 "com/example/muster/muster/core/SeededRandom" ∧ Fld Z h o0 "com/example/muster/muster/core/SeededRandom" "state" "J" (.long (u + (-7046029254386353131 : Int64)))
theorem ef_3_a (m : MethodId) (x0 : Addr) : entryFrame m #[(.ref x0)] 3 = mkF m 0 #[.val (.ref x0), .unset, .unset] [] := by first | (simp [entryFrame, mkF, argsToLocals, Value.category]; done) | rfl
set_option maxRecDepth 65536 in
set_option maxHeartbeats 40000000 in
theorem rm3 (l : Launch) (Z : State) (a0 : Array Value) (hw : ∀ d ∈ tables_1, d.before a0 Z = true) (ws : List Jvm.Cond) (o0 : Addr) (u : Int64) (h0 : Heap) (n0 : Nat) (Z0 : n0 ≤ h0.size) (ha0 : Exa Z h0 o0 "com/example/muster/muster/core/SeededRandom") (ha1 : Fld Z h0 o0 "com/example/muster/muster/core/SeededRandom" "state" "J" (.long u)) (ha2 : n0 ≤ o0) :
    MetFree l (⟨"com/example/muster/muster/core/SeededRandom", "nextLong", "()J"⟩ : MethodName) (head1 (Jvm.Cond.code (⟨"com/example/muster/muster/core/SeededRandom", "nextLong", "()J"⟩ : MethodName) prog_34_method_2_code 3 (some .long) :: ws) ({ frames := 0, cells := 0, slots := 0, locals := 0 } : Room)) (fun a U => a = #[(.ref o0)] ∧ Z.Warmed39 U.vm ∧ U.heap = h0) (fun _ _ _ _ _ => True) (fun _ U o U' => ∃ v L, o = .returned v ∧ Q3 Z o0 u h0 n0 v U'.heap L ∧ FrameEnd U o U' L ({ frames := 0, cells := 0, slots := 0, locals := 0 } : Room).cells ({ frames := 0, cells := 0, slots := 0, locals := 0 } : Room).slots) := by
  refine MetFree.of_bodySF (plainFor_of_name pn_0) hisR ?_
  intro p e s m args below meth c s₁ Bd hml0 hP hK
  obtain ⟨rfl, hZ, hh⟩ := hP
  have hx := Bd.exec
  have hby := Bd.bytes
  have hml : c.maxLocals = 3 := hml0
  have hown : s.vm.findClass "com/example/muster/muster/core/SeededRandom" = some m.cls := findClass_of_methodNamed Bd.named
  have hnm := (name_of_methodNamed Bd.named Bd.method).1
  have X0 : Stand p l e ({ frames := 0, cells := 0, slots := 0, locals := 0 } : Room) s m #[(.ref o0)] below meth c s₁ [] 0 0 := Stand.of_body Bd
  have e0 : s₁.heap = h0 := by rw [← hh, Bd.state]; rfl
  have N0 := Fr.nil n0
  refine Go.into (P := fun oo uu => ∃ v L, oo = .returned v ∧ Q3 Z o0 u h0 n0 v uu.heap L ∧ FrameEnd s oo uu L ({ frames := 0, cells := 0, slots := 0, locals := 0 } : Room).cells ({ frames := 0, cells := 0, slots := 0, locals := 0 } : Room).slots) (ef_3_a m o0) ?_
  show Go p e below _ (s₁.setTop (mkF m 0 #[.val (.ref o0), .unset, .unset] []))
  refine Go.via (T' := s₁.setTop (mkF m 2 #[.val (.ref o0), .unset, .unset] [(.ref o0), (.ref o0)])) (fun tZ kZ => ?_) ?_
  · show Steps p.tables e below (s₁.setTop (mkF m 0 #[.val (.ref o0), .unset, .unset] [])) _
    refine XS.aloadN X0.here hx rfl (hb hby d3_0) rfl rfl ?_
    show Steps p.tables e below (s₁.setTop (mkF m 1 #[.val (.ref o0), .unset, .unset] [(.ref o0)])) _
    refine XS.dup X0.here hx rfl (hb hby d3_1) rfl rfl ?_
    show Steps p.tables e below (s₁.setTop (mkF m 2 #[.val (.ref o0), .unset, .unset] [(.ref o0), (.ref o0)])) _
    exact kZ
  obtain ⟨T1, X1, e1, st1⟩ := getF X0 hx hZ hown (host := "") (Or.inl (hw _ (List.mem_of_getElem? (i := 10) rfl))) Via.refl e0 ha1 (g := (mkF m 2 #[.val (.ref o0), .unset, .unset] [(.ref o0), (.ref o0)])) rfl rfl (hb hby d3_2)
  refine Go.via st1 ?_
  show Go p e below _ (T1.setTop (mkF m 5 #[.val (.ref o0), .unset, .unset] [(.long u), (.ref o0)]))
  refine Go.via (T' := T1.setTop (mkF m 9 #[.val (.ref o0), .unset, .unset] [(.long (u + (-7046029254386353131 : Int64))), (.ref o0)])) (fun tZ kZ => ?_) ?_
  · show Steps p.tables e below (T1.setTop (mkF m 5 #[.val (.ref o0), .unset, .unset] [(.long u), (.ref o0)])) _
    refine X1.ldc2Long hx hown (mvT hZ (hw _ (List.mem_of_getElem? (i := 17) rfl))) (g := (mkF m 5 #[.val (.ref o0), .unset, .unset] [(.long u), (.ref o0)])) rfl (hb hby d3_5) _ ?_
    show Steps p.tables e below (T1.setTop (mkF m 8 #[.val (.ref o0), .unset, .unset] [(.long (-7046029254386353131 : Int64)), (.long u), (.ref o0)])) _
    refine XS.ladd X1.here hx rfl (hb hby d3_8) rfl ?_
    show Steps p.tables e below (T1.setTop (mkF m 9 #[.val (.ref o0), .unset, .unset] [(.long (u + (-7046029254386353131 : Int64))), (.ref o0)])) _
    exact kZ
  obtain ⟨T2, h2, X2, e2, W2, st2⟩ := putF X1 hx hZ hown (host := "") (Or.inl (hw _ (List.mem_of_getElem? (i := 10) rfl))) Via.refl e1 ha1 ha0 (Or.inl (hw _ (List.mem_of_getElem? (i := 11) rfl))) (hw _ (List.mem_of_getElem? (i := 2) rfl)) (ty := .long) (by decide) rfl rfl (g := (mkF m 9 #[.val (.ref o0), .unset, .unset] [(.long (u + (-7046029254386353131 : Int64))), (.ref o0)])) rfl rfl (hb hby d3_9)
  have N2 := Fr.snoc X2 N0 ha2
  have c3_0 := ha0.wr W2
  have K2 : Keep h0 h2 [o0] := (Keep.refl h0 [o0]).wr W2 (Or.inl (by simp))
  have Z2 : n0 ≤ h2.size := Nat.le_trans Z0 (Keep.of_wr W2).1
  have Fw2 := ha1.same W2
  refine Go.via st2 ?_
  show Go p e below _ (T2.setTop (mkF m 12 #[.val (.ref o0), .unset, .unset] []))
  refine Go.via (T' := T2.setTop (mkF m 13 #[.val (.ref o0), .unset, .unset] [(.ref o0)])) (fun tZ kZ => ?_) ?_
  · show Steps p.tables e below (T2.setTop (mkF m 12 #[.val (.ref o0), .unset, .unset] [])) _
    refine XS.aloadN X2.here hx rfl (hb hby d3_12) rfl rfl ?_
    show Steps p.tables e below (T2.setTop (mkF m 13 #[.val (.ref o0), .unset, .unset] [(.ref o0)])) _
    exact kZ
  obtain ⟨T4, X4, e4, st4⟩ := getF X2 hx hZ hown (host := "") (Or.inl (hw _ (List.mem_of_getElem? (i := 10) rfl))) Via.refl e2 Fw2 (g := (mkF m 13 #[.val (.ref o0), .unset, .unset] [(.ref o0)])) rfl rfl (hb hby d3_13)
  refine Go.via st4 ?_
  show Go p e below _ (T4.setTop (mkF m 16 #[.val (.ref o0), .unset, .unset] [(.long (u + (-7046029254386353131 : Int64)))]))
  refine Go.via (T' := T4.setTop (mkF m 45 #[.val (.ref o0), .val (.long (w3_1 u)), .second] [(.long ((w3_1 u) ^^^ (((w3_1 u).toUInt64 >>> ((31 : Int32) &&& 0x3f).toInt64.toUInt64).toInt64)))])) (fun tZ kZ => ?_) ?_
  · show Steps p.tables e below (T4.setTop (mkF m 16 #[.val (.ref o0), .unset, .unset] [(.long (u + (-7046029254386353131 : Int64)))])) _
    refine XS.lstoreN X4.here hx rfl (hb hby d3_16) rfl (l' := #[.val (.ref o0), .val (.long (u + (-7046029254386353131 : Int64))), .second]) rfl ?_
    show Steps p.tables e below (T4.setTop (mkF m 17 #[.val (.ref o0), .val (.long (u + (-7046029254386353131 : Int64))), .second] [])) _
    refine XS.lloadN X4.here hx rfl (hb hby d3_17) rfl ?_
    show Steps p.tables e below (T4.setTop (mkF m 18 #[.val (.ref o0), .val (.long (u + (-7046029254386353131 : Int64))), .second] [(.long (u + (-7046029254386353131 : Int64)))])) _
    refine XS.lloadN X4.here hx rfl (hb hby d3_18) rfl ?_
    show Steps p.tables e below (T4.setTop (mkF m 19 #[.val (.ref o0), .val (.long (u + (-7046029254386353131 : Int64))), .second] [(.long (u + (-7046029254386353131 : Int64))), (.long (u + (-7046029254386353131 : Int64)))])) _
    refine XS.bipush X4.here hx rfl (hb hby d3_19) ?_
    show Steps p.tables e below (T4.setTop (mkF m 21 #[.val (.ref o0), .val (.long (u + (-7046029254386353131 : Int64))), .second] [(.int (30 : Int32)), (.long (u + (-7046029254386353131 : Int64))), (.long (u + (-7046029254386353131 : Int64)))])) _
    refine XS.lushr X4.here hx rfl (hb hby d3_21) rfl ?_
    show Steps p.tables e below (T4.setTop (mkF m 22 #[.val (.ref o0), .val (.long (u + (-7046029254386353131 : Int64))), .second] [(.long (((u + (-7046029254386353131 : Int64)).toUInt64 >>> ((30 : Int32) &&& 0x3f).toInt64.toUInt64).toInt64)), (.long (u + (-7046029254386353131 : Int64)))])) _
    refine XS.lxor X4.here hx rfl (hb hby d3_22) rfl ?_
    show Steps p.tables e below (T4.setTop (mkF m 23 #[.val (.ref o0), .val (.long (u + (-7046029254386353131 : Int64))), .second] [(.long ((u + (-7046029254386353131 : Int64)) ^^^ (((u + (-7046029254386353131 : Int64)).toUInt64 >>> ((30 : Int32) &&& 0x3f).toInt64.toUInt64).toInt64)))])) _
    refine X4.ldc2Long hx hown (mvT hZ (hw _ (List.mem_of_getElem? (i := 18) rfl))) (g := (mkF m 23 #[.val (.ref o0), .val (.long (u + (-7046029254386353131 : Int64))), .second] [(.long ((u + (-7046029254386353131 : Int64)) ^^^ (((u + (-7046029254386353131 : Int64)).toUInt64 >>> ((30 : Int32) &&& 0x3f).toInt64.toUInt64).toInt64)))])) rfl (hb hby d3_23) _ ?_
    show Steps p.tables e below (T4.setTop (mkF m 26 #[.val (.ref o0), .val (.long (u + (-7046029254386353131 : Int64))), .second] [(.long (-4658895280553007687 : Int64)), (.long ((u + (-7046029254386353131 : Int64)) ^^^ (((u + (-7046029254386353131 : Int64)).toUInt64 >>> ((30 : Int32) &&& 0x3f).toInt64.toUInt64).toInt64)))])) _
    refine XS.lmul X4.here hx rfl (hb hby d3_26) rfl ?_
    show Steps p.tables e below (T4.setTop (mkF m 27 #[.val (.ref o0), .val (.long (u + (-7046029254386353131 : Int64))), .second] [(.long (((u + (-7046029254386353131 : Int64)) ^^^ (((u + (-7046029254386353131 : Int64)).toUInt64 >>> ((30 : Int32) &&& 0x3f).toInt64.toUInt64).toInt64)) * (-4658895280553007687 : Int64)))])) _
    refine XS.lstoreN X4.here hx rfl (hb hby d3_27) rfl (l' := #[.val (.ref o0), .val (.long (w3_0 u)), .second]) rfl ?_
    show Steps p.tables e below (T4.setTop (mkF m 28 #[.val (.ref o0), .val (.long (w3_0 u)), .second] [])) _
    refine XS.lloadN X4.here hx rfl (hb hby d3_28) rfl ?_
    show Steps p.tables e below (T4.setTop (mkF m 29 #[.val (.ref o0), .val (.long (w3_0 u)), .second] [(.long (w3_0 u))])) _
    refine XS.lloadN X4.here hx rfl (hb hby d3_29) rfl ?_
    show Steps p.tables e below (T4.setTop (mkF m 30 #[.val (.ref o0), .val (.long (w3_0 u)), .second] [(.long (w3_0 u)), (.long (w3_0 u))])) _
    refine XS.bipush X4.here hx rfl (hb hby d3_30) ?_
    show Steps p.tables e below (T4.setTop (mkF m 32 #[.val (.ref o0), .val (.long (w3_0 u)), .second] [(.int (27 : Int32)), (.long (w3_0 u)), (.long (w3_0 u))])) _
    refine XS.lushr X4.here hx rfl (hb hby d3_32) rfl ?_
    show Steps p.tables e below (T4.setTop (mkF m 33 #[.val (.ref o0), .val (.long (w3_0 u)), .second] [(.long (((w3_0 u).toUInt64 >>> ((27 : Int32) &&& 0x3f).toInt64.toUInt64).toInt64)), (.long (w3_0 u))])) _
    refine XS.lxor X4.here hx rfl (hb hby d3_33) rfl ?_
    show Steps p.tables e below (T4.setTop (mkF m 34 #[.val (.ref o0), .val (.long (w3_0 u)), .second] [(.long ((w3_0 u) ^^^ (((w3_0 u).toUInt64 >>> ((27 : Int32) &&& 0x3f).toInt64.toUInt64).toInt64)))])) _
    refine X4.ldc2Long hx hown (mvT hZ (hw _ (List.mem_of_getElem? (i := 19) rfl))) (g := (mkF m 34 #[.val (.ref o0), .val (.long (w3_0 u)), .second] [(.long ((w3_0 u) ^^^ (((w3_0 u).toUInt64 >>> ((27 : Int32) &&& 0x3f).toInt64.toUInt64).toInt64)))])) rfl (hb hby d3_34) _ ?_
    show Steps p.tables e below (T4.setTop (mkF m 37 #[.val (.ref o0), .val (.long (w3_0 u)), .second] [(.long (-7723592293110705685 : Int64)), (.long ((w3_0 u) ^^^ (((w3_0 u).toUInt64 >>> ((27 : Int32) &&& 0x3f).toInt64.toUInt64).toInt64)))])) _
    refine XS.lmul X4.here hx rfl (hb hby d3_37) rfl ?_
    show Steps p.tables e below (T4.setTop (mkF m 38 #[.val (.ref o0), .val (.long (w3_0 u)), .second] [(.long (((w3_0 u) ^^^ (((w3_0 u).toUInt64 >>> ((27 : Int32) &&& 0x3f).toInt64.toUInt64).toInt64)) * (-7723592293110705685 : Int64)))])) _
    refine XS.lstoreN X4.here hx rfl (hb hby d3_38) rfl (l' := #[.val (.ref o0), .val (.long (w3_1 u)), .second]) rfl ?_
    show Steps p.tables e below (T4.setTop (mkF m 39 #[.val (.ref o0), .val (.long (w3_1 u)), .second] [])) _
    refine XS.lloadN X4.here hx rfl (hb hby d3_39) rfl ?_
    show Steps p.tables e below (T4.setTop (mkF m 40 #[.val (.ref o0), .val (.long (w3_1 u)), .second] [(.long (w3_1 u))])) _
    refine XS.lloadN X4.here hx rfl (hb hby d3_40) rfl ?_
    show Steps p.tables e below (T4.setTop (mkF m 41 #[.val (.ref o0), .val (.long (w3_1 u)), .second] [(.long (w3_1 u)), (.long (w3_1 u))])) _
    refine XS.bipush X4.here hx rfl (hb hby d3_41) ?_
    show Steps p.tables e below (T4.setTop (mkF m 43 #[.val (.ref o0), .val (.long (w3_1 u)), .second] [(.int (31 : Int32)), (.long (w3_1 u)), (.long (w3_1 u))])) _
    refine XS.lushr X4.here hx rfl (hb hby d3_43) rfl ?_
    show Steps p.tables e below (T4.setTop (mkF m 44 #[.val (.ref o0), .val (.long (w3_1 u)), .second] [(.long (((w3_1 u).toUInt64 >>> ((31 : Int32) &&& 0x3f).toInt64.toUInt64).toInt64)), (.long (w3_1 u))])) _
    refine XS.lxor X4.here hx rfl (hb hby d3_44) rfl ?_
    show Steps p.tables e below (T4.setTop (mkF m 45 #[.val (.ref o0), .val (.long (w3_1 u)), .second] [(.long ((w3_1 u) ^^^ (((w3_1 u).toUInt64 >>> ((31 : Int32) &&& 0x3f).toInt64.toUInt64).toInt64)))])) _
    exact kZ
  refine Go.retJ X4 hx Bd.notSynchronized Bd.returns (hb hby d3_45) (by decide) (by decide) ?_
  rw [e4]
  exact ⟨rfl, N2, K2, c3_0, Fw2⟩
theorem d5_0 : decode method_2_code 0 = .ok (.lload_n 0, 1) := by decide +kernel
theorem d5_1 : decode method_2_code 1 = .ok (.lstore_n 2, 1) := by decide +kernel
theorem d5_2 : decode method_2_code 2 = .ok (.lload_n 2, 1) := by decide +kernel
theorem d5_3 : decode method_2_code 3 = .ok (.ldc2_w 7, 3) := by decide +kernel
theorem d5_6 : decode method_2_code 6 = .ok (.lload_n 0, 1) := by decide +kernel
theorem d5_7 : decode method_2_code 7 = .ok (.lload_n 2, 1) := by decide +kernel
theorem d5_8 : decode method_2_code 8 = .ok (.lmul, 1) := by decide +kernel
theorem d5_9 : decode method_2_code 9 = .ok (.lsub, 1) := by decide +kernel
theorem d5_10 : decode method_2_code 10 = .ok (.lmul, 1) := by decide +kernel
theorem d5_11 : decode method_2_code 11 = .ok (.lstore_n 2, 1) := by decide +kernel
theorem d5_12 : decode method_2_code 12 = .ok (.lload_n 2, 1) := by decide +kernel
theorem d5_13 : decode method_2_code 13 = .ok (.ldc2_w 7, 3) := by decide +kernel
theorem d5_16 : decode method_2_code 16 = .ok (.lload_n 0, 1) := by decide +kernel
theorem d5_17 : decode method_2_code 17 = .ok (.lload_n 2, 1) := by decide +kernel
theorem d5_18 : decode method_2_code 18 = .ok (.lmul, 1) := by decide +kernel
theorem d5_19 : decode method_2_code 19 = .ok (.lsub, 1) := by decide +kernel
theorem d5_20 : decode method_2_code 20 = .ok (.lmul, 1) := by decide +kernel
def w5_0 (q0 : Int64) : Int64 := ((q0 * ((2 : Int64) - (q0 * q0))) * ((2 : Int64) - (q0 * (q0 * ((2 : Int64) - (q0 * q0))))))
theorem d5_21 : decode method_2_code 21 = .ok (.lstore_n 2, 1) := by decide +kernel
theorem d5_22 : decode method_2_code 22 = .ok (.lload_n 2, 1) := by decide +kernel
theorem d5_23 : decode method_2_code 23 = .ok (.ldc2_w 7, 3) := by decide +kernel
theorem d5_26 : decode method_2_code 26 = .ok (.lload_n 0, 1) := by decide +kernel
theorem d5_27 : decode method_2_code 27 = .ok (.lload_n 2, 1) := by decide +kernel
theorem d5_28 : decode method_2_code 28 = .ok (.lmul, 1) := by decide +kernel
theorem d5_29 : decode method_2_code 29 = .ok (.lsub, 1) := by decide +kernel
theorem d5_30 : decode method_2_code 30 = .ok (.lmul, 1) := by decide +kernel
theorem d5_31 : decode method_2_code 31 = .ok (.lstore_n 2, 1) := by decide +kernel
theorem d5_32 : decode method_2_code 32 = .ok (.lload_n 2, 1) := by decide +kernel
theorem d5_33 : decode method_2_code 33 = .ok (.ldc2_w 7, 3) := by decide +kernel
theorem d5_36 : decode method_2_code 36 = .ok (.lload_n 0, 1) := by decide +kernel
theorem d5_37 : decode method_2_code 37 = .ok (.lload_n 2, 1) := by decide +kernel
theorem d5_38 : decode method_2_code 38 = .ok (.lmul, 1) := by decide +kernel
theorem d5_39 : decode method_2_code 39 = .ok (.lsub, 1) := by decide +kernel
theorem d5_40 : decode method_2_code 40 = .ok (.lmul, 1) := by decide +kernel
def w5_1 (q0 : Int64) : Int64 := (((w5_0 q0) * ((2 : Int64) - (q0 * (w5_0 q0)))) * ((2 : Int64) - (q0 * ((w5_0 q0) * ((2 : Int64) - (q0 * (w5_0 q0)))))))
theorem d5_41 : decode method_2_code 41 = .ok (.lstore_n 2, 1) := by decide +kernel
theorem d5_42 : decode method_2_code 42 = .ok (.lload_n 2, 1) := by decide +kernel
theorem d5_43 : decode method_2_code 43 = .ok (.ldc2_w 7, 3) := by decide +kernel
theorem d5_46 : decode method_2_code 46 = .ok (.lload_n 0, 1) := by decide +kernel
theorem d5_47 : decode method_2_code 47 = .ok (.lload_n 2, 1) := by decide +kernel
theorem d5_48 : decode method_2_code 48 = .ok (.lmul, 1) := by decide +kernel
theorem d5_49 : decode method_2_code 49 = .ok (.lsub, 1) := by decide +kernel
theorem d5_50 : decode method_2_code 50 = .ok (.lmul, 1) := by decide +kernel
theorem d5_51 : decode method_2_code 51 = .ok (.lstore_n 2, 1) := by decide +kernel
theorem d5_52 : decode method_2_code 52 = .ok (.lload_n 2, 1) := by decide +kernel
theorem d5_53 : decode method_2_code 53 = .ok (.lreturn, 1) := by decide +kernel
def f5 (q0 : Int64) : Int64 := ((w5_1 q0) * ((2 : Int64) - (q0 * (w5_1 q0))))
def Q5 (q0 : Int64) (h0 : Heap) (n0 : Nat) (v : Option Value) (h : Heap) (L : List Loc) : Prop := v = some (.long (f5 q0)) ∧ Fr n0 L ∧ h = h0
theorem pn_1 : plainName "com/example/muster/muster/core/SeededRandomNextLongPinLaw" = true := by first | (simp [plainName, overriddenIn]; done) | decide +kernel
theorem ef_5_a (m : MethodId) (x0 : Int64) : entryFrame m #[(.long x0)] 4 = mkF m 0 #[.val (.long x0), .second, .unset, .unset] [] := by first | (simp [entryFrame, mkF, argsToLocals, Value.category]; done) | rfl
set_option maxRecDepth 65536 in
set_option maxHeartbeats 40000000 in
theorem rm5 (l : Launch) (Z : State) (a0 : Array Value) (hw : ∀ d ∈ tables_1, d.before a0 Z = true) (ws : List Jvm.Cond) (q0 : Int64) (h0 : Heap) (n0 : Nat) (Z0 : n0 ≤ h0.size) :
    MetFree l (⟨"com/example/muster/muster/core/SeededRandomNextLongPinLaw", "inverseOdd", "(J)J"⟩ : MethodName) (head1 (Jvm.Cond.code (⟨"com/example/muster/muster/core/SeededRandomNextLongPinLaw", "inverseOdd", "(J)J"⟩ : MethodName) method_2_code 4 (some .long) :: ws) ({ frames := 0, cells := 0, slots := 0, locals := 0 } : Room)) (fun a U => a = #[(.long q0)] ∧ Z.Warmed39 U.vm ∧ U.heap = h0) (fun _ _ _ _ _ => True) (fun _ U o U' => ∃ v L, o = .returned v ∧ Q5 q0 h0 n0 v U'.heap L ∧ FrameEnd U o U' L ({ frames := 0, cells := 0, slots := 0, locals := 0 } : Room).cells ({ frames := 0, cells := 0, slots := 0, locals := 0 } : Room).slots) := by
  refine MetFree.of_bodySF (plainFor_of_name pn_1) hisR ?_
  intro p e s m args below meth c s₁ Bd hml0 hP hK
  obtain ⟨rfl, hZ, hh⟩ := hP
  have hx := Bd.exec
  have hby := Bd.bytes
  have hml : c.maxLocals = 4 := hml0
  have hown : s.vm.findClass "com/example/muster/muster/core/SeededRandomNextLongPinLaw" = some m.cls := findClass_of_methodNamed Bd.named
  have hnm := (name_of_methodNamed Bd.named Bd.method).1
  have X0 : Stand p l e ({ frames := 0, cells := 0, slots := 0, locals := 0 } : Room) s m #[(.long q0)] below meth c s₁ [] 0 0 := Stand.of_body Bd
  have e0 : s₁.heap = h0 := by rw [← hh, Bd.state]; rfl
  have N0 := Fr.nil n0
  refine Go.into (P := fun oo uu => ∃ v L, oo = .returned v ∧ Q5 q0 h0 n0 v uu.heap L ∧ FrameEnd s oo uu L ({ frames := 0, cells := 0, slots := 0, locals := 0 } : Room).cells ({ frames := 0, cells := 0, slots := 0, locals := 0 } : Room).slots) (ef_5_a m q0) ?_
  show Go p e below _ (s₁.setTop (mkF m 0 #[.val (.long q0), .second, .unset, .unset] []))
  refine Go.via (T' := s₁.setTop (mkF m 53 #[.val (.long q0), .second, .val (.long ((w5_1 q0) * ((2 : Int64) - (q0 * (w5_1 q0))))), .second] [(.long ((w5_1 q0) * ((2 : Int64) - (q0 * (w5_1 q0)))))])) (fun tZ kZ => ?_) ?_
  · show Steps p.tables e below (s₁.setTop (mkF m 0 #[.val (.long q0), .second, .unset, .unset] [])) _
    refine XS.lloadN X0.here hx rfl (hb hby d5_0) rfl ?_
    show Steps p.tables e below (s₁.setTop (mkF m 1 #[.val (.long q0), .second, .unset, .unset] [(.long q0)])) _
    refine XS.lstoreN X0.here hx rfl (hb hby d5_1) rfl (l' := #[.val (.long q0), .second, .val (.long q0), .second]) rfl ?_
    show Steps p.tables e below (s₁.setTop (mkF m 2 #[.val (.long q0), .second, .val (.long q0), .second] [])) _
    refine XS.lloadN X0.here hx rfl (hb hby d5_2) rfl ?_
    show Steps p.tables e below (s₁.setTop (mkF m 3 #[.val (.long q0), .second, .val (.long q0), .second] [(.long q0)])) _
    refine X0.ldc2Long hx hown (mvT hZ (hw _ (List.mem_of_getElem? (i := 28) rfl))) (g := (mkF m 3 #[.val (.long q0), .second, .val (.long q0), .second] [(.long q0)])) rfl (hb hby d5_3) _ ?_
    show Steps p.tables e below (s₁.setTop (mkF m 6 #[.val (.long q0), .second, .val (.long q0), .second] [(.long (2 : Int64)), (.long q0)])) _
    refine XS.lloadN X0.here hx rfl (hb hby d5_6) rfl ?_
    show Steps p.tables e below (s₁.setTop (mkF m 7 #[.val (.long q0), .second, .val (.long q0), .second] [(.long q0), (.long (2 : Int64)), (.long q0)])) _
    refine XS.lloadN X0.here hx rfl (hb hby d5_7) rfl ?_
    show Steps p.tables e below (s₁.setTop (mkF m 8 #[.val (.long q0), .second, .val (.long q0), .second] [(.long q0), (.long q0), (.long (2 : Int64)), (.long q0)])) _
    refine XS.lmul X0.here hx rfl (hb hby d5_8) rfl ?_
    show Steps p.tables e below (s₁.setTop (mkF m 9 #[.val (.long q0), .second, .val (.long q0), .second] [(.long (q0 * q0)), (.long (2 : Int64)), (.long q0)])) _
    refine XS.lsub X0.here hx rfl (hb hby d5_9) rfl ?_
    show Steps p.tables e below (s₁.setTop (mkF m 10 #[.val (.long q0), .second, .val (.long q0), .second] [(.long ((2 : Int64) - (q0 * q0))), (.long q0)])) _
    refine XS.lmul X0.here hx rfl (hb hby d5_10) rfl ?_
    show Steps p.tables e below (s₁.setTop (mkF m 11 #[.val (.long q0), .second, .val (.long q0), .second] [(.long (q0 * ((2 : Int64) - (q0 * q0))))])) _
    refine XS.lstoreN X0.here hx rfl (hb hby d5_11) rfl (l' := #[.val (.long q0), .second, .val (.long (q0 * ((2 : Int64) - (q0 * q0)))), .second]) rfl ?_
    show Steps p.tables e below (s₁.setTop (mkF m 12 #[.val (.long q0), .second, .val (.long (q0 * ((2 : Int64) - (q0 * q0)))), .second] [])) _
    refine XS.lloadN X0.here hx rfl (hb hby d5_12) rfl ?_
    show Steps p.tables e below (s₁.setTop (mkF m 13 #[.val (.long q0), .second, .val (.long (q0 * ((2 : Int64) - (q0 * q0)))), .second] [(.long (q0 * ((2 : Int64) - (q0 * q0))))])) _
    refine X0.ldc2Long hx hown (mvT hZ (hw _ (List.mem_of_getElem? (i := 28) rfl))) (g := (mkF m 13 #[.val (.long q0), .second, .val (.long (q0 * ((2 : Int64) - (q0 * q0)))), .second] [(.long (q0 * ((2 : Int64) - (q0 * q0))))])) rfl (hb hby d5_13) _ ?_
    show Steps p.tables e below (s₁.setTop (mkF m 16 #[.val (.long q0), .second, .val (.long (q0 * ((2 : Int64) - (q0 * q0)))), .second] [(.long (2 : Int64)), (.long (q0 * ((2 : Int64) - (q0 * q0))))])) _
    refine XS.lloadN X0.here hx rfl (hb hby d5_16) rfl ?_
    show Steps p.tables e below (s₁.setTop (mkF m 17 #[.val (.long q0), .second, .val (.long (q0 * ((2 : Int64) - (q0 * q0)))), .second] [(.long q0), (.long (2 : Int64)), (.long (q0 * ((2 : Int64) - (q0 * q0))))])) _
    refine XS.lloadN X0.here hx rfl (hb hby d5_17) rfl ?_
    show Steps p.tables e below (s₁.setTop (mkF m 18 #[.val (.long q0), .second, .val (.long (q0 * ((2 : Int64) - (q0 * q0)))), .second] [(.long (q0 * ((2 : Int64) - (q0 * q0)))), (.long q0), (.long (2 : Int64)), (.long (q0 * ((2 : Int64) - (q0 * q0))))])) _
    refine XS.lmul X0.here hx rfl (hb hby d5_18) rfl ?_
    show Steps p.tables e below (s₁.setTop (mkF m 19 #[.val (.long q0), .second, .val (.long (q0 * ((2 : Int64) - (q0 * q0)))), .second] [(.long (q0 * (q0 * ((2 : Int64) - (q0 * q0))))), (.long (2 : Int64)), (.long (q0 * ((2 : Int64) - (q0 * q0))))])) _
    refine XS.lsub X0.here hx rfl (hb hby d5_19) rfl ?_
    show Steps p.tables e below (s₁.setTop (mkF m 20 #[.val (.long q0), .second, .val (.long (q0 * ((2 : Int64) - (q0 * q0)))), .second] [(.long ((2 : Int64) - (q0 * (q0 * ((2 : Int64) - (q0 * q0)))))), (.long (q0 * ((2 : Int64) - (q0 * q0))))])) _
    refine XS.lmul X0.here hx rfl (hb hby d5_20) rfl ?_
    show Steps p.tables e below (s₁.setTop (mkF m 21 #[.val (.long q0), .second, .val (.long (q0 * ((2 : Int64) - (q0 * q0)))), .second] [(.long ((q0 * ((2 : Int64) - (q0 * q0))) * ((2 : Int64) - (q0 * (q0 * ((2 : Int64) - (q0 * q0)))))))])) _
    refine XS.lstoreN X0.here hx rfl (hb hby d5_21) rfl (l' := #[.val (.long q0), .second, .val (.long (w5_0 q0)), .second]) rfl ?_
    show Steps p.tables e below (s₁.setTop (mkF m 22 #[.val (.long q0), .second, .val (.long (w5_0 q0)), .second] [])) _
    refine XS.lloadN X0.here hx rfl (hb hby d5_22) rfl ?_
    show Steps p.tables e below (s₁.setTop (mkF m 23 #[.val (.long q0), .second, .val (.long (w5_0 q0)), .second] [(.long (w5_0 q0))])) _
    refine X0.ldc2Long hx hown (mvT hZ (hw _ (List.mem_of_getElem? (i := 28) rfl))) (g := (mkF m 23 #[.val (.long q0), .second, .val (.long (w5_0 q0)), .second] [(.long (w5_0 q0))])) rfl (hb hby d5_23) _ ?_
    show Steps p.tables e below (s₁.setTop (mkF m 26 #[.val (.long q0), .second, .val (.long (w5_0 q0)), .second] [(.long (2 : Int64)), (.long (w5_0 q0))])) _
    refine XS.lloadN X0.here hx rfl (hb hby d5_26) rfl ?_
    show Steps p.tables e below (s₁.setTop (mkF m 27 #[.val (.long q0), .second, .val (.long (w5_0 q0)), .second] [(.long q0), (.long (2 : Int64)), (.long (w5_0 q0))])) _
    refine XS.lloadN X0.here hx rfl (hb hby d5_27) rfl ?_
    show Steps p.tables e below (s₁.setTop (mkF m 28 #[.val (.long q0), .second, .val (.long (w5_0 q0)), .second] [(.long (w5_0 q0)), (.long q0), (.long (2 : Int64)), (.long (w5_0 q0))])) _
    refine XS.lmul X0.here hx rfl (hb hby d5_28) rfl ?_
    show Steps p.tables e below (s₁.setTop (mkF m 29 #[.val (.long q0), .second, .val (.long (w5_0 q0)), .second] [(.long (q0 * (w5_0 q0))), (.long (2 : Int64)), (.long (w5_0 q0))])) _
    refine XS.lsub X0.here hx rfl (hb hby d5_29) rfl ?_
    show Steps p.tables e below (s₁.setTop (mkF m 30 #[.val (.long q0), .second, .val (.long (w5_0 q0)), .second] [(.long ((2 : Int64) - (q0 * (w5_0 q0)))), (.long (w5_0 q0))])) _
    refine XS.lmul X0.here hx rfl (hb hby d5_30) rfl ?_
    show Steps p.tables e below (s₁.setTop (mkF m 31 #[.val (.long q0), .second, .val (.long (w5_0 q0)), .second] [(.long ((w5_0 q0) * ((2 : Int64) - (q0 * (w5_0 q0)))))])) _
    refine XS.lstoreN X0.here hx rfl (hb hby d5_31) rfl (l' := #[.val (.long q0), .second, .val (.long ((w5_0 q0) * ((2 : Int64) - (q0 * (w5_0 q0))))), .second]) rfl ?_
    show Steps p.tables e below (s₁.setTop (mkF m 32 #[.val (.long q0), .second, .val (.long ((w5_0 q0) * ((2 : Int64) - (q0 * (w5_0 q0))))), .second] [])) _
    refine XS.lloadN X0.here hx rfl (hb hby d5_32) rfl ?_
    show Steps p.tables e below (s₁.setTop (mkF m 33 #[.val (.long q0), .second, .val (.long ((w5_0 q0) * ((2 : Int64) - (q0 * (w5_0 q0))))), .second] [(.long ((w5_0 q0) * ((2 : Int64) - (q0 * (w5_0 q0)))))])) _
    refine X0.ldc2Long hx hown (mvT hZ (hw _ (List.mem_of_getElem? (i := 28) rfl))) (g := (mkF m 33 #[.val (.long q0), .second, .val (.long ((w5_0 q0) * ((2 : Int64) - (q0 * (w5_0 q0))))), .second] [(.long ((w5_0 q0) * ((2 : Int64) - (q0 * (w5_0 q0)))))])) rfl (hb hby d5_33) _ ?_
    show Steps p.tables e below (s₁.setTop (mkF m 36 #[.val (.long q0), .second, .val (.long ((w5_0 q0) * ((2 : Int64) - (q0 * (w5_0 q0))))), .second] [(.long (2 : Int64)), (.long ((w5_0 q0) * ((2 : Int64) - (q0 * (w5_0 q0)))))])) _
    refine XS.lloadN X0.here hx rfl (hb hby d5_36) rfl ?_
    show Steps p.tables e below (s₁.setTop (mkF m 37 #[.val (.long q0), .second, .val (.long ((w5_0 q0) * ((2 : Int64) - (q0 * (w5_0 q0))))), .second] [(.long q0), (.long (2 : Int64)), (.long ((w5_0 q0) * ((2 : Int64) - (q0 * (w5_0 q0)))))])) _
    refine XS.lloadN X0.here hx rfl (hb hby d5_37) rfl ?_
    show Steps p.tables e below (s₁.setTop (mkF m 38 #[.val (.long q0), .second, .val (.long ((w5_0 q0) * ((2 : Int64) - (q0 * (w5_0 q0))))), .second] [(.long ((w5_0 q0) * ((2 : Int64) - (q0 * (w5_0 q0))))), (.long q0), (.long (2 : Int64)), (.long ((w5_0 q0) * ((2 : Int64) - (q0 * (w5_0 q0)))))])) _
    refine XS.lmul X0.here hx rfl (hb hby d5_38) rfl ?_
    show Steps p.tables e below (s₁.setTop (mkF m 39 #[.val (.long q0), .second, .val (.long ((w5_0 q0) * ((2 : Int64) - (q0 * (w5_0 q0))))), .second] [(.long (q0 * ((w5_0 q0) * ((2 : Int64) - (q0 * (w5_0 q0)))))), (.long (2 : Int64)), (.long ((w5_0 q0) * ((2 : Int64) - (q0 * (w5_0 q0)))))])) _
    refine XS.lsub X0.here hx rfl (hb hby d5_39) rfl ?_
    show Steps p.tables e below (s₁.setTop (mkF m 40 #[.val (.long q0), .second, .val (.long ((w5_0 q0) * ((2 : Int64) - (q0 * (w5_0 q0))))), .second] [(.long ((2 : Int64) - (q0 * ((w5_0 q0) * ((2 : Int64) - (q0 * (w5_0 q0))))))), (.long ((w5_0 q0) * ((2 : Int64) - (q0 * (w5_0 q0)))))])) _
    refine XS.lmul X0.here hx rfl (hb hby d5_40) rfl ?_
    show Steps p.tables e below (s₁.setTop (mkF m 41 #[.val (.long q0), .second, .val (.long ((w5_0 q0) * ((2 : Int64) - (q0 * (w5_0 q0))))), .second] [(.long (((w5_0 q0) * ((2 : Int64) - (q0 * (w5_0 q0)))) * ((2 : Int64) - (q0 * ((w5_0 q0) * ((2 : Int64) - (q0 * (w5_0 q0))))))))])) _
    refine XS.lstoreN X0.here hx rfl (hb hby d5_41) rfl (l' := #[.val (.long q0), .second, .val (.long (w5_1 q0)), .second]) rfl ?_
    show Steps p.tables e below (s₁.setTop (mkF m 42 #[.val (.long q0), .second, .val (.long (w5_1 q0)), .second] [])) _
    refine XS.lloadN X0.here hx rfl (hb hby d5_42) rfl ?_
    show Steps p.tables e below (s₁.setTop (mkF m 43 #[.val (.long q0), .second, .val (.long (w5_1 q0)), .second] [(.long (w5_1 q0))])) _
    refine X0.ldc2Long hx hown (mvT hZ (hw _ (List.mem_of_getElem? (i := 28) rfl))) (g := (mkF m 43 #[.val (.long q0), .second, .val (.long (w5_1 q0)), .second] [(.long (w5_1 q0))])) rfl (hb hby d5_43) _ ?_
    show Steps p.tables e below (s₁.setTop (mkF m 46 #[.val (.long q0), .second, .val (.long (w5_1 q0)), .second] [(.long (2 : Int64)), (.long (w5_1 q0))])) _
    refine XS.lloadN X0.here hx rfl (hb hby d5_46) rfl ?_
    show Steps p.tables e below (s₁.setTop (mkF m 47 #[.val (.long q0), .second, .val (.long (w5_1 q0)), .second] [(.long q0), (.long (2 : Int64)), (.long (w5_1 q0))])) _
    refine XS.lloadN X0.here hx rfl (hb hby d5_47) rfl ?_
    show Steps p.tables e below (s₁.setTop (mkF m 48 #[.val (.long q0), .second, .val (.long (w5_1 q0)), .second] [(.long (w5_1 q0)), (.long q0), (.long (2 : Int64)), (.long (w5_1 q0))])) _
    refine XS.lmul X0.here hx rfl (hb hby d5_48) rfl ?_
    show Steps p.tables e below (s₁.setTop (mkF m 49 #[.val (.long q0), .second, .val (.long (w5_1 q0)), .second] [(.long (q0 * (w5_1 q0))), (.long (2 : Int64)), (.long (w5_1 q0))])) _
    refine XS.lsub X0.here hx rfl (hb hby d5_49) rfl ?_
    show Steps p.tables e below (s₁.setTop (mkF m 50 #[.val (.long q0), .second, .val (.long (w5_1 q0)), .second] [(.long ((2 : Int64) - (q0 * (w5_1 q0)))), (.long (w5_1 q0))])) _
    refine XS.lmul X0.here hx rfl (hb hby d5_50) rfl ?_
    show Steps p.tables e below (s₁.setTop (mkF m 51 #[.val (.long q0), .second, .val (.long (w5_1 q0)), .second] [(.long ((w5_1 q0) * ((2 : Int64) - (q0 * (w5_1 q0)))))])) _
    refine XS.lstoreN X0.here hx rfl (hb hby d5_51) rfl (l' := #[.val (.long q0), .second, .val (.long ((w5_1 q0) * ((2 : Int64) - (q0 * (w5_1 q0))))), .second]) rfl ?_
    show Steps p.tables e below (s₁.setTop (mkF m 52 #[.val (.long q0), .second, .val (.long ((w5_1 q0) * ((2 : Int64) - (q0 * (w5_1 q0))))), .second] [])) _
    refine XS.lloadN X0.here hx rfl (hb hby d5_52) rfl ?_
    show Steps p.tables e below (s₁.setTop (mkF m 53 #[.val (.long q0), .second, .val (.long ((w5_1 q0) * ((2 : Int64) - (q0 * (w5_1 q0))))), .second] [(.long ((w5_1 q0) * ((2 : Int64) - (q0 * (w5_1 q0)))))])) _
    exact kZ
  refine Go.retJ X0 hx Bd.notSynchronized Bd.returns (hb hby d5_53) (by decide) (by decide) ?_
  refine ⟨?_, N0, e0⟩
  show some ((.long ((w5_1 q0) * ((2 : Int64) - (q0 * (w5_1 q0))))) : Value) = some (.long (f5 q0))
  rfl
theorem d4_0 : decode method_3_code 0 = .ok (.lload_n 0, 1) := by decide +kernel
theorem d4_1 : decode method_3_code 1 = .ok (.lload_n 0, 1) := by decide +kernel
theorem d4_2 : decode method_3_code 2 = .ok (.bipush 31, 2) := by decide +kernel
theorem d4_4 : decode method_3_code 4 = .ok (.lushr, 1) := by decide +kernel
theorem d4_5 : decode method_3_code 5 = .ok (.lxor, 1) := by decide +kernel
theorem d4_6 : decode method_3_code 6 = .ok (.lload_n 0, 1) := by decide +kernel
theorem d4_7 : decode method_3_code 7 = .ok (.bipush 62, 2) := by decide +kernel
theorem d4_9 : decode method_3_code 9 = .ok (.lushr, 1) := by decide +kernel
theorem d4_10 : decode method_3_code 10 = .ok (.lxor, 1) := by decide +kernel
def w4_0 (q0 : Int64) : Int64 := ((q0 ^^^ ((q0.toUInt64 >>> ((31 : Int32) &&& 0x3f).toInt64.toUInt64).toInt64)) ^^^ ((q0.toUInt64 >>> ((62 : Int32) &&& 0x3f).toInt64.toUInt64).toInt64))
theorem d4_11 : decode method_3_code 11 = .ok (.lstore_n 2, 1) := by decide +kernel
theorem d4_12 : decode method_3_code 12 = .ok (.lload_n 2, 1) := by decide +kernel
theorem d4_13 : decode method_3_code 13 = .ok (.ldc2_w 9, 3) := by decide +kernel
theorem pd_3 : parseMethodDescriptor "(J)J" = some ⟨[.long], some .long⟩ := by decide +kernel
theorem d4_16 : decode method_3_code 16 = .ok (.invokestatic 11, 3) := by decide +kernel
theorem d4_19 : decode method_3_code 19 = .ok (.lmul, 1) := by decide +kernel
theorem d4_20 : decode method_3_code 20 = .ok (.lstore_n 2, 1) := by decide +kernel
theorem d4_21 : decode method_3_code 21 = .ok (.lload_n 2, 1) := by decide +kernel
theorem d4_22 : decode method_3_code 22 = .ok (.lload_n 2, 1) := by decide +kernel
theorem d4_23 : decode method_3_code 23 = .ok (.bipush 27, 2) := by decide +kernel
theorem d4_25 : decode method_3_code 25 = .ok (.lushr, 1) := by decide +kernel
theorem d4_26 : decode method_3_code 26 = .ok (.lxor, 1) := by decide +kernel
theorem d4_27 : decode method_3_code 27 = .ok (.lload_n 2, 1) := by decide +kernel
theorem d4_28 : decode method_3_code 28 = .ok (.bipush 54, 2) := by decide +kernel
theorem d4_30 : decode method_3_code 30 = .ok (.lushr, 1) := by decide +kernel
theorem d4_31 : decode method_3_code 31 = .ok (.lxor, 1) := by decide +kernel
def w4_1 (q0 : Int64) : Int64 := ((((w4_0 q0) * (f5 (-7723592293110705685 : Int64))) ^^^ ((((w4_0 q0) * (f5 (-7723592293110705685 : Int64))).toUInt64 >>> ((27 : Int32) &&& 0x3f).toInt64.toUInt64).toInt64)) ^^^ ((((w4_0 q0) * (f5 (-7723592293110705685 : Int64))).toUInt64 >>> ((54 : Int32) &&& 0x3f).toInt64.toUInt64).toInt64))
theorem d4_32 : decode method_3_code 32 = .ok (.lstore_n 2, 1) := by decide +kernel
theorem d4_33 : decode method_3_code 33 = .ok (.lload_n 2, 1) := by decide +kernel
theorem d4_34 : decode method_3_code 34 = .ok (.ldc2_w 17, 3) := by decide +kernel
theorem d4_37 : decode method_3_code 37 = .ok (.invokestatic 11, 3) := by decide +kernel
theorem d4_40 : decode method_3_code 40 = .ok (.lmul, 1) := by decide +kernel
theorem d4_41 : decode method_3_code 41 = .ok (.lstore_n 2, 1) := by decide +kernel
theorem d4_42 : decode method_3_code 42 = .ok (.lload_n 2, 1) := by decide +kernel
theorem d4_43 : decode method_3_code 43 = .ok (.lload_n 2, 1) := by decide +kernel
theorem d4_44 : decode method_3_code 44 = .ok (.bipush 30, 2) := by decide +kernel
theorem d4_46 : decode method_3_code 46 = .ok (.lushr, 1) := by decide +kernel
theorem d4_47 : decode method_3_code 47 = .ok (.lxor, 1) := by decide +kernel
theorem d4_48 : decode method_3_code 48 = .ok (.lload_n 2, 1) := by decide +kernel
theorem d4_49 : decode method_3_code 49 = .ok (.bipush 60, 2) := by decide +kernel
theorem d4_51 : decode method_3_code 51 = .ok (.lushr, 1) := by decide +kernel
theorem d4_52 : decode method_3_code 52 = .ok (.lxor, 1) := by decide +kernel
def w4_2 (q0 : Int64) : Int64 := ((((w4_1 q0) * (f5 (-4658895280553007687 : Int64))) ^^^ ((((w4_1 q0) * (f5 (-4658895280553007687 : Int64))).toUInt64 >>> ((30 : Int32) &&& 0x3f).toInt64.toUInt64).toInt64)) ^^^ ((((w4_1 q0) * (f5 (-4658895280553007687 : Int64))).toUInt64 >>> ((60 : Int32) &&& 0x3f).toInt64.toUInt64).toInt64))
theorem d4_53 : decode method_3_code 53 = .ok (.lstore_n 2, 1) := by decide +kernel
theorem d4_54 : decode method_3_code 54 = .ok (.lload_n 2, 1) := by decide +kernel
theorem d4_55 : decode method_3_code 55 = .ok (.lreturn, 1) := by decide +kernel
def f4 (q0 : Int64) : Int64 := (w4_2 q0)
def Q4 (q0 : Int64) (h0 : Heap) (n0 : Nat) (v : Option Value) (h : Heap) (L : List Loc) : Prop := v = some (.long (f4 q0)) ∧ Fr n0 L ∧ h = h0
theorem ef_4_a (m : MethodId) (x0 : Int64) : entryFrame m #[(.long x0)] 4 = mkF m 0 #[.val (.long x0), .second, .unset, .unset] [] := by first | (simp [entryFrame, mkF, argsToLocals, Value.category]; done) | rfl
set_option maxRecDepth 65536 in
set_option maxHeartbeats 40000000 in
theorem rm4 (l : Launch) (Z : State) (a0 : Array Value) (hw : ∀ d ∈ tables_1, d.before a0 Z = true) (ws : List Jvm.Cond) (q0 : Int64) (h0 : Heap) (n0 : Nat) (Z0 : n0 ≤ h0.size) :
    MetFree l (⟨"com/example/muster/muster/core/SeededRandomNextLongPinLaw", "unmix", "(J)J"⟩ : MethodName) (head1 (Jvm.Cond.code (⟨"com/example/muster/muster/core/SeededRandomNextLongPinLaw", "unmix", "(J)J"⟩ : MethodName) method_3_code 4 (some .long) :: ws) ({ frames := 1, cells := 0, slots := 0, locals := 17 } : Room)) (fun a U => a = #[(.long q0)] ∧ Z.Warmed39 U.vm ∧ U.heap = h0) (fun _ _ _ _ _ => True) (fun _ U o U' => ∃ v L, o = .returned v ∧ Q4 q0 h0 n0 v U'.heap L ∧ FrameEnd U o U' L ({ frames := 1, cells := 0, slots := 0, locals := 17 } : Room).cells ({ frames := 1, cells := 0, slots := 0, locals := 17 } : Room).slots) := by
  refine MetFree.of_bodySF (plainFor_of_name pn_1) hisR ?_
  intro p e s m args below meth c s₁ Bd hml0 hP hK
  obtain ⟨rfl, hZ, hh⟩ := hP
  have hx := Bd.exec
  have hby := Bd.bytes
  have hml : c.maxLocals = 4 := hml0
  have hown : s.vm.findClass "com/example/muster/muster/core/SeededRandomNextLongPinLaw" = some m.cls := findClass_of_methodNamed Bd.named
  have hnm := (name_of_methodNamed Bd.named Bd.method).1
  have X0 : Stand p l e ({ frames := 1, cells := 0, slots := 0, locals := 17 } : Room) s m #[(.long q0)] below meth c s₁ [] 0 0 := Stand.of_body Bd
  have e0 : s₁.heap = h0 := by rw [← hh, Bd.state]; rfl
  have N0 := Fr.nil n0
  refine Go.into (P := fun oo uu => ∃ v L, oo = .returned v ∧ Q4 q0 h0 n0 v uu.heap L ∧ FrameEnd s oo uu L ({ frames := 1, cells := 0, slots := 0, locals := 17 } : Room).cells ({ frames := 1, cells := 0, slots := 0, locals := 17 } : Room).slots) (ef_4_a m q0) ?_
  show Go p e below _ (s₁.setTop (mkF m 0 #[.val (.long q0), .second, .unset, .unset] []))
  refine Go.via (T' := s₁.setTop (mkF m 16 #[.val (.long q0), .second, .val (.long (w4_0 q0)), .second] [(.long (-7723592293110705685 : Int64)), (.long (w4_0 q0))])) (fun tZ kZ => ?_) ?_
  · show Steps p.tables e below (s₁.setTop (mkF m 0 #[.val (.long q0), .second, .unset, .unset] [])) _
    refine XS.lloadN X0.here hx rfl (hb hby d4_0) rfl ?_
    show Steps p.tables e below (s₁.setTop (mkF m 1 #[.val (.long q0), .second, .unset, .unset] [(.long q0)])) _
    refine XS.lloadN X0.here hx rfl (hb hby d4_1) rfl ?_
    show Steps p.tables e below (s₁.setTop (mkF m 2 #[.val (.long q0), .second, .unset, .unset] [(.long q0), (.long q0)])) _
    refine XS.bipush X0.here hx rfl (hb hby d4_2) ?_
    show Steps p.tables e below (s₁.setTop (mkF m 4 #[.val (.long q0), .second, .unset, .unset] [(.int (31 : Int32)), (.long q0), (.long q0)])) _
    refine XS.lushr X0.here hx rfl (hb hby d4_4) rfl ?_
    show Steps p.tables e below (s₁.setTop (mkF m 5 #[.val (.long q0), .second, .unset, .unset] [(.long ((q0.toUInt64 >>> ((31 : Int32) &&& 0x3f).toInt64.toUInt64).toInt64)), (.long q0)])) _
    refine XS.lxor X0.here hx rfl (hb hby d4_5) rfl ?_
    show Steps p.tables e below (s₁.setTop (mkF m 6 #[.val (.long q0), .second, .unset, .unset] [(.long (q0 ^^^ ((q0.toUInt64 >>> ((31 : Int32) &&& 0x3f).toInt64.toUInt64).toInt64)))])) _
    refine XS.lloadN X0.here hx rfl (hb hby d4_6) rfl ?_
    show Steps p.tables e below (s₁.setTop (mkF m 7 #[.val (.long q0), .second, .unset, .unset] [(.long q0), (.long (q0 ^^^ ((q0.toUInt64 >>> ((31 : Int32) &&& 0x3f).toInt64.toUInt64).toInt64)))])) _
    refine XS.bipush X0.here hx rfl (hb hby d4_7) ?_
    show Steps p.tables e below (s₁.setTop (mkF m 9 #[.val (.long q0), .second, .unset, .unset] [(.int (62 : Int32)), (.long q0), (.long (q0 ^^^ ((q0.toUInt64 >>> ((31 : Int32) &&& 0x3f).toInt64.toUInt64).toInt64)))])) _
    refine XS.lushr X0.here hx rfl (hb hby d4_9) rfl ?_
    show Steps p.tables e below (s₁.setTop (mkF m 10 #[.val (.long q0), .second, .unset, .unset] [(.long ((q0.toUInt64 >>> ((62 : Int32) &&& 0x3f).toInt64.toUInt64).toInt64)), (.long (q0 ^^^ ((q0.toUInt64 >>> ((31 : Int32) &&& 0x3f).toInt64.toUInt64).toInt64)))])) _
    refine XS.lxor X0.here hx rfl (hb hby d4_10) rfl ?_
    show Steps p.tables e below (s₁.setTop (mkF m 11 #[.val (.long q0), .second, .unset, .unset] [(.long ((q0 ^^^ ((q0.toUInt64 >>> ((31 : Int32) &&& 0x3f).toInt64.toUInt64).toInt64)) ^^^ ((q0.toUInt64 >>> ((62 : Int32) &&& 0x3f).toInt64.toUInt64).toInt64)))])) _
    refine XS.lstoreN X0.here hx rfl (hb hby d4_11) rfl (l' := #[.val (.long q0), .second, .val (.long (w4_0 q0)), .second]) rfl ?_
    show Steps p.tables e below (s₁.setTop (mkF m 12 #[.val (.long q0), .second, .val (.long (w4_0 q0)), .second] [])) _
    refine XS.lloadN X0.here hx rfl (hb hby d4_12) rfl ?_
    show Steps p.tables e below (s₁.setTop (mkF m 13 #[.val (.long q0), .second, .val (.long (w4_0 q0)), .second] [(.long (w4_0 q0))])) _
    refine X0.ldc2Long hx hown (mvT hZ (hw _ (List.mem_of_getElem? (i := 24) rfl))) (g := (mkF m 13 #[.val (.long q0), .second, .val (.long (w4_0 q0)), .second] [(.long (w4_0 q0))])) rfl (hb hby d4_13) _ ?_
    show Steps p.tables e below (s₁.setTop (mkF m 16 #[.val (.long q0), .second, .val (.long (w4_0 q0)), .second] [(.long (-7723592293110705685 : Int64)), (.long (w4_0 q0))])) _
    exact kZ
  obtain ⟨_, _, ⟨T1, L1, k1, n1⟩, -, X1, ⟨Lc1, hQ1, l1, y1, z1⟩, st1⟩ := Jvm.LawKit.callS X0 hx (y := (⟨"com/example/muster/muster/core/SeededRandomNextLongPinLaw", "inverseOdd", "(J)J"⟩ : MethodName)) hown (mvT hZ (hw _ (List.mem_of_getElem? (i := 25) rfl))) (mvT hZ (hw _ (List.mem_of_getElem? (i := 26) rfl))) (mvT hZ (hw _ (List.mem_of_getElem? (i := 22) rfl))) (mvT hZ (hw _ (List.mem_of_getElem? (i := 27) rfl))) (by decide) (backOf (W := 2) (rm5 l Z a0 hw [] (-7723592293110705685 : Int64) h0 n0 Z0 ) hZ (hw _ (List.mem_of_getElem? (i := 27) rfl)) (hw _ (List.mem_of_getElem? (i := 22) rfl)) (by decide) (by decide)) (g := (mkF m 16 #[.val (.long q0), .second, .val (.long (w4_0 q0)), .second] [(.long (-7723592293110705685 : Int64)), (.long (w4_0 q0))])) rfl (by rw [hml]; rfl) (argsL := [(.long (-7723592293110705685 : Int64))]) (rest := [(.long (w4_0 q0))]) (lenOf pd_3 rfl) rfl (by show 2 * 0 + _ ≤ _; exact Nat.le_of_eq rfl) (hb hby d4_16) (fun _ _ => ⟨rfl, e0, (by decide : 0 + 0 ≤ _), (by decide : 0 + 0 ≤ _)⟩)
  dsimp only [Pt.U, Pt.locs, Pt.cells, Pt.slots] at X1 l1 y1 z1 st1 hQ1
  subst l1 y1 z1
  obtain ⟨rfl, N1q, e1⟩ := hQ1
  have N1 := Fr.app N0 N1q
  refine Go.via st1 ?_
  show Go p e below _ (T1.setTop (mkF m 19 #[.val (.long q0), .second, .val (.long (w4_0 q0)), .second] [(.long (f5 (-7723592293110705685 : Int64))), (.long (w4_0 q0))]))
  refine Go.via (T' := T1.setTop (mkF m 37 #[.val (.long q0), .second, .val (.long (w4_1 q0)), .second] [(.long (-4658895280553007687 : Int64)), (.long (w4_1 q0))])) (fun tZ kZ => ?_) ?_
  · show Steps p.tables e below (T1.setTop (mkF m 19 #[.val (.long q0), .second, .val (.long (w4_0 q0)), .second] [(.long (f5 (-7723592293110705685 : Int64))), (.long (w4_0 q0))])) _
    refine XS.lmul X1.here hx rfl (hb hby d4_19) rfl ?_
    show Steps p.tables e below (T1.setTop (mkF m 20 #[.val (.long q0), .second, .val (.long (w4_0 q0)), .second] [(.long ((w4_0 q0) * (f5 (-7723592293110705685 : Int64))))])) _
    refine XS.lstoreN X1.here hx rfl (hb hby d4_20) rfl (l' := #[.val (.long q0), .second, .val (.long ((w4_0 q0) * (f5 (-7723592293110705685 : Int64)))), .second]) rfl ?_
    show Steps p.tables e below (T1.setTop (mkF m 21 #[.val (.long q0), .second, .val (.long ((w4_0 q0) * (f5 (-7723592293110705685 : Int64)))), .second] [])) _
    refine XS.lloadN X1.here hx rfl (hb hby d4_21) rfl ?_
    show Steps p.tables e below (T1.setTop (mkF m 22 #[.val (.long q0), .second, .val (.long ((w4_0 q0) * (f5 (-7723592293110705685 : Int64)))), .second] [(.long ((w4_0 q0) * (f5 (-7723592293110705685 : Int64))))])) _
    refine XS.lloadN X1.here hx rfl (hb hby d4_22) rfl ?_
    show Steps p.tables e below (T1.setTop (mkF m 23 #[.val (.long q0), .second, .val (.long ((w4_0 q0) * (f5 (-7723592293110705685 : Int64)))), .second] [(.long ((w4_0 q0) * (f5 (-7723592293110705685 : Int64)))), (.long ((w4_0 q0) * (f5 (-7723592293110705685 : Int64))))])) _
    refine XS.bipush X1.here hx rfl (hb hby d4_23) ?_
    show Steps p.tables e below (T1.setTop (mkF m 25 #[.val (.long q0), .second, .val (.long ((w4_0 q0) * (f5 (-7723592293110705685 : Int64)))), .second] [(.int (27 : Int32)), (.long ((w4_0 q0) * (f5 (-7723592293110705685 : Int64)))), (.long ((w4_0 q0) * (f5 (-7723592293110705685 : Int64))))])) _
    refine XS.lushr X1.here hx rfl (hb hby d4_25) rfl ?_
    show Steps p.tables e below (T1.setTop (mkF m 26 #[.val (.long q0), .second, .val (.long ((w4_0 q0) * (f5 (-7723592293110705685 : Int64)))), .second] [(.long ((((w4_0 q0) * (f5 (-7723592293110705685 : Int64))).toUInt64 >>> ((27 : Int32) &&& 0x3f).toInt64.toUInt64).toInt64)), (.long ((w4_0 q0) * (f5 (-7723592293110705685 : Int64))))])) _
    refine XS.lxor X1.here hx rfl (hb hby d4_26) rfl ?_
    show Steps p.tables e below (T1.setTop (mkF m 27 #[.val (.long q0), .second, .val (.long ((w4_0 q0) * (f5 (-7723592293110705685 : Int64)))), .second] [(.long (((w4_0 q0) * (f5 (-7723592293110705685 : Int64))) ^^^ ((((w4_0 q0) * (f5 (-7723592293110705685 : Int64))).toUInt64 >>> ((27 : Int32) &&& 0x3f).toInt64.toUInt64).toInt64)))])) _
    refine XS.lloadN X1.here hx rfl (hb hby d4_27) rfl ?_
    show Steps p.tables e below (T1.setTop (mkF m 28 #[.val (.long q0), .second, .val (.long ((w4_0 q0) * (f5 (-7723592293110705685 : Int64)))), .second] [(.long ((w4_0 q0) * (f5 (-7723592293110705685 : Int64)))), (.long (((w4_0 q0) * (f5 (-7723592293110705685 : Int64))) ^^^ ((((w4_0 q0) * (f5 (-7723592293110705685 : Int64))).toUInt64 >>> ((27 : Int32) &&& 0x3f).toInt64.toUInt64).toInt64)))])) _
    refine XS.bipush X1.here hx rfl (hb hby d4_28) ?_
    show Steps p.tables e below (T1.setTop (mkF m 30 #[.val (.long q0), .second, .val (.long ((w4_0 q0) * (f5 (-7723592293110705685 : Int64)))), .second] [(.int (54 : Int32)), (.long ((w4_0 q0) * (f5 (-7723592293110705685 : Int64)))), (.long (((w4_0 q0) * (f5 (-7723592293110705685 : Int64))) ^^^ ((((w4_0 q0) * (f5 (-7723592293110705685 : Int64))).toUInt64 >>> ((27 : Int32) &&& 0x3f).toInt64.toUInt64).toInt64)))])) _
    refine XS.lushr X1.here hx rfl (hb hby d4_30) rfl ?_
    show Steps p.tables e below (T1.setTop (mkF m 31 #[.val (.long q0), .second, .val (.long ((w4_0 q0) * (f5 (-7723592293110705685 : Int64)))), .second] [(.long ((((w4_0 q0) * (f5 (-7723592293110705685 : Int64))).toUInt64 >>> ((54 : Int32) &&& 0x3f).toInt64.toUInt64).toInt64)), (.long (((w4_0 q0) * (f5 (-7723592293110705685 : Int64))) ^^^ ((((w4_0 q0) * (f5 (-7723592293110705685 : Int64))).toUInt64 >>> ((27 : Int32) &&& 0x3f).toInt64.toUInt64).toInt64)))])) _
    refine XS.lxor X1.here hx rfl (hb hby d4_31) rfl ?_
    show Steps p.tables e below (T1.setTop (mkF m 32 #[.val (.long q0), .second, .val (.long ((w4_0 q0) * (f5 (-7723592293110705685 : Int64)))), .second] [(.long ((((w4_0 q0) * (f5 (-7723592293110705685 : Int64))) ^^^ ((((w4_0 q0) * (f5 (-7723592293110705685 : Int64))).toUInt64 >>> ((27 : Int32) &&& 0x3f).toInt64.toUInt64).toInt64)) ^^^ ((((w4_0 q0) * (f5 (-7723592293110705685 : Int64))).toUInt64 >>> ((54 : Int32) &&& 0x3f).toInt64.toUInt64).toInt64)))])) _
    refine XS.lstoreN X1.here hx rfl (hb hby d4_32) rfl (l' := #[.val (.long q0), .second, .val (.long (w4_1 q0)), .second]) rfl ?_
    show Steps p.tables e below (T1.setTop (mkF m 33 #[.val (.long q0), .second, .val (.long (w4_1 q0)), .second] [])) _
    refine XS.lloadN X1.here hx rfl (hb hby d4_33) rfl ?_
    show Steps p.tables e below (T1.setTop (mkF m 34 #[.val (.long q0), .second, .val (.long (w4_1 q0)), .second] [(.long (w4_1 q0))])) _
    refine X1.ldc2Long hx hown (mvT hZ (hw _ (List.mem_of_getElem? (i := 29) rfl))) (g := (mkF m 34 #[.val (.long q0), .second, .val (.long (w4_1 q0)), .second] [(.long (w4_1 q0))])) rfl (hb hby d4_34) _ ?_
    show Steps p.tables e below (T1.setTop (mkF m 37 #[.val (.long q0), .second, .val (.long (w4_1 q0)), .second] [(.long (-4658895280553007687 : Int64)), (.long (w4_1 q0))])) _
    exact kZ
  obtain ⟨_, _, ⟨T2, L2, k2, n2⟩, -, X2, ⟨Lc2, hQ2, l2, y2, z2⟩, st2⟩ := Jvm.LawKit.callS X1 hx (y := (⟨"com/example/muster/muster/core/SeededRandomNextLongPinLaw", "inverseOdd", "(J)J"⟩ : MethodName)) hown (mvT hZ (hw _ (List.mem_of_getElem? (i := 25) rfl))) (mvT hZ (hw _ (List.mem_of_getElem? (i := 26) rfl))) (mvT hZ (hw _ (List.mem_of_getElem? (i := 22) rfl))) (mvT hZ (hw _ (List.mem_of_getElem? (i := 27) rfl))) (by decide) (backOf (W := 2) (rm5 l Z a0 hw [] (-4658895280553007687 : Int64) h0 n0 Z0 ) hZ (hw _ (List.mem_of_getElem? (i := 27) rfl)) (hw _ (List.mem_of_getElem? (i := 22) rfl)) (by decide) (by decide)) (g := (mkF m 37 #[.val (.long q0), .second, .val (.long (w4_1 q0)), .second] [(.long (-4658895280553007687 : Int64)), (.long (w4_1 q0))])) rfl (by rw [hml]; rfl) (argsL := [(.long (-4658895280553007687 : Int64))]) (rest := [(.long (w4_1 q0))]) (lenOf pd_3 rfl) rfl (by show 2 * 0 + _ ≤ _; exact Nat.le_of_eq rfl) (hb hby d4_37) (fun _ _ => ⟨rfl, e1, (by decide : 0 + 0 + 0 ≤ _), (by decide : 0 + 0 + 0 ≤ _)⟩)
  dsimp only [Pt.U, Pt.locs, Pt.cells, Pt.slots] at X2 l2 y2 z2 st2 hQ2
  subst l2 y2 z2
  obtain ⟨rfl, N2q, e2⟩ := hQ2
  have N2 := Fr.app N1 N2q
  refine Go.via st2 ?_
  show Go p e below _ (T2.setTop (mkF m 40 #[.val (.long q0), .second, .val (.long (w4_1 q0)), .second] [(.long (f5 (-4658895280553007687 : Int64))), (.long (w4_1 q0))]))
  refine Go.via (T' := T2.setTop (mkF m 55 #[.val (.long q0), .second, .val (.long (w4_2 q0)), .second] [(.long (w4_2 q0))])) (fun tZ kZ => ?_) ?_
  · show Steps p.tables e below (T2.setTop (mkF m 40 #[.val (.long q0), .second, .val (.long (w4_1 q0)), .second] [(.long (f5 (-4658895280553007687 : Int64))), (.long (w4_1 q0))])) _
    refine XS.lmul X2.here hx rfl (hb hby d4_40) rfl ?_
    show Steps p.tables e below (T2.setTop (mkF m 41 #[.val (.long q0), .second, .val (.long (w4_1 q0)), .second] [(.long ((w4_1 q0) * (f5 (-4658895280553007687 : Int64))))])) _
    refine XS.lstoreN X2.here hx rfl (hb hby d4_41) rfl (l' := #[.val (.long q0), .second, .val (.long ((w4_1 q0) * (f5 (-4658895280553007687 : Int64)))), .second]) rfl ?_
    show Steps p.tables e below (T2.setTop (mkF m 42 #[.val (.long q0), .second, .val (.long ((w4_1 q0) * (f5 (-4658895280553007687 : Int64)))), .second] [])) _
    refine XS.lloadN X2.here hx rfl (hb hby d4_42) rfl ?_
    show Steps p.tables e below (T2.setTop (mkF m 43 #[.val (.long q0), .second, .val (.long ((w4_1 q0) * (f5 (-4658895280553007687 : Int64)))), .second] [(.long ((w4_1 q0) * (f5 (-4658895280553007687 : Int64))))])) _
    refine XS.lloadN X2.here hx rfl (hb hby d4_43) rfl ?_
    show Steps p.tables e below (T2.setTop (mkF m 44 #[.val (.long q0), .second, .val (.long ((w4_1 q0) * (f5 (-4658895280553007687 : Int64)))), .second] [(.long ((w4_1 q0) * (f5 (-4658895280553007687 : Int64)))), (.long ((w4_1 q0) * (f5 (-4658895280553007687 : Int64))))])) _
    refine XS.bipush X2.here hx rfl (hb hby d4_44) ?_
    show Steps p.tables e below (T2.setTop (mkF m 46 #[.val (.long q0), .second, .val (.long ((w4_1 q0) * (f5 (-4658895280553007687 : Int64)))), .second] [(.int (30 : Int32)), (.long ((w4_1 q0) * (f5 (-4658895280553007687 : Int64)))), (.long ((w4_1 q0) * (f5 (-4658895280553007687 : Int64))))])) _
    refine XS.lushr X2.here hx rfl (hb hby d4_46) rfl ?_
    show Steps p.tables e below (T2.setTop (mkF m 47 #[.val (.long q0), .second, .val (.long ((w4_1 q0) * (f5 (-4658895280553007687 : Int64)))), .second] [(.long ((((w4_1 q0) * (f5 (-4658895280553007687 : Int64))).toUInt64 >>> ((30 : Int32) &&& 0x3f).toInt64.toUInt64).toInt64)), (.long ((w4_1 q0) * (f5 (-4658895280553007687 : Int64))))])) _
    refine XS.lxor X2.here hx rfl (hb hby d4_47) rfl ?_
    show Steps p.tables e below (T2.setTop (mkF m 48 #[.val (.long q0), .second, .val (.long ((w4_1 q0) * (f5 (-4658895280553007687 : Int64)))), .second] [(.long (((w4_1 q0) * (f5 (-4658895280553007687 : Int64))) ^^^ ((((w4_1 q0) * (f5 (-4658895280553007687 : Int64))).toUInt64 >>> ((30 : Int32) &&& 0x3f).toInt64.toUInt64).toInt64)))])) _
    refine XS.lloadN X2.here hx rfl (hb hby d4_48) rfl ?_
    show Steps p.tables e below (T2.setTop (mkF m 49 #[.val (.long q0), .second, .val (.long ((w4_1 q0) * (f5 (-4658895280553007687 : Int64)))), .second] [(.long ((w4_1 q0) * (f5 (-4658895280553007687 : Int64)))), (.long (((w4_1 q0) * (f5 (-4658895280553007687 : Int64))) ^^^ ((((w4_1 q0) * (f5 (-4658895280553007687 : Int64))).toUInt64 >>> ((30 : Int32) &&& 0x3f).toInt64.toUInt64).toInt64)))])) _
    refine XS.bipush X2.here hx rfl (hb hby d4_49) ?_
    show Steps p.tables e below (T2.setTop (mkF m 51 #[.val (.long q0), .second, .val (.long ((w4_1 q0) * (f5 (-4658895280553007687 : Int64)))), .second] [(.int (60 : Int32)), (.long ((w4_1 q0) * (f5 (-4658895280553007687 : Int64)))), (.long (((w4_1 q0) * (f5 (-4658895280553007687 : Int64))) ^^^ ((((w4_1 q0) * (f5 (-4658895280553007687 : Int64))).toUInt64 >>> ((30 : Int32) &&& 0x3f).toInt64.toUInt64).toInt64)))])) _
    refine XS.lushr X2.here hx rfl (hb hby d4_51) rfl ?_
    show Steps p.tables e below (T2.setTop (mkF m 52 #[.val (.long q0), .second, .val (.long ((w4_1 q0) * (f5 (-4658895280553007687 : Int64)))), .second] [(.long ((((w4_1 q0) * (f5 (-4658895280553007687 : Int64))).toUInt64 >>> ((60 : Int32) &&& 0x3f).toInt64.toUInt64).toInt64)), (.long (((w4_1 q0) * (f5 (-4658895280553007687 : Int64))) ^^^ ((((w4_1 q0) * (f5 (-4658895280553007687 : Int64))).toUInt64 >>> ((30 : Int32) &&& 0x3f).toInt64.toUInt64).toInt64)))])) _
    refine XS.lxor X2.here hx rfl (hb hby d4_52) rfl ?_
    show Steps p.tables e below (T2.setTop (mkF m 53 #[.val (.long q0), .second, .val (.long ((w4_1 q0) * (f5 (-4658895280553007687 : Int64)))), .second] [(.long ((((w4_1 q0) * (f5 (-4658895280553007687 : Int64))) ^^^ ((((w4_1 q0) * (f5 (-4658895280553007687 : Int64))).toUInt64 >>> ((30 : Int32) &&& 0x3f).toInt64.toUInt64).toInt64)) ^^^ ((((w4_1 q0) * (f5 (-4658895280553007687 : Int64))).toUInt64 >>> ((60 : Int32) &&& 0x3f).toInt64.toUInt64).toInt64)))])) _
    refine XS.lstoreN X2.here hx rfl (hb hby d4_53) rfl (l' := #[.val (.long q0), .second, .val (.long (w4_2 q0)), .second]) rfl ?_
    show Steps p.tables e below (T2.setTop (mkF m 54 #[.val (.long q0), .second, .val (.long (w4_2 q0)), .second] [])) _
    refine XS.lloadN X2.here hx rfl (hb hby d4_54) rfl ?_
    show Steps p.tables e below (T2.setTop (mkF m 55 #[.val (.long q0), .second, .val (.long (w4_2 q0)), .second] [(.long (w4_2 q0))])) _
    exact kZ
  refine Go.retJ X2 hx Bd.notSynchronized Bd.returns (hb hby d4_55) (by decide) (by decide) ?_
  refine ⟨?_, N2, e2⟩
  show some ((.long (w4_2 q0)) : Value) = some (.long (f4 q0))
  rfl
theorem own_bv {k : Nat} (hk : 64 ≤ 3 * k) (x : BitVec 64) : (x ^^^ (x >>> k)) ^^^ ((x ^^^ (x >>> k)) >>> k) ^^^ ((x ^^^ (x >>> k)) >>> (2 * k)) = x := by
  apply BitVec.eq_of_getLsbD_eq
  intro i hi
  simp only [BitVec.getLsbD_xor, BitVec.getLsbD_ushiftRight]
  have h3 : x.getLsbD (k + (2 * k + i)) = false := BitVec.getLsbD_of_ge _ _ (by omega)
  have e : k + (k + i) = 2 * k + i := by omega
  rw [h3, e]
  cases x.getLsbD i <;> cases x.getLsbD (k + i) <;> cases x.getLsbD (2 * k + i) <;> rfl
theorem own_bv' {k : Nat} (hk : 64 ≤ 3 * k) (x : BitVec 64) : (x ^^^ (x >>> k) ^^^ (x >>> (2 * k))) ^^^ ((x ^^^ (x >>> k) ^^^ (x >>> (2 * k))) >>> k) = x := by
  apply BitVec.eq_of_getLsbD_eq
  intro i hi
  simp only [BitVec.getLsbD_xor, BitVec.getLsbD_ushiftRight]
  have h3 : x.getLsbD (2 * k + (k + i)) = false := BitVec.getLsbD_of_ge _ _ (by omega)
  have e : k + (k + i) = 2 * k + i := by omega
  rw [h3, e]
  cases x.getLsbD i <;> cases x.getLsbD (k + i) <;> cases x.getLsbD (2 * k + i) <;> rfl
theorem own_sh (x : Int64) (n : Int32) (k : Nat) (hn : (n &&& 0x3f).toInt64.toUInt64.toBitVec = BitVec.ofNat 64 k) (hk : k < 64) : ((x.toUInt64 >>> (n &&& 0x3f).toInt64.toUInt64).toInt64).toBitVec = x.toBitVec >>> k := by
  show (x.toUInt64 >>> (n &&& 0x3f).toInt64.toUInt64).toBitVec = _
  rw [UInt64.toBitVec_shiftRight, hn]
  have : (BitVec.ofNat 64 k % 64#64) = BitVec.ofNat 64 k := by
    apply BitVec.eq_of_toNat_eq
    simp
    omega
  show x.toBitVec >>> (BitVec.ofNat 64 k % 64#64) = _
  rw [this, BitVec.ushiftRight_eq', BitVec.toNat_ofNat]
  congr 1
  omega
abbrev own_x (x : Int64) (n : Int32) : Int64 := ((x.toUInt64 >>> (n &&& 0x3f).toInt64.toUInt64).toInt64)
theorem own_un (x : Int64) (n n' : Int32) (k : Nat) (hn : (n &&& 0x3f).toInt64.toUInt64.toBitVec = BitVec.ofNat 64 k) (hn' : (n' &&& 0x3f).toInt64.toUInt64.toBitVec = BitVec.ofNat 64 (2 * k)) (hk : 2 * k < 64) (h3 : 64 ≤ 3 * k) :
    (x ^^^ own_x x n) ^^^ own_x (x ^^^ own_x x n) n ^^^ own_x (x ^^^ own_x x n) n' = x := by
  apply Int64.toBitVec_inj.mp
  simp only [Int64.toBitVec_xor, own_x]
  rw [own_sh _ n k hn (by omega), own_sh _ n' (2 * k) hn' hk, own_sh _ n k hn (by omega), Int64.toBitVec_xor, own_sh _ n k hn (by omega)]
  exact own_bv h3 _
theorem own_nu (x : Int64) (n n' : Int32) (k : Nat) (hn : (n &&& 0x3f).toInt64.toUInt64.toBitVec = BitVec.ofNat 64 k) (hn' : (n' &&& 0x3f).toInt64.toUInt64.toBitVec = BitVec.ofNat 64 (2 * k)) (hk : 2 * k < 64) (h3 : 64 ≤ 3 * k) :
    (x ^^^ own_x x n ^^^ own_x x n') ^^^ own_x (x ^^^ own_x x n ^^^ own_x x n') n = x := by
  apply Int64.toBitVec_inj.mp
  simp only [Int64.toBitVec_xor, own_x]
  rw [own_sh _ n k hn (by omega), own_sh _ n' (2 * k) hn' hk, own_sh _ n k hn (by omega), Int64.toBitVec_xor, Int64.toBitVec_xor, own_sh _ n k hn (by omega), own_sh _ n' (2 * k) hn' hk]
  exact own_bv' h3 _

theorem own_i1 : (-4658895280553007687 : Int64) * f5 (-4658895280553007687 : Int64) = 1 := by decide +kernel
theorem own_i2 : (-7723592293110705685 : Int64) * f5 (-7723592293110705685 : Int64) = 1 := by decide +kernel
def own_m0 (z : Int64) : Int64 := (z ^^^ own_x z 30) * (-4658895280553007687 : Int64)
def own_m1 (z : Int64) : Int64 := (own_m0 z ^^^ own_x (own_m0 z) 27) * (-7723592293110705685 : Int64)
def own_m (z : Int64) : Int64 := own_m1 z ^^^ own_x (own_m1 z) 31
theorem own_um (z : Int64) : f4 (own_m z) = z := by
  have a : w4_0 (own_m z) = own_m1 z := own_un (own_m1 z) 31 62 31 (by decide +kernel) (by decide +kernel) (by decide) (by decide)
  have b : own_m1 z * f5 (-7723592293110705685 : Int64) = own_m0 z ^^^ own_x (own_m0 z) 27 := by
    show ((own_m0 z ^^^ own_x (own_m0 z) 27) * (-7723592293110705685 : Int64)) * f5 (-7723592293110705685 : Int64) = _
    rw [Int64.mul_assoc, own_i2, Int64.mul_one]
  have c : w4_1 (own_m z) = own_m0 z := by
    unfold w4_1; rw [a, b]
    exact own_un (own_m0 z) 27 54 27 (by decide +kernel) (by decide +kernel) (by decide) (by decide)
  have d : own_m0 z * f5 (-4658895280553007687 : Int64) = z ^^^ own_x z 30 := by
    show ((z ^^^ own_x z 30) * (-4658895280553007687 : Int64)) * f5 (-4658895280553007687 : Int64) = _
    rw [Int64.mul_assoc, own_i1, Int64.mul_one]
  show w4_2 (own_m z) = z
  unfold w4_2; rw [c, d]
  exact own_un z 30 60 30 (by decide +kernel) (by decide +kernel) (by decide) (by decide)

def Q0 (n0 : Nat) (v : Option Value) (h : Heap) (L : List Loc) : Prop := v = some (.int 1) ∧ Fr n0 L
theorem pd_0 : parseMethodDescriptor "(J)V" = some ⟨[.long], none⟩ := by decide +kernel
theorem pd_2 : parseMethodDescriptor "()J" = some ⟨[], some .long⟩ := by decide +kernel
def w0_0 (q0 : Int64) : Int64 := ((w3_1 q0) ^^^ (((w3_1 q0).toUInt64 >>> ((31 : Int32) &&& 0x3f).toInt64.toUInt64).toInt64))
def w0_1 (q0 : Int64) : Int64 := ((w3_1 (q0 + (-7046029254386353131 : Int64))) ^^^ (((w3_1 (q0 + (-7046029254386353131 : Int64))).toUInt64 >>> ((31 : Int32) &&& 0x3f).toInt64.toUInt64).toInt64))
def w0_2 (q0 : Int64) : Int64 := ((w3_1 ((q0 + (-7046029254386353131 : Int64)) + (-7046029254386353131 : Int64))) ^^^ (((w3_1 ((q0 + (-7046029254386353131 : Int64)) + (-7046029254386353131 : Int64))).toUInt64 >>> ((31 : Int32) &&& 0x3f).toInt64.toUInt64).toInt64))
theorem own_1 (q : Int64) : f4 (w0_0 q) = q + (-7046029254386353131 : Int64) := own_um (q + (-7046029254386353131 : Int64))
theorem own_2 (q : Int64) : f4 (w0_1 q) = q + ((2 : Int64) * (-7046029254386353131 : Int64)) := by
  rw [show q + ((2 : Int64) * (-7046029254386353131 : Int64)) = (q + (-7046029254386353131 : Int64)) + (-7046029254386353131 : Int64) by rw [Int64.add_assoc]; congr 1]
  exact own_um _
theorem own_3 (q : Int64) : f4 (w0_2 q) = q + ((3 : Int64) * (-7046029254386353131 : Int64)) := by
  rw [show q + ((3 : Int64) * (-7046029254386353131 : Int64)) = ((q + (-7046029254386353131 : Int64)) + (-7046029254386353131 : Int64)) + (-7046029254386353131 : Int64) by rw [Int64.add_assoc, Int64.add_assoc]; congr 1]
  exact own_um _
theorem ef_0_a (m : MethodId) (x0 : Int64) : entryFrame m #[(.long x0)] maxLocals = mkF m 0 #[.val (.long x0), .second, .unset, .unset, .unset, .unset, .unset, .unset, .unset, .unset, .unset] [] := by first | (simp [entryFrame, mkF, argsToLocals, Value.category, maxLocals]; done) | rfl
set_option maxRecDepth 65536 in
set_option maxHeartbeats 40000000 in
theorem rm0 (l : Launch) (Z : State) (a0 : Array Value) (hw : ∀ d ∈ tables_1, d.before a0 Z = true) (ws : List Jvm.Cond) (q0 : Int64) (h0 : Heap) (n0 : Nat) (Z0 : n0 ≤ h0.size) :
    MetFree l x (head1 (Jvm.Cond.code x code maxLocals ret :: ws) room_1) (fun a U => a = #[(.long q0)] ∧ Z.Warmed39 U.vm ∧ U.heap = h0) (fun _ _ _ _ _ => True) (fun _ U o U' => ∃ v L, o = .returned v ∧ Q0 n0 v U'.heap L ∧ FrameEnd U o U' L 16 128) := by
  refine MetFree.of_bodySF (plainFor_of_name pn_1) hisR ?_
  intro p e s m args below meth c s₁ Bd hml0 hP hK
  obtain ⟨rfl, hZ, hh⟩ := hP
  have hx := Bd.exec
  have hby := Bd.bytes
  have hml : c.maxLocals = 11 := hml0
  have hown : s.vm.findClass "com/example/muster/muster/core/SeededRandomNextLongPinLaw" = some m.cls := findClass_of_methodNamed Bd.named
  have hnm := (name_of_methodNamed Bd.named Bd.method).1
  have X0 : Stand p l e room_1 s m #[(.long q0)] below meth c s₁ [] 0 0 := Stand.of_body Bd
  have e0 : s₁.heap = h0 := by rw [← hh, Bd.state]; rfl
  have N0 := Fr.nil n0
  refine Go.into (P := fun oo uu => ∃ v L, oo = .returned v ∧ Q0 n0 v uu.heap L ∧ FrameEnd s oo uu L 16 128) (ef_0_a m q0) ?_
  show Go p e below _ (s₁.setTop (mkF m 0 #[.val (.long q0), .second, .unset, .unset, .unset, .unset, .unset, .unset, .unset, .unset, .unset] []))
  refine Go.via (T' := s₁.setTop (mkF m 4 #[.val (.long q0), .second, .val (.long (-7046029254386353131 : Int64)), .second, .unset, .unset, .unset, .unset, .unset, .unset, .unset] [])) (fun tZ kZ => ?_) ?_
  · show Steps p.tables e below (s₁.setTop (mkF m 0 #[.val (.long q0), .second, .unset, .unset, .unset, .unset, .unset, .unset, .unset, .unset, .unset] [])) _
    refine X0.ldc2Long hx hown (mvT hZ (hw _ (List.mem_of_getElem? (i := 0) rfl))) (g := (mkF m 0 #[.val (.long q0), .second, .unset, .unset, .unset, .unset, .unset, .unset, .unset, .unset, .unset] [])) rfl (hb hby at_0) _ ?_
    show Steps p.tables e below (s₁.setTop (mkF m 3 #[.val (.long q0), .second, .unset, .unset, .unset, .unset, .unset, .unset, .unset, .unset, .unset] [(.long (-7046029254386353131 : Int64))])) _
    refine XS.lstoreN X0.here hx rfl (hb hby at_3) rfl (l' := #[.val (.long q0), .second, .val (.long (-7046029254386353131 : Int64)), .second, .unset, .unset, .unset, .unset, .unset, .unset, .unset]) rfl ?_
    show Steps p.tables e below (s₁.setTop (mkF m 4 #[.val (.long q0), .second, .val (.long (-7046029254386353131 : Int64)), .second, .unset, .unset, .unset, .unset, .unset, .unset, .unset] [])) _
    exact kZ
  obtain ⟨T1, h1, X1, e1, E1, A1, D1, -, st1⟩ := newO X0 hx hZ hown (hw _ (List.mem_of_getElem? (i := 1) rfl)) (hw _ (List.mem_of_getElem? (i := 2) rfl)) (hw _ (List.mem_of_getElem? (i := 3) rfl)) e0 (g := (mkF m 4 #[.val (.long q0), .second, .val (.long (-7046029254386353131 : Int64)), .second, .unset, .unset, .unset, .unset, .unset, .unset, .unset] [])) rfl (hb hby at_4) (by decide) (by decide)
  obtain ⟨b1, g1⟩ : ∃ z, z = h0.size := ⟨_, rfl⟩
  rw [← g1] at A1 D1 st1
  have g_b1 : n0 ≤ b1 := Nat.le_trans Z0 (Nat.le_of_eq g1.symm)
  have sz_b1 : h0.size ≤ b1 := Nat.le_trans ((Keep.refl h0 [])).1 (Nat.le_of_eq g1.symm)
  have K1 : Keep h0 h1 [] := (Keep.refl h0 []).ext E1
  have Z1 : n0 ≤ h1.size := Nat.le_trans Z0 E1.1
  have F1_state : Fld Z h1 b1 "com/example/muster/muster/core/SeededRandom" "state" "J" (.long (0 : Int64)) := D1 (Or.inl (hw _ (List.mem_of_getElem? (i := 11) rfl))) (ty := .long) (by decide)
  refine Go.via st1 ?_
  show Go p e below _ (T1.setTop (mkF m 7 #[.val (.long q0), .second, .val (.long (-7046029254386353131 : Int64)), .second, .unset, .unset, .unset, .unset, .unset, .unset, .unset] [(.ref b1)]))
  refine Go.via (T' := T1.setTop (mkF m 9 #[.val (.long q0), .second, .val (.long (-7046029254386353131 : Int64)), .second, .unset, .unset, .unset, .unset, .unset, .unset, .unset] [(.long q0), (.ref b1), (.ref b1)])) (fun tZ kZ => ?_) ?_
  · show Steps p.tables e below (T1.setTop (mkF m 7 #[.val (.long q0), .second, .val (.long (-7046029254386353131 : Int64)), .second, .unset, .unset, .unset, .unset, .unset, .unset, .unset] [(.ref b1)])) _
    refine XS.dup X1.here hx rfl (hb hby at_7) rfl rfl ?_
    show Steps p.tables e below (T1.setTop (mkF m 8 #[.val (.long q0), .second, .val (.long (-7046029254386353131 : Int64)), .second, .unset, .unset, .unset, .unset, .unset, .unset, .unset] [(.ref b1), (.ref b1)])) _
    refine XS.lloadN X1.here hx rfl (hb hby at_8) rfl ?_
    show Steps p.tables e below (T1.setTop (mkF m 9 #[.val (.long q0), .second, .val (.long (-7046029254386353131 : Int64)), .second, .unset, .unset, .unset, .unset, .unset, .unset, .unset] [(.long q0), (.ref b1), (.ref b1)])) _
    exact kZ
  obtain ⟨_, _, ⟨T3, L3, k3, n3⟩, -, X3, ⟨Lc3, hQ3, l3, y3, z3⟩, st3⟩ := X1.specialBack hx (y := (⟨"com/example/muster/muster/core/SeededRandom", "<init>", "(J)V"⟩ : MethodName)) rfl hown (mvT hZ (hw _ (List.mem_of_getElem? (i := 4) rfl))) (mvT hZ (hw _ (List.mem_of_getElem? (i := 5) rfl))) (mvT hZ (hw _ (List.mem_of_getElem? (i := 6) rfl))) (by decide) (backOf (W := 1) (rm1 l Z a0 hw [] b1 q0 (0 : Int64) h1 n0 Z1 A1 F1_state g_b1) hZ (hw _ (List.mem_of_getElem? (i := 6) rfl)) (hw _ (List.mem_of_getElem? (i := 3) rfl)) (by decide) (by decide)) (g := (mkF m 9 #[.val (.long q0), .second, .val (.long (-7046029254386353131 : Int64)), .second, .unset, .unset, .unset, .unset, .unset, .unset, .unset] [(.long q0), (.ref b1), (.ref b1)])) rfl (by rw [hml]; rfl) (Steps.refl _) (a := b1) (argsL := [(.long q0)]) (rest := [(.ref b1)]) (lenOf pd_0 rfl) rfl (by show 2 * 0 + _ ≤ _; exact Nat.le_of_eq rfl) (hb hby at_9) (fun _ _ => ⟨rfl, e1, (by decide : 0 + 1 + 0 ≤ _), (by decide : 0 + 1 + 0 ≤ _)⟩)
  dsimp only [Pt.U, Pt.locs, Pt.cells, Pt.slots] at X3 l3 y3 z3 st3 hQ3
  subst l3 y3 z3
  obtain ⟨rfl, N3q, Kq3, f3_0, f3_1⟩ := hQ3
  have K3 : Keep h0 T3.heap [] := K1.trans Kq3 (allS (Or.inr sz_b1) all0)
  have Z3 : n0 ≤ T3.heap.size := Nat.le_trans Z1 Kq3.1
  have N3 := Fr.app N0 N3q
  refine Go.via (fun t k => st3.trans k) ?_
  show Go p e below _ (T3.setTop (mkF m 12 #[.val (.long q0), .second, .val (.long (-7046029254386353131 : Int64)), .second, .unset, .unset, .unset, .unset, .unset, .unset, .unset] [(.ref b1)]))
  refine Go.via (T' := T3.setTop (mkF m 16 #[.val (.long q0), .second, .val (.long (-7046029254386353131 : Int64)), .second, .val (.ref b1), .unset, .unset, .unset, .unset, .unset, .unset] [(.ref b1)])) (fun tZ kZ => ?_) ?_
  · show Steps p.tables e below (T3.setTop (mkF m 12 #[.val (.long q0), .second, .val (.long (-7046029254386353131 : Int64)), .second, .unset, .unset, .unset, .unset, .unset, .unset, .unset] [(.ref b1)])) _
    refine XS.astore X3.here hx rfl (hb hby at_12) rfl rfl (l' := #[.val (.long q0), .second, .val (.long (-7046029254386353131 : Int64)), .second, .val (.ref b1), .unset, .unset, .unset, .unset, .unset, .unset]) rfl ?_
    show Steps p.tables e below (T3.setTop (mkF m 14 #[.val (.long q0), .second, .val (.long (-7046029254386353131 : Int64)), .second, .val (.ref b1), .unset, .unset, .unset, .unset, .unset, .unset] [])) _
    refine XS.aload X3.here hx rfl (hb hby at_14) rfl rfl ?_
    show Steps p.tables e below (T3.setTop (mkF m 16 #[.val (.long q0), .second, .val (.long (-7046029254386353131 : Int64)), .second, .val (.ref b1), .unset, .unset, .unset, .unset, .unset, .unset] [(.ref b1)])) _
    exact kZ
  obtain ⟨cq5, kq5, q5a, q5b, q5c⟩ := isOf hZ rfl f3_0
  obtain ⟨_, _, ⟨T5, L5, k5, n5⟩, -, X5, ⟨Lc5, hQ5, l5, y5, z5⟩, st5⟩ := X3.virtualBack hx (y := (⟨"com/example/muster/muster/core/SeededRandom", "nextLong", "()J"⟩ : MethodName)) (z := (⟨"com/example/muster/muster/core/SeededRandom", "nextLong", "()J"⟩ : MethodName)) hown (mvT hZ (hw _ (List.mem_of_getElem? (i := 12) rfl))) (mvT hZ (hw _ (List.mem_of_getElem? (i := 13) rfl))) (notFace_of_selects (args := #[]) (mvT hZ (hw _ (List.mem_of_getElem? (i := 15) rfl)))) (mvT hZ (hw _ (List.mem_of_getElem? (i := 15) rfl))) (mvT hZ (hw _ (List.mem_of_getElem? (i := 14) rfl))) (by decide) (backOf (W := 0) (rm3 l Z a0 hw [] b1 q0 T3.heap n0 Z3 f3_0 f3_1 g_b1) hZ (hw _ (List.mem_of_getElem? (i := 16) rfl)) (hw _ (List.mem_of_getElem? (i := 3) rfl)) (by decide) (by decide)) q5a q5c (g := (mkF m 16 #[.val (.long q0), .second, .val (.long (-7046029254386353131 : Int64)), .second, .val (.ref b1), .unset, .unset, .unset, .unset, .unset, .unset] [(.ref b1)])) rfl (by rw [hml]; rfl) (Steps.refl _) (argsL := []) (rest := []) (lenOf pd_2 rfl) rfl (by show 2 * 0 + _ ≤ _; exact Nat.le_of_eq rfl) (hb hby at_16) (fun _ _ => ⟨rfl, rfl, (by decide : 0 + 1 + 0 + 0 ≤ _), (by decide : 0 + 1 + 0 + 0 ≤ _)⟩)
  dsimp only [Pt.U, Pt.locs, Pt.cells, Pt.slots] at X5 l5 y5 z5 st5 hQ5
  subst l5 y5 z5
  obtain ⟨rfl, N5q, Kq5, f5_0, f5_1⟩ := hQ5
  have K5 : Keep h0 T5.heap [] := K3.trans Kq5 (allS (Or.inr sz_b1) all0)
  have Z5 : n0 ≤ T5.heap.size := Nat.le_trans Z3 Kq5.1
  have N5 := Fr.app N3 N5q
  refine Go.via (fun t k => st5.trans k) ?_
  show Go p e below _ (T5.setTop (mkF m 19 #[.val (.long q0), .second, .val (.long (-7046029254386353131 : Int64)), .second, .val (.ref b1), .unset, .unset, .unset, .unset, .unset, .unset] [(.long ((w3_1 q0) ^^^ (((w3_1 q0).toUInt64 >>> ((31 : Int32) &&& 0x3f).toInt64.toUInt64).toInt64)))]))
  refine Go.via (T' := T5.setTop (mkF m 23 #[.val (.long q0), .second, .val (.long (-7046029254386353131 : Int64)), .second, .val (.ref b1), .val (.long (w0_0 q0)), .second, .unset, .unset, .unset, .unset] [(.ref b1)])) (fun tZ kZ => ?_) ?_
  · show Steps p.tables e below (T5.setTop (mkF m 19 #[.val (.long q0), .second, .val (.long (-7046029254386353131 : Int64)), .second, .val (.ref b1), .unset, .unset, .unset, .unset, .unset, .unset] [(.long ((w3_1 q0) ^^^ (((w3_1 q0).toUInt64 >>> ((31 : Int32) &&& 0x3f).toInt64.toUInt64).toInt64)))])) _
    refine XS.lstore X5.here hx rfl (hb hby at_19) rfl (l' := #[.val (.long q0), .second, .val (.long (-7046029254386353131 : Int64)), .second, .val (.ref b1), .val (.long (w0_0 q0)), .second, .unset, .unset, .unset, .unset]) rfl ?_
    show Steps p.tables e below (T5.setTop (mkF m 21 #[.val (.long q0), .second, .val (.long (-7046029254386353131 : Int64)), .second, .val (.ref b1), .val (.long (w0_0 q0)), .second, .unset, .unset, .unset, .unset] [])) _
    refine XS.aload X5.here hx rfl (hb hby at_21) rfl rfl ?_
    show Steps p.tables e below (T5.setTop (mkF m 23 #[.val (.long q0), .second, .val (.long (-7046029254386353131 : Int64)), .second, .val (.ref b1), .val (.long (w0_0 q0)), .second, .unset, .unset, .unset, .unset] [(.ref b1)])) _
    exact kZ
  obtain ⟨cq7, kq7, q7a, q7b, q7c⟩ := isOf hZ rfl f5_0
  obtain ⟨_, _, ⟨T7, L7, k7, n7⟩, -, X7, ⟨Lc7, hQ7, l7, y7, z7⟩, st7⟩ := X5.virtualBack hx (y := (⟨"com/example/muster/muster/core/SeededRandom", "nextLong", "()J"⟩ : MethodName)) (z := (⟨"com/example/muster/muster/core/SeededRandom", "nextLong", "()J"⟩ : MethodName)) hown (mvT hZ (hw _ (List.mem_of_getElem? (i := 12) rfl))) (mvT hZ (hw _ (List.mem_of_getElem? (i := 13) rfl))) (notFace_of_selects (args := #[]) (mvT hZ (hw _ (List.mem_of_getElem? (i := 15) rfl)))) (mvT hZ (hw _ (List.mem_of_getElem? (i := 15) rfl))) (mvT hZ (hw _ (List.mem_of_getElem? (i := 14) rfl))) (by decide) (backOf (W := 0) (rm3 l Z a0 hw [] b1 (q0 + (-7046029254386353131 : Int64)) T5.heap n0 Z5 f5_0 f5_1 g_b1) hZ (hw _ (List.mem_of_getElem? (i := 16) rfl)) (hw _ (List.mem_of_getElem? (i := 3) rfl)) (by decide) (by decide)) q7a q7c (g := (mkF m 23 #[.val (.long q0), .second, .val (.long (-7046029254386353131 : Int64)), .second, .val (.ref b1), .val (.long (w0_0 q0)), .second, .unset, .unset, .unset, .unset] [(.ref b1)])) rfl (by rw [hml]; rfl) (Steps.refl _) (argsL := []) (rest := []) (lenOf pd_2 rfl) rfl (by show 2 * 0 + _ ≤ _; exact Nat.le_of_eq rfl) (hb hby at_23) (fun _ _ => ⟨rfl, rfl, (by decide : 0 + 1 + 0 + 0 + 0 ≤ _), (by decide : 0 + 1 + 0 + 0 + 0 ≤ _)⟩)
  dsimp only [Pt.U, Pt.locs, Pt.cells, Pt.slots] at X7 l7 y7 z7 st7 hQ7
  subst l7 y7 z7
  obtain ⟨rfl, N7q, Kq7, f7_0, f7_1⟩ := hQ7
  have K7 : Keep h0 T7.heap [] := K5.trans Kq7 (allS (Or.inr sz_b1) all0)
  have Z7 : n0 ≤ T7.heap.size := Nat.le_trans Z5 Kq7.1
  have N7 := Fr.app N5 N7q
  refine Go.via (fun t k => st7.trans k) ?_
  show Go p e below _ (T7.setTop (mkF m 26 #[.val (.long q0), .second, .val (.long (-7046029254386353131 : Int64)), .second, .val (.ref b1), .val (.long (w0_0 q0)), .second, .unset, .unset, .unset, .unset] [(.long ((w3_1 (q0 + (-7046029254386353131 : Int64))) ^^^ (((w3_1 (q0 + (-7046029254386353131 : Int64))).toUInt64 >>> ((31 : Int32) &&& 0x3f).toInt64.toUInt64).toInt64)))]))
  refine Go.via (T' := T7.setTop (mkF m 30 #[.val (.long q0), .second, .val (.long (-7046029254386353131 : Int64)), .second, .val (.ref b1), .val (.long (w0_0 q0)), .second, .val (.long (w0_1 q0)), .second, .unset, .unset] [(.ref b1)])) (fun tZ kZ => ?_) ?_
  · show Steps p.tables e below (T7.setTop (mkF m 26 #[.val (.long q0), .second, .val (.long (-7046029254386353131 : Int64)), .second, .val (.ref b1), .val (.long (w0_0 q0)), .second, .unset, .unset, .unset, .unset] [(.long ((w3_1 (q0 + (-7046029254386353131 : Int64))) ^^^ (((w3_1 (q0 + (-7046029254386353131 : Int64))).toUInt64 >>> ((31 : Int32) &&& 0x3f).toInt64.toUInt64).toInt64)))])) _
    refine XS.lstore X7.here hx rfl (hb hby at_26) rfl (l' := #[.val (.long q0), .second, .val (.long (-7046029254386353131 : Int64)), .second, .val (.ref b1), .val (.long (w0_0 q0)), .second, .val (.long (w0_1 q0)), .second, .unset, .unset]) rfl ?_
    show Steps p.tables e below (T7.setTop (mkF m 28 #[.val (.long q0), .second, .val (.long (-7046029254386353131 : Int64)), .second, .val (.ref b1), .val (.long (w0_0 q0)), .second, .val (.long (w0_1 q0)), .second, .unset, .unset] [])) _
    refine XS.aload X7.here hx rfl (hb hby at_28) rfl rfl ?_
    show Steps p.tables e below (T7.setTop (mkF m 30 #[.val (.long q0), .second, .val (.long (-7046029254386353131 : Int64)), .second, .val (.ref b1), .val (.long (w0_0 q0)), .second, .val (.long (w0_1 q0)), .second, .unset, .unset] [(.ref b1)])) _
    exact kZ
  obtain ⟨cq9, kq9, q9a, q9b, q9c⟩ := isOf hZ rfl f7_0
  obtain ⟨_, _, ⟨T9, L9, k9, n9⟩, -, X9, ⟨Lc9, hQ9, l9, y9, z9⟩, st9⟩ := X7.virtualBack hx (y := (⟨"com/example/muster/muster/core/SeededRandom", "nextLong", "()J"⟩ : MethodName)) (z := (⟨"com/example/muster/muster/core/SeededRandom", "nextLong", "()J"⟩ : MethodName)) hown (mvT hZ (hw _ (List.mem_of_getElem? (i := 12) rfl))) (mvT hZ (hw _ (List.mem_of_getElem? (i := 13) rfl))) (notFace_of_selects (args := #[]) (mvT hZ (hw _ (List.mem_of_getElem? (i := 15) rfl)))) (mvT hZ (hw _ (List.mem_of_getElem? (i := 15) rfl))) (mvT hZ (hw _ (List.mem_of_getElem? (i := 14) rfl))) (by decide) (backOf (W := 0) (rm3 l Z a0 hw [] b1 ((q0 + (-7046029254386353131 : Int64)) + (-7046029254386353131 : Int64)) T7.heap n0 Z7 f7_0 f7_1 g_b1) hZ (hw _ (List.mem_of_getElem? (i := 16) rfl)) (hw _ (List.mem_of_getElem? (i := 3) rfl)) (by decide) (by decide)) q9a q9c (g := (mkF m 30 #[.val (.long q0), .second, .val (.long (-7046029254386353131 : Int64)), .second, .val (.ref b1), .val (.long (w0_0 q0)), .second, .val (.long (w0_1 q0)), .second, .unset, .unset] [(.ref b1)])) rfl (by rw [hml]; rfl) (Steps.refl _) (argsL := []) (rest := []) (lenOf pd_2 rfl) rfl (by show 2 * 0 + _ ≤ _; exact Nat.le_of_eq rfl) (hb hby at_30) (fun _ _ => ⟨rfl, rfl, (by decide : 0 + 1 + 0 + 0 + 0 + 0 ≤ _), (by decide : 0 + 1 + 0 + 0 + 0 + 0 ≤ _)⟩)
  dsimp only [Pt.U, Pt.locs, Pt.cells, Pt.slots] at X9 l9 y9 z9 st9 hQ9
  subst l9 y9 z9
  obtain ⟨rfl, N9q, Kq9, f9_0, f9_1⟩ := hQ9
  have K9 : Keep h0 T9.heap [] := K7.trans Kq9 (allS (Or.inr sz_b1) all0)
  have Z9 : n0 ≤ T9.heap.size := Nat.le_trans Z7 Kq9.1
  have N9 := Fr.app N7 N9q
  refine Go.via (fun t k => st9.trans k) ?_
  show Go p e below _ (T9.setTop (mkF m 33 #[.val (.long q0), .second, .val (.long (-7046029254386353131 : Int64)), .second, .val (.ref b1), .val (.long (w0_0 q0)), .second, .val (.long (w0_1 q0)), .second, .unset, .unset] [(.long ((w3_1 ((q0 + (-7046029254386353131 : Int64)) + (-7046029254386353131 : Int64))) ^^^ (((w3_1 ((q0 + (-7046029254386353131 : Int64)) + (-7046029254386353131 : Int64))).toUInt64 >>> ((31 : Int32) &&& 0x3f).toInt64.toUInt64).toInt64)))]))
  refine Go.via (T' := T9.setTop (mkF m 37 #[.val (.long q0), .second, .val (.long (-7046029254386353131 : Int64)), .second, .val (.ref b1), .val (.long (w0_0 q0)), .second, .val (.long (w0_1 q0)), .second, .val (.long (w0_2 q0)), .second] [(.long (w0_0 q0))])) (fun tZ kZ => ?_) ?_
  · show Steps p.tables e below (T9.setTop (mkF m 33 #[.val (.long q0), .second, .val (.long (-7046029254386353131 : Int64)), .second, .val (.ref b1), .val (.long (w0_0 q0)), .second, .val (.long (w0_1 q0)), .second, .unset, .unset] [(.long ((w3_1 ((q0 + (-7046029254386353131 : Int64)) + (-7046029254386353131 : Int64))) ^^^ (((w3_1 ((q0 + (-7046029254386353131 : Int64)) + (-7046029254386353131 : Int64))).toUInt64 >>> ((31 : Int32) &&& 0x3f).toInt64.toUInt64).toInt64)))])) _
    refine XS.lstore X9.here hx rfl (hb hby at_33) rfl (l' := #[.val (.long q0), .second, .val (.long (-7046029254386353131 : Int64)), .second, .val (.ref b1), .val (.long (w0_0 q0)), .second, .val (.long (w0_1 q0)), .second, .val (.long (w0_2 q0)), .second]) rfl ?_
    show Steps p.tables e below (T9.setTop (mkF m 35 #[.val (.long q0), .second, .val (.long (-7046029254386353131 : Int64)), .second, .val (.ref b1), .val (.long (w0_0 q0)), .second, .val (.long (w0_1 q0)), .second, .val (.long (w0_2 q0)), .second] [])) _
    refine XS.lload X9.here hx rfl (hb hby at_35) rfl ?_
    show Steps p.tables e below (T9.setTop (mkF m 37 #[.val (.long q0), .second, .val (.long (-7046029254386353131 : Int64)), .second, .val (.ref b1), .val (.long (w0_0 q0)), .second, .val (.long (w0_1 q0)), .second, .val (.long (w0_2 q0)), .second] [(.long (w0_0 q0))])) _
    exact kZ
  obtain ⟨_, _, ⟨T11, L11, k11, n11⟩, -, X11, ⟨Lc11, hQ11, l11, y11, z11⟩, st11⟩ := Jvm.LawKit.callS X9 hx (y := (⟨"com/example/muster/muster/core/SeededRandomNextLongPinLaw", "unmix", "(J)J"⟩ : MethodName)) hown (mvT hZ (hw _ (List.mem_of_getElem? (i := 20) rfl))) (mvT hZ (hw _ (List.mem_of_getElem? (i := 21) rfl))) (mvT hZ (hw _ (List.mem_of_getElem? (i := 22) rfl))) (mvT hZ (hw _ (List.mem_of_getElem? (i := 23) rfl))) (by decide) (backOf (W := 0) (rm4 l Z a0 hw [] (w0_0 q0) T9.heap n0 Z9 ) hZ (hw _ (List.mem_of_getElem? (i := 23) rfl)) (hw _ (List.mem_of_getElem? (i := 22) rfl)) (by decide) (by decide)) (g := (mkF m 37 #[.val (.long q0), .second, .val (.long (-7046029254386353131 : Int64)), .second, .val (.ref b1), .val (.long (w0_0 q0)), .second, .val (.long (w0_1 q0)), .second, .val (.long (w0_2 q0)), .second] [(.long (w0_0 q0))])) rfl (by rw [hml]; rfl) (argsL := [(.long (w0_0 q0))]) (rest := []) (lenOf pd_3 rfl) rfl (by show 2 * 0 + _ ≤ _; exact Nat.le_of_eq rfl) (hb hby at_37) (fun _ _ => ⟨rfl, rfl, (by decide : 0 + 1 + 0 + 0 + 0 + 0 + 0 ≤ _), (by decide : 0 + 1 + 0 + 0 + 0 + 0 + 0 ≤ _)⟩)
  dsimp only [Pt.U, Pt.locs, Pt.cells, Pt.slots] at X11 l11 y11 z11 st11 hQ11
  subst l11 y11 z11
  obtain ⟨rfl, N11q, e11⟩ := hQ11
  have N11 := Fr.app N9 N11q
  refine Go.via st11 ?_
  show Go p e below _ (T11.setTop (mkF m 40 #[.val (.long q0), .second, .val (.long (-7046029254386353131 : Int64)), .second, .val (.ref b1), .val (.long (w0_0 q0)), .second, .val (.long (w0_1 q0)), .second, .val (.long (w0_2 q0)), .second] [(.long (f4 (w0_0 q0)))]))
  refine Go.via (T' := T11.setTop (mkF m 49 #[.val (.long q0), .second, .val (.long (-7046029254386353131 : Int64)), .second, .val (.ref b1), .val (.long (w0_0 q0)), .second, .val (.long (w0_1 q0)), .second, .val (.long (w0_2 q0)), .second] [(.long (w0_1 q0))])) (fun tZ kZ => ?_) ?_
  · show Steps p.tables e below (T11.setTop (mkF m 40 #[.val (.long q0), .second, .val (.long (-7046029254386353131 : Int64)), .second, .val (.ref b1), .val (.long (w0_0 q0)), .second, .val (.long (w0_1 q0)), .second, .val (.long (w0_2 q0)), .second] [(.long (f4 (w0_0 q0)))])) _
    refine XS.lloadN X11.here hx rfl (hb hby at_40) rfl ?_
    show Steps p.tables e below (T11.setTop (mkF m 41 #[.val (.long q0), .second, .val (.long (-7046029254386353131 : Int64)), .second, .val (.ref b1), .val (.long (w0_0 q0)), .second, .val (.long (w0_1 q0)), .second, .val (.long (w0_2 q0)), .second] [(.long q0), (.long (f4 (w0_0 q0)))])) _
    refine XS.lloadN X11.here hx rfl (hb hby at_41) rfl ?_
    show Steps p.tables e below (T11.setTop (mkF m 42 #[.val (.long q0), .second, .val (.long (-7046029254386353131 : Int64)), .second, .val (.ref b1), .val (.long (w0_0 q0)), .second, .val (.long (w0_1 q0)), .second, .val (.long (w0_2 q0)), .second] [(.long (-7046029254386353131 : Int64)), (.long q0), (.long (f4 (w0_0 q0)))])) _
    refine XS.ladd X11.here hx rfl (hb hby at_42) rfl ?_
    show Steps p.tables e below (T11.setTop (mkF m 43 #[.val (.long q0), .second, .val (.long (-7046029254386353131 : Int64)), .second, .val (.ref b1), .val (.long (w0_0 q0)), .second, .val (.long (w0_1 q0)), .second, .val (.long (w0_2 q0)), .second] [(.long (q0 + (-7046029254386353131 : Int64))), (.long (f4 (w0_0 q0)))])) _
    refine XS.lcmp X11.here hx rfl (hb hby at_43) rfl ?_
    show Steps p.tables e below (T11.setTop (mkF m 44 #[.val (.long q0), .second, .val (.long (-7046029254386353131 : Int64)), .second, .val (.ref b1), .val (.long (w0_0 q0)), .second, .val (.long (w0_1 q0)), .second, .val (.long (w0_2 q0)), .second] [(.int (lcmpW (f4 (w0_0 q0)) (q0 + (-7046029254386353131 : Int64))))])) _
    refine XS.ifNo X11.here hx rfl (hb hby at_44) rfl ((if0 _ _).trans (teq ((lw_eq _ _).mpr (own_1 _))).2) ?_
    show Steps p.tables e below (T11.setTop (mkF m 47 #[.val (.long q0), .second, .val (.long (-7046029254386353131 : Int64)), .second, .val (.ref b1), .val (.long (w0_0 q0)), .second, .val (.long (w0_1 q0)), .second, .val (.long (w0_2 q0)), .second] [])) _
    refine XS.lload X11.here hx rfl (hb hby at_47) rfl ?_
    show Steps p.tables e below (T11.setTop (mkF m 49 #[.val (.long q0), .second, .val (.long (-7046029254386353131 : Int64)), .second, .val (.ref b1), .val (.long (w0_0 q0)), .second, .val (.long (w0_1 q0)), .second, .val (.long (w0_2 q0)), .second] [(.long (w0_1 q0))])) _
    exact kZ
  obtain ⟨_, _, ⟨T12, L12, k12, n12⟩, -, X12, ⟨Lc12, hQ12, l12, y12, z12⟩, st12⟩ := Jvm.LawKit.callS X11 hx (y := (⟨"com/example/muster/muster/core/SeededRandomNextLongPinLaw", "unmix", "(J)J"⟩ : MethodName)) hown (mvT hZ (hw _ (List.mem_of_getElem? (i := 20) rfl))) (mvT hZ (hw _ (List.mem_of_getElem? (i := 21) rfl))) (mvT hZ (hw _ (List.mem_of_getElem? (i := 22) rfl))) (mvT hZ (hw _ (List.mem_of_getElem? (i := 23) rfl))) (by decide) (backOf (W := 0) (rm4 l Z a0 hw [] (w0_1 q0) T9.heap n0 Z9 ) hZ (hw _ (List.mem_of_getElem? (i := 23) rfl)) (hw _ (List.mem_of_getElem? (i := 22) rfl)) (by decide) (by decide)) (g := (mkF m 49 #[.val (.long q0), .second, .val (.long (-7046029254386353131 : Int64)), .second, .val (.ref b1), .val (.long (w0_0 q0)), .second, .val (.long (w0_1 q0)), .second, .val (.long (w0_2 q0)), .second] [(.long (w0_1 q0))])) rfl (by rw [hml]; rfl) (argsL := [(.long (w0_1 q0))]) (rest := []) (lenOf pd_3 rfl) rfl (by show 2 * 0 + _ ≤ _; exact Nat.le_of_eq rfl) (hb hby at_49) (fun _ _ => ⟨rfl, e11, (by decide : 0 + 1 + 0 + 0 + 0 + 0 + 0 + 0 ≤ _), (by decide : 0 + 1 + 0 + 0 + 0 + 0 + 0 + 0 ≤ _)⟩)
  dsimp only [Pt.U, Pt.locs, Pt.cells, Pt.slots] at X12 l12 y12 z12 st12 hQ12
  subst l12 y12 z12
  obtain ⟨rfl, N12q, e12⟩ := hQ12
  have N12 := Fr.app N11 N12q
  refine Go.via st12 ?_
  show Go p e below _ (T12.setTop (mkF m 52 #[.val (.long q0), .second, .val (.long (-7046029254386353131 : Int64)), .second, .val (.ref b1), .val (.long (w0_0 q0)), .second, .val (.long (w0_1 q0)), .second, .val (.long (w0_2 q0)), .second] [(.long (f4 (w0_1 q0)))]))
  refine Go.via (T' := T12.setTop (mkF m 65 #[.val (.long q0), .second, .val (.long (-7046029254386353131 : Int64)), .second, .val (.ref b1), .val (.long (w0_0 q0)), .second, .val (.long (w0_1 q0)), .second, .val (.long (w0_2 q0)), .second] [(.long (w0_2 q0))])) (fun tZ kZ => ?_) ?_
  · show Steps p.tables e below (T12.setTop (mkF m 52 #[.val (.long q0), .second, .val (.long (-7046029254386353131 : Int64)), .second, .val (.ref b1), .val (.long (w0_0 q0)), .second, .val (.long (w0_1 q0)), .second, .val (.long (w0_2 q0)), .second] [(.long (f4 (w0_1 q0)))])) _
    refine XS.lloadN X12.here hx rfl (hb hby at_52) rfl ?_
    show Steps p.tables e below (T12.setTop (mkF m 53 #[.val (.long q0), .second, .val (.long (-7046029254386353131 : Int64)), .second, .val (.ref b1), .val (.long (w0_0 q0)), .second, .val (.long (w0_1 q0)), .second, .val (.long (w0_2 q0)), .second] [(.long q0), (.long (f4 (w0_1 q0)))])) _
    refine X12.ldc2Long hx hown (mvT hZ (hw _ (List.mem_of_getElem? (i := 28) rfl))) (g := (mkF m 53 #[.val (.long q0), .second, .val (.long (-7046029254386353131 : Int64)), .second, .val (.ref b1), .val (.long (w0_0 q0)), .second, .val (.long (w0_1 q0)), .second, .val (.long (w0_2 q0)), .second] [(.long q0), (.long (f4 (w0_1 q0)))])) rfl (hb hby at_53) _ ?_
    show Steps p.tables e below (T12.setTop (mkF m 56 #[.val (.long q0), .second, .val (.long (-7046029254386353131 : Int64)), .second, .val (.ref b1), .val (.long (w0_0 q0)), .second, .val (.long (w0_1 q0)), .second, .val (.long (w0_2 q0)), .second] [(.long (2 : Int64)), (.long q0), (.long (f4 (w0_1 q0)))])) _
    refine XS.lloadN X12.here hx rfl (hb hby at_56) rfl ?_
    show Steps p.tables e below (T12.setTop (mkF m 57 #[.val (.long q0), .second, .val (.long (-7046029254386353131 : Int64)), .second, .val (.ref b1), .val (.long (w0_0 q0)), .second, .val (.long (w0_1 q0)), .second, .val (.long (w0_2 q0)), .second] [(.long (-7046029254386353131 : Int64)), (.long (2 : Int64)), (.long q0), (.long (f4 (w0_1 q0)))])) _
    refine XS.lmul X12.here hx rfl (hb hby at_57) rfl ?_
    show Steps p.tables e below (T12.setTop (mkF m 58 #[.val (.long q0), .second, .val (.long (-7046029254386353131 : Int64)), .second, .val (.ref b1), .val (.long (w0_0 q0)), .second, .val (.long (w0_1 q0)), .second, .val (.long (w0_2 q0)), .second] [(.long ((2 : Int64) * (-7046029254386353131 : Int64))), (.long q0), (.long (f4 (w0_1 q0)))])) _
    refine XS.ladd X12.here hx rfl (hb hby at_58) rfl ?_
    show Steps p.tables e below (T12.setTop (mkF m 59 #[.val (.long q0), .second, .val (.long (-7046029254386353131 : Int64)), .second, .val (.ref b1), .val (.long (w0_0 q0)), .second, .val (.long (w0_1 q0)), .second, .val (.long (w0_2 q0)), .second] [(.long (q0 + ((2 : Int64) * (-7046029254386353131 : Int64)))), (.long (f4 (w0_1 q0)))])) _
    refine XS.lcmp X12.here hx rfl (hb hby at_59) rfl ?_
    show Steps p.tables e below (T12.setTop (mkF m 60 #[.val (.long q0), .second, .val (.long (-7046029254386353131 : Int64)), .second, .val (.ref b1), .val (.long (w0_0 q0)), .second, .val (.long (w0_1 q0)), .second, .val (.long (w0_2 q0)), .second] [(.int (lcmpW (f4 (w0_1 q0)) (q0 + ((2 : Int64) * (-7046029254386353131 : Int64)))))])) _
    refine XS.ifNo X12.here hx rfl (hb hby at_60) rfl ((if0 _ _).trans (teq ((lw_eq _ _).mpr (own_2 _))).2) ?_
    show Steps p.tables e below (T12.setTop (mkF m 63 #[.val (.long q0), .second, .val (.long (-7046029254386353131 : Int64)), .second, .val (.ref b1), .val (.long (w0_0 q0)), .second, .val (.long (w0_1 q0)), .second, .val (.long (w0_2 q0)), .second] [])) _
    refine XS.lload X12.here hx rfl (hb hby at_63) rfl ?_
    show Steps p.tables e below (T12.setTop (mkF m 65 #[.val (.long q0), .second, .val (.long (-7046029254386353131 : Int64)), .second, .val (.ref b1), .val (.long (w0_0 q0)), .second, .val (.long (w0_1 q0)), .second, .val (.long (w0_2 q0)), .second] [(.long (w0_2 q0))])) _
    exact kZ
  obtain ⟨_, _, ⟨T13, L13, k13, n13⟩, -, X13, ⟨Lc13, hQ13, l13, y13, z13⟩, st13⟩ := Jvm.LawKit.callS X12 hx (y := (⟨"com/example/muster/muster/core/SeededRandomNextLongPinLaw", "unmix", "(J)J"⟩ : MethodName)) hown (mvT hZ (hw _ (List.mem_of_getElem? (i := 20) rfl))) (mvT hZ (hw _ (List.mem_of_getElem? (i := 21) rfl))) (mvT hZ (hw _ (List.mem_of_getElem? (i := 22) rfl))) (mvT hZ (hw _ (List.mem_of_getElem? (i := 23) rfl))) (by decide) (backOf (W := 0) (rm4 l Z a0 hw [] (w0_2 q0) T9.heap n0 Z9 ) hZ (hw _ (List.mem_of_getElem? (i := 23) rfl)) (hw _ (List.mem_of_getElem? (i := 22) rfl)) (by decide) (by decide)) (g := (mkF m 65 #[.val (.long q0), .second, .val (.long (-7046029254386353131 : Int64)), .second, .val (.ref b1), .val (.long (w0_0 q0)), .second, .val (.long (w0_1 q0)), .second, .val (.long (w0_2 q0)), .second] [(.long (w0_2 q0))])) rfl (by rw [hml]; rfl) (argsL := [(.long (w0_2 q0))]) (rest := []) (lenOf pd_3 rfl) rfl (by show 2 * 0 + _ ≤ _; exact Nat.le_of_eq rfl) (hb hby at_65) (fun _ _ => ⟨rfl, e12, (by decide : 0 + 1 + 0 + 0 + 0 + 0 + 0 + 0 + 0 ≤ _), (by decide : 0 + 1 + 0 + 0 + 0 + 0 + 0 + 0 + 0 ≤ _)⟩)
  dsimp only [Pt.U, Pt.locs, Pt.cells, Pt.slots] at X13 l13 y13 z13 st13 hQ13
  subst l13 y13 z13
  obtain ⟨rfl, N13q, e13⟩ := hQ13
  have N13 := Fr.app N12 N13q
  refine Go.via st13 ?_
  show Go p e below _ (T13.setTop (mkF m 68 #[.val (.long q0), .second, .val (.long (-7046029254386353131 : Int64)), .second, .val (.ref b1), .val (.long (w0_0 q0)), .second, .val (.long (w0_1 q0)), .second, .val (.long (w0_2 q0)), .second] [(.long (f4 (w0_2 q0)))]))
  refine Go.via (T' := T13.setTop (mkF m 84 #[.val (.long q0), .second, .val (.long (-7046029254386353131 : Int64)), .second, .val (.ref b1), .val (.long (w0_0 q0)), .second, .val (.long (w0_1 q0)), .second, .val (.long (w0_2 q0)), .second] [(.int (1 : Int32))])) (fun tZ kZ => ?_) ?_
  · show Steps p.tables e below (T13.setTop (mkF m 68 #[.val (.long q0), .second, .val (.long (-7046029254386353131 : Int64)), .second, .val (.ref b1), .val (.long (w0_0 q0)), .second, .val (.long (w0_1 q0)), .second, .val (.long (w0_2 q0)), .second] [(.long (f4 (w0_2 q0)))])) _
    refine XS.lloadN X13.here hx rfl (hb hby at_68) rfl ?_
    show Steps p.tables e below (T13.setTop (mkF m 69 #[.val (.long q0), .second, .val (.long (-7046029254386353131 : Int64)), .second, .val (.ref b1), .val (.long (w0_0 q0)), .second, .val (.long (w0_1 q0)), .second, .val (.long (w0_2 q0)), .second] [(.long q0), (.long (f4 (w0_2 q0)))])) _
    refine X13.ldc2Long hx hown (mvT hZ (hw _ (List.mem_of_getElem? (i := 30) rfl))) (g := (mkF m 69 #[.val (.long q0), .second, .val (.long (-7046029254386353131 : Int64)), .second, .val (.ref b1), .val (.long (w0_0 q0)), .second, .val (.long (w0_1 q0)), .second, .val (.long (w0_2 q0)), .second] [(.long q0), (.long (f4 (w0_2 q0)))])) rfl (hb hby at_69) _ ?_
    show Steps p.tables e below (T13.setTop (mkF m 72 #[.val (.long q0), .second, .val (.long (-7046029254386353131 : Int64)), .second, .val (.ref b1), .val (.long (w0_0 q0)), .second, .val (.long (w0_1 q0)), .second, .val (.long (w0_2 q0)), .second] [(.long (3 : Int64)), (.long q0), (.long (f4 (w0_2 q0)))])) _
    refine XS.lloadN X13.here hx rfl (hb hby at_72) rfl ?_
    show Steps p.tables e below (T13.setTop (mkF m 73 #[.val (.long q0), .second, .val (.long (-7046029254386353131 : Int64)), .second, .val (.ref b1), .val (.long (w0_0 q0)), .second, .val (.long (w0_1 q0)), .second, .val (.long (w0_2 q0)), .second] [(.long (-7046029254386353131 : Int64)), (.long (3 : Int64)), (.long q0), (.long (f4 (w0_2 q0)))])) _
    refine XS.lmul X13.here hx rfl (hb hby at_73) rfl ?_
    show Steps p.tables e below (T13.setTop (mkF m 74 #[.val (.long q0), .second, .val (.long (-7046029254386353131 : Int64)), .second, .val (.ref b1), .val (.long (w0_0 q0)), .second, .val (.long (w0_1 q0)), .second, .val (.long (w0_2 q0)), .second] [(.long ((3 : Int64) * (-7046029254386353131 : Int64))), (.long q0), (.long (f4 (w0_2 q0)))])) _
    refine XS.ladd X13.here hx rfl (hb hby at_74) rfl ?_
    show Steps p.tables e below (T13.setTop (mkF m 75 #[.val (.long q0), .second, .val (.long (-7046029254386353131 : Int64)), .second, .val (.ref b1), .val (.long (w0_0 q0)), .second, .val (.long (w0_1 q0)), .second, .val (.long (w0_2 q0)), .second] [(.long (q0 + ((3 : Int64) * (-7046029254386353131 : Int64)))), (.long (f4 (w0_2 q0)))])) _
    refine XS.lcmp X13.here hx rfl (hb hby at_75) rfl ?_
    show Steps p.tables e below (T13.setTop (mkF m 76 #[.val (.long q0), .second, .val (.long (-7046029254386353131 : Int64)), .second, .val (.ref b1), .val (.long (w0_0 q0)), .second, .val (.long (w0_1 q0)), .second, .val (.long (w0_2 q0)), .second] [(.int (lcmpW (f4 (w0_2 q0)) (q0 + ((3 : Int64) * (-7046029254386353131 : Int64)))))])) _
    refine XS.ifNo X13.here hx rfl (hb hby at_76) rfl ((if0 _ _).trans (teq ((lw_eq _ _).mpr (own_3 _))).2) ?_
    show Steps p.tables e below (T13.setTop (mkF m 79 #[.val (.long q0), .second, .val (.long (-7046029254386353131 : Int64)), .second, .val (.ref b1), .val (.long (w0_0 q0)), .second, .val (.long (w0_1 q0)), .second, .val (.long (w0_2 q0)), .second] [])) _
    refine XS.iconst X13.here hx rfl (hb hby at_79) ?_
    show Steps p.tables e below (T13.setTop (mkF m 80 #[.val (.long q0), .second, .val (.long (-7046029254386353131 : Int64)), .second, .val (.ref b1), .val (.long (w0_0 q0)), .second, .val (.long (w0_1 q0)), .second, .val (.long (w0_2 q0)), .second] [(.int (1 : Int32))])) _
    refine XS.goto X13.here hx rfl (pc0 := 80) (pc' := 84) rfl (hb hby at_80) (by decide) (by decide) ?_
    show Steps p.tables e below (T13.setTop (mkF m 84 #[.val (.long q0), .second, .val (.long (-7046029254386353131 : Int64)), .second, .val (.ref b1), .val (.long (w0_0 q0)), .second, .val (.long (w0_1 q0)), .second, .val (.long (w0_2 q0)), .second] [(.int (1 : Int32))])) _
    exact kZ
  refine Go.retN X13 hx Bd.notSynchronized (t := .boolean) Bd.returns (by simp) (hb hby at_84) (by decide) (by decide) ?_
  exact ⟨rfl, N13⟩
set_option maxRecDepth 65536 in
set_option maxHeartbeats 40000000 in
theorem comes_1 {Post : Tables → Env → Array Value → State → Outcome → State → Prop} (hpost : ∀ tb e args s v u, (limb_1_1.after args s (.returned v) u = true ∧ limb_1_2.after args s (.returned v) u = true ∧ True) → FrameEnd s (.returned v) u (Jvm.fieldLocs frame_1_writes args s ++ Jvm.arrayLocs frame_1_arrays args s ++ Jvm.staticLocs frame_1_statics s) 16 128 → Post tb e args s (.returned v) u) :
    ArmFor flags0 classFile x code maxLocals ret World_1 tables_1 room_1 Calls_1 rest_1 Pre_1 Post := by
  intro l hfl _ _ p e ha hc hk s m args below hf hA hF happ hP
  obtain ⟨hcalls, hrest, hpre⟩ := hP
  obtain ⟨-, -, -, hnamed, -, -, -, hat⟩ := (Spec.applies_iff hf).mp happ
  obtain ⟨hg, hn⟩ := and_e (Cond.before_iff.mp (show (Jvm.Cond.and given_1 narrow_1).before args s = true from hpre))
  obtain ⟨g1, g2⟩ := and_e hg
  obtain ⟨w0, rfl⟩ : ∃ w0 : Value, args = #[w0] := by
    have hs : args.size = 1 := by simpa [Cond.value, given_1] using g1
    obtain ⟨L⟩ := args
    match L, hs with
    | [w0], _ => exact ⟨w0, rfl⟩
  have hw := fun d (hd : d ∈ tables_1) => atoms_spec (ws := Jvm.Cond.code x code maxLocals ret :: tables_1) hat d (List.mem_cons_of_mem _ hd)
  have hfit : Fit s := fun {y c} hc i hi => by
    obtain ⟨ha, rfl⟩ := Array.getElem?_eq_some_iff.mp hc
    have q := List.all_eq_true.mp ((Array.all_eq_true_iff_forall_mem.mp hF) _ (Array.getElem_mem ha)) i (List.mem_range.mpr hi)
    simpa [Array.getElem?_eq_getElem hi] using q
  obtain ⟨i0, ei0⟩ := isL_v g2
  obtain rfl : w0 = (.long i0) := Option.some.inj ei0

  obtain ⟨n, o, h1, h2, h3, _, L, rfl, ⟨rfl, N⟩, hq⟩ := rm0 l s _ hw tables_1 i0  s.heap s.heap.size (Nat.le_refl _) p e ha hc hk s m _ below hf ((Spec.applies_iff_loose hf).mp happ).1 ⟨rfl, State.Warmed39.refl s, rfl⟩ trivial
  refine ⟨n, _, h1, h2, h3, hpost _ _ _ _ _ _ ⟨Cond.after_iff.mpr rfl, Cond.after_iff.mpr (eq_i res_at (Term.int_eval (1)) rfl), trivial⟩ ⟨hq.1, hq.2.1, (hq.2.2.sift fun y hy => Or.inr (N y hy)).mono (by decide) (by decide)⟩⟩
theorem main_1_1 : Claimed_1_1 := comes_1 fun _ _ _ _ _ _ h hF => ⟨h.1, hF⟩
theorem main_1_2 : Claimed_1_2 := comes_1 fun _ _ _ _ _ _ h hF => ⟨h.2.1, hF⟩
end Jvm.Pilot.@@N@@
namespace Jvm.Pilot.@@N@@
open Jvm Jvm.ClassFile Sem Op Lib Jvm.Free Jvm.Stand Jvm.Pilot.@@N@@.Jvm.D
/-! MADE BY PROGRAM (witnessworld.py) out of the Statement's table words and the real class files: 9 classes; the members and pool entries that the words name. The judged class is class 1, her method 3. -/
namespace start1
open Jvm.ClassFile
def u (s : String) : CpInfo := .utf8 (stringToUtf16 s)
/-- a pool by its gaps: so many unusable entries, then the entry; so many at the end -/
def gap : Nat → List CpInfo → List CpInfo
  | 0, r => r
  | n + 1, r => .unusable :: gap n r
def poolList (es : List (Nat × CpInfo)) (last : Nat) : List CpInfo := es.foldr (fun e r => gap e.1 (e.2 :: r)) (gap last [])
def pool (es : List (Nat × CpInfo)) (last : Nat) : Array CpInfo := ⟨poolList es last⟩
def fileOf (pool : Array CpInfo) (this : Nat) (attrs : Array Attribute := #[]) (ms : Array MethodInfo := #[]) (fl : Nat := 33) (sup : Nat := 0) (ifs : Array Nat := #[]) (fds : Array FieldInfo := #[]) : ClassFile where
  minorVersion := 0
  majorVersion := 65
  constantPool := pool
  accessFlags := fl
  thisClass := this
  superClass := sup
  interfaces := ifs
  fields := fds
  methods := ms
  attributes := attrs
def plain (name : String) (sup : Option ClassId) : Class where
  name := name
  kind := .ordinary
  loader := none
  accessFlags := 33
  super := sup
  interfaces := #[]
  cf := none
  fields := #[]
  methods := #[]
  instanceTypes := #[]
  staticTypes := #[]
  resolved := #[]
  callSites := []
  init := .initialized
  statics := none
  mirror := none

def pool0 : Array CpInfo := pool [(5, u "<init>"), (0, u "()V"), (1, .class_ 10), (1, u "java/lang/Object")] 113

def k0c0 : Code := { maxStack := 0, maxLocals := 1, code := object_method_1_code, exceptionTable := #[], attributes := #[] }
def k0m0 : Method := { name := "<init>", desc := "()V", sig := { parameters := [], returnType := none }, accessFlags := 1, code := some k0c0 }
/-- java/lang/Object -/
def k0 : Class := { plain "java/lang/Object" none with
  accessFlags := 33
  interfaces := #[]
  cf := some (fileOf pool0 8 #[] #[{ accessFlags := 1, nameIndex := 5, descriptorIndex := 6, attributes := #[] }] 33 0 #[] #[])
  fields := #[]
  methods := #[k0m0]
  instanceTypes := #[]
  staticTypes := #[]
  resolved := Array.replicate 124 none
  statics := none }

def pool1 : Array CpInfo := pool [(2, .class_ 4), (1, u "java/lang/Object"), (0, u "<init>"), (0, u "()V"), (0, .long 2), (1, .long 10723151780598845931), (1, .methodref 12 13), (0, .class_ 14), (0, .nameAndType 15 16), (0, u "com/example/muster/muster/core/SeededRandomNextLongPinLaw"), (0, u "inverseOdd"), (0, u "(J)J"), (0, .long 13787848793156543929), (1, .long 11400714819323198485), (1, .class_ 22), (0, u "com/example/muster/muster/core/SeededRandom"), (0, .methodref 21 24), (0, .nameAndType 5 25), (0, u "(J)V"), (0, .methodref 21 27), (0, .nameAndType 28 29), (0, u "nextLong"), (0, u "()J"), (0, .methodref 12 31), (0, .nameAndType 32 16), (0, u "unmix"), (0, .long 3), (3, u "law"), (0, u "(J)Z")] 3

def k1m0 : Method := { name := "<init>", desc := "()V", sig := { parameters := [], returnType := none }, accessFlags := 1, code := none }
def k1c1 : Code := { maxStack := 8, maxLocals := 4, code := method_2_code, exceptionTable := #[], attributes := #[] }
def k1m1 : Method := { name := "inverseOdd", desc := "(J)J", sig := { parameters := [.long], returnType := some .long }, accessFlags := 10, code := some k1c1 }
def k1c2 : Code := { maxStack := 5, maxLocals := 4, code := method_3_code, exceptionTable := #[], attributes := #[] }
def k1m2 : Method := { name := "unmix", desc := "(J)J", sig := { parameters := [.long], returnType := some .long }, accessFlags := 10, code := some k1c2 }
def k1c3 : Code := { maxStack := 8, maxLocals := 11, code := code, exceptionTable := #[], attributes := #[] }
def k1m3 : Method := { name := "law", desc := "(J)Z", sig := { parameters := [.long], returnType := some .boolean }, accessFlags := 9, code := some k1c3 }
/-- com/example/muster/muster/core/SeededRandomNextLongPinLaw -/
def k1 : Class := { plain "com/example/muster/muster/core/SeededRandomNextLongPinLaw" (some 0) with
  accessFlags := 49
  interfaces := #[]
  cf := some (fileOf pool1 12 #[] #[{ accessFlags := 1, nameIndex := 5, descriptorIndex := 6, attributes := #[] }, { accessFlags := 10, nameIndex := 15, descriptorIndex := 16, attributes := #[] }, { accessFlags := 10, nameIndex := 32, descriptorIndex := 16, attributes := #[] }, { accessFlags := 9, nameIndex := 37, descriptorIndex := 38, attributes := #[] }] 49 2 #[] #[])
  fields := #[]
  methods := #[k1m0, k1m1, k1m2, k1m3]
  instanceTypes := #[]
  staticTypes := #[]
  resolved := Array.replicate 42 none
  statics := none }

def pool2 : Array CpInfo := pool [(1, .methodref 2 3), (0, .class_ 4), (0, .nameAndType 5 6), (0, u "java/lang/Object"), (0, u "<init>"), (0, u "()V"), (0, .fieldref 8 9), (0, .class_ 10), (0, .nameAndType 11 12), (0, u "com/example/muster/muster/core/SeededRandom"), (0, u "state"), (0, u "J"), (0, .long 11400714819323198485), (1, .long 13787848793156543929), (1, .long 10723151780598845931), (14, u "nextLong"), (0, u "()J"), (26, u "GAMMA"), (1, u "TWO_TO_32"), (0, u "(J)V")] 31

def k2c0 : Code := { maxStack := 3, maxLocals := 3, code := prog_34_method_1_code, exceptionTable := #[], attributes := #[] }
def k2m0 : Method := { name := "<init>", desc := "(J)V", sig := { parameters := [.long], returnType := none }, accessFlags := 1, code := some k2c0 }
def k2c1 : Code := { maxStack := 5, maxLocals := 3, code := prog_34_method_2_code, exceptionTable := #[], attributes := #[] }
def k2m1 : Method := { name := "nextLong", desc := "()J", sig := { parameters := [], returnType := some .long }, accessFlags := 1, code := some k2c1 }
/-- com/example/muster/muster/core/SeededRandom -/
def k2 : Class := { plain "com/example/muster/muster/core/SeededRandom" (some 0) with
  accessFlags := 49
  interfaces := #[]
  cf := some (fileOf pool2 8 #[] #[{ accessFlags := 1, nameIndex := 5, descriptorIndex := 63, attributes := #[] }, { accessFlags := 1, nameIndex := 32, descriptorIndex := 33, attributes := #[] }] 49 2 #[] #[{ accessFlags := 26, nameIndex := 60, descriptorIndex := 12, attributes := #[] }, { accessFlags := 26, nameIndex := 62, descriptorIndex := 12, attributes := #[] }, { accessFlags := 2, nameIndex := 11, descriptorIndex := 12, attributes := #[] }])
  fields := #[{ name := "GAMMA", type := .long, accessFlags := 26, slot := 0, constantValue := 0 }, { name := "TWO_TO_32", type := .long, accessFlags := 26, slot := 1, constantValue := 0 }, { name := "state", type := .long, accessFlags := 2, slot := 0, constantValue := 0 }]
  methods := #[k2m0, k2m1]
  instanceTypes := #[.long]
  staticTypes := #[.long, .long]
  resolved := Array.replicate 95 none
  statics := none }

def pool3 : Array CpInfo := pool [(1, u "java/lang/Cloneable"), (0, .class_ 1), (0, u "java/lang/Object"), (0, .class_ 3)] 3

/-- java/lang/Cloneable -/
def k3 : Class := { plain "java/lang/Cloneable" (some 0) with
  accessFlags := 1537
  interfaces := #[]
  cf := some (fileOf pool3 2 #[] #[] 1537 4 #[] #[])
  fields := #[]
  methods := #[]
  instanceTypes := #[]
  staticTypes := #[]
  resolved := Array.replicate 8 none
  statics := none }

def pool4 : Array CpInfo := pool [(1, u "java/io/Serializable"), (0, .class_ 1), (0, u "java/lang/Object"), (0, .class_ 3)] 3

/-- java/io/Serializable -/
def k4 : Class := { plain "java/io/Serializable" (some 0) with
  accessFlags := 1537
  interfaces := #[]
  cf := some (fileOf pool4 2 #[] #[] 1537 4 #[] #[])
  fields := #[]
  methods := #[]
  instanceTypes := #[]
  staticTypes := #[]
  resolved := Array.replicate 8 none
  statics := none }

/-- the primitive byte -/
def k5 : Class := { plain "byte" none with kind := .primitive 'B', accessFlags := 0x411 }
/-- [B -/
def k6 : Class := { plain "[B" (some 0) with kind := .array 5 .byte, interfaces := #[3, 4], accessFlags := 1041 }

/-- the primitive int -/
def k7 : Class := { plain "int" none with kind := .primitive 'I', accessFlags := 0x411 }
/-- [I -/
def k8 : Class := { plain "[I" (some 0) with kind := .array 7 .int, interfaces := #[3, 4], accessFlags := 1041 }

def heap : Heap := #[]
def classes : Array Class := #[k0, k1, k2, k3, k4, k5, k6, k7, k8]
def interned : List (Array UInt16 × Addr) := []
def slotsUsed : Nat := 0
def theMethod : MethodId := ⟨1, 3⟩
def args0 : Array Value := #[.long 5]
def aboutOver (below : List Frame) : State where
  vm := { classes := classes, interned := interned.toArray }
  heap := heap
  slotsUsed := slotsUsed
  threads := #[{ frames := .invoking theMethod args0 :: below }]
def below0 : List Frame := [.native { method := ⟨0, 0⟩, args := #[] }]
def about1 : State := aboutOver below0
def p0 : Program := .bare "" "" ""
def e0 : Env := launch0.env 0 0 0
theorem w_frames : about1.frames = Frame.invoking theMethod args0 :: below0 := rfl
set_option maxRecDepth 65536 in
theorem w_args : argsFit about1.vm theMethod args0 = true := by decide +kernel
set_option maxRecDepth 65536 in
theorem w_heap : heapFits about1 = true := by decide +kernel
set_option maxRecDepth 65536 in
theorem w_runnable : about1.curStatus? = some .runnable := by decide +kernel
set_option maxRecDepth 65536 in
theorem w_alone : about1.alone = true := by decide +kernel
set_option maxRecDepth 65536 in
theorem w_named : about1.methodNamed? x = some theMethod := by decide +kernel
set_option maxRecDepth 65536 in
theorem w_hears : about1.hears theMethod below0 = true := by decide +kernel
set_option maxRecDepth 65536 in
theorem w_ripe : about1.ripe theMethod args0 below0 = true := by decide +kernel
theorem w_running : about1.status = .running := rfl
set_option maxRecDepth 65536 in
theorem w_room : about1.hasRoom e0.platform room_1 = true :=
  launch0.hasRoom_least _ room_1 (by decide +kernel) (by decide +kernel) (by decide +kernel) (by decide +kernel) (by decide +kernel) (by decide +kernel)
theorem allAtoms_all (ts : List Jvm.Cond) (a : Array Jvm.Value) (st : Jvm.State) : (allAtoms ts).before a st = ts.all (fun c => c.before a st) := by
  induction ts with
  | nil => rfl
  | cons c t ih =>
    show (Jvm.Cond.and c (allAtoms t)).before a st = _
    rw [Jvm.Cond.before_and, ih, List.all_cons]
def words1 : List Jvm.Cond := Jvm.Cond.code x code maxLocals ret :: tables_1
/-- a 'code' word, met by the world's own term for the bytes: nothing is compared byte by byte -/
theorem code_word {y : MethodName} {bytes : ByteArray} {mx : Nat} {rt : Option FieldType} {a : Array Value} {s : State} {m : MethodId} {meth : Method} {c : Code} (h1 : s.methodNamed? y = some m) (h2 : s.vm.method? m = some meth) (h3 : meth.code = some c) (h4 : c.code = bytes)
    (h5 : (c.maxLocals == mx && c.exceptionTable.isEmpty && decide (c.maxStack ≤ mostOperands) && decide (meth.sig.returnType = rt) && !meth.locks && decide (parseMethodDescriptor y.desc = some meth.sig)) = true) : (Jvm.Cond.code y bytes mx rt).before a s = true := by
  simp only [Bool.and_eq_true, beq_iff_eq, Bool.not_eq_true', decide_eq_true_eq] at h5
  obtain ⟨⟨⟨⟨⟨g1, g2⟩, g3⟩, g4⟩, g5⟩, g6⟩ := h5
  simp [Cond.before, Cond.holds, Cond.value, h1, h2, h3, h4, g1, g2, g3, g4, g5, g6]
def isCode : Jvm.Cond → Bool
  | .code _ _ _ _ => true
  | _ => false
theorem all_split {L : List Jvm.Cond} {P : Jvm.Cond → Bool} (h1 : L.all (fun c => isCode c || P c) = true) (h2 : ∀ c ∈ L.filter isCode, P c = true) : L.all P = true := by
  refine List.all_eq_true.mpr fun c hc => ?_
  have h := List.all_eq_true.mp h1 c hc
  rcases Bool.eq_false_or_eq_true (isCode c) with hi | hi
  · exact h2 c (List.mem_filter.mpr ⟨hc, hi⟩)
  · simpa [hi] using h
set_option maxRecDepth 65536 in
theorem w_c0 : (Jvm.Cond.code x code maxLocals ret).before args0 about1 = true := code_word (m := ⟨1, 3⟩) (meth := k1m3) (c := k1c3) (by decide +kernel) rfl rfl rfl (by decide +kernel)
set_option maxRecDepth 65536 in
theorem w_c1 : (Jvm.Cond.code ({ cls := "com/example/muster/muster/core/SeededRandom", name := "<init>", desc := "(J)V" } : Jvm.MethodName) prog_34_method_1_code (3 : Nat) (Option.none : Option Jvm.ClassFile.FieldType)).before args0 about1 = true := code_word (m := ⟨2, 0⟩) (meth := k2m0) (c := k2c0) (by decide +kernel) rfl rfl rfl (by decide +kernel)
set_option maxRecDepth 65536 in
theorem w_c2 : (Jvm.Cond.code ({ cls := "java/lang/Object", name := "<init>", desc := "()V" } : Jvm.MethodName) object_method_1_code (1 : Nat) (Option.none : Option Jvm.ClassFile.FieldType)).before args0 about1 = true := code_word (m := ⟨0, 0⟩) (meth := k0m0) (c := k0c0) (by decide +kernel) rfl rfl rfl (by decide +kernel)
set_option maxRecDepth 65536 in
theorem w_c3 : (Jvm.Cond.code ({ cls := "com/example/muster/muster/core/SeededRandom", name := "nextLong", desc := "()J" } : Jvm.MethodName) prog_34_method_2_code (3 : Nat) (Option.some Jvm.ClassFile.FieldType.long)).before args0 about1 = true := code_word (m := ⟨2, 1⟩) (meth := k2m1) (c := k2c1) (by decide +kernel) rfl rfl rfl (by decide +kernel)
set_option maxRecDepth 65536 in
theorem w_c4 : (Jvm.Cond.code ({ cls := "com/example/muster/muster/core/SeededRandomNextLongPinLaw", name := "unmix", desc := "(J)J" } : Jvm.MethodName) method_3_code (4 : Nat) (Option.some Jvm.ClassFile.FieldType.long)).before args0 about1 = true := code_word (m := ⟨1, 2⟩) (meth := k1m2) (c := k1c2) (by decide +kernel) rfl rfl rfl (by decide +kernel)
set_option maxRecDepth 65536 in
theorem w_c5 : (Jvm.Cond.code ({ cls := "com/example/muster/muster/core/SeededRandomNextLongPinLaw", name := "inverseOdd", desc := "(J)J" } : Jvm.MethodName) method_2_code (4 : Nat) (Option.some Jvm.ClassFile.FieldType.long)).before args0 about1 = true := code_word (m := ⟨1, 1⟩) (meth := k1m1) (c := k1c1) (by decide +kernel) rfl rfl rfl (by decide +kernel)
def codes1 : List Jvm.Cond := [Jvm.Cond.code x code maxLocals ret, Jvm.Cond.code ({ cls := "com/example/muster/muster/core/SeededRandom", name := "<init>", desc := "(J)V" } : Jvm.MethodName) prog_34_method_1_code (3 : Nat) (Option.none : Option Jvm.ClassFile.FieldType), Jvm.Cond.code ({ cls := "java/lang/Object", name := "<init>", desc := "()V" } : Jvm.MethodName) object_method_1_code (1 : Nat) (Option.none : Option Jvm.ClassFile.FieldType), Jvm.Cond.code ({ cls := "com/example/muster/muster/core/SeededRandom", name := "nextLong", desc := "()J" } : Jvm.MethodName) prog_34_method_2_code (3 : Nat) (Option.some Jvm.ClassFile.FieldType.long), Jvm.Cond.code ({ cls := "com/example/muster/muster/core/SeededRandomNextLongPinLaw", name := "unmix", desc := "(J)J" } : Jvm.MethodName) method_3_code (4 : Nat) (Option.some Jvm.ClassFile.FieldType.long), Jvm.Cond.code ({ cls := "com/example/muster/muster/core/SeededRandomNextLongPinLaw", name := "inverseOdd", desc := "(J)J" } : Jvm.MethodName) method_2_code (4 : Nat) (Option.some Jvm.ClassFile.FieldType.long)]
set_option maxRecDepth 65536 in
theorem codes_eq : words1.filter isCode = codes1 := rfl
theorem w_codes : ∀ c ∈ words1.filter isCode, c.before args0 about1 = true := by
  rw [codes_eq]
  intro c hc
  simp only [codes1, List.mem_cons, List.not_mem_nil, or_false] at hc
  rcases hc with rfl | rfl | rfl | rfl | rfl | rfl
  · exact w_c0
  · exact w_c1
  · exact w_c2
  · exact w_c3
  · exact w_c4
  · exact w_c5
set_option maxRecDepth 65536 in
theorem w_t1 : (words1.take 24).all (fun c => isCode c || c.before args0 about1) = true := by decide +kernel
set_option maxRecDepth 65536 in
theorem w_t2 : (words1.drop 24).all (fun c => isCode c || c.before args0 about1) = true := by decide +kernel
theorem w_tables : (allAtoms (Jvm.Cond.code x code maxLocals ret :: tables_1)).before args0 about1 = true := by
  rw [allAtoms_all]
  show words1.all (fun c => c.before args0 about1) = true
  refine all_split ?_ w_codes
  rw [← List.take_append_drop 24 words1, List.all_append, w_t1, w_t2]
  rfl
set_option maxRecDepth 65536 in
theorem w_case : (Jvm.Cond.and given_1 narrow_1).before args0 about1 = true := by decide +kernel
theorem w_applies : (headSpec (Jvm.Cond.code x code maxLocals ret :: tables_1) room_1).applies x e0.platform about1 = true :=
  (Spec.applies_iff w_frames).mpr ⟨w_running, w_runnable, w_alone, w_named, w_hears, w_ripe, w_room, w_tables⟩
theorem atStart : AtStart classFile x code maxLocals ret World_1 tables_1 room_1 Calls_1 rest_1 Pre_1 launch0 p0 e0 about1 theMethod args0 below0 :=
  ⟨lists_1, trivial, launch0.admits_env _ _ _, launch0.least_env, fairChoices_fair.cas, fairChoices_fair.clock, w_frames, w_args, w_heap, w_applies, trivial, trivial, w_case⟩
end start1
theorem witness_1 : WitnessClaimed_1 := ⟨start1.p0, start1.e0, start1.about1, start1.theMethod, start1.args0, start1.below0, start1.atStart⟩
end Jvm.Pilot.@@N@@
