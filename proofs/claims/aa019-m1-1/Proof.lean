import JvmDerived
import JvmDerived.Pilot.@@N@@Statement
import JvmDerived.Pilot.@@N@@Code
set_option linter.unusedVariables false
set_option linter.unusedSimpArgs false
@@BLOCK:NumsL.lean.txt@@
namespace Jvm.Pilot.@@N@@
open Jvm Jvm.ClassFile Sem Op Lib Jvm.Free Jvm.Stand Jvm.LawKit Jvm.RoadKit Bundle Jvm.Pilot.@@N@@.Jvm.D
/-- from T the run comes to an end of which P speaks -/
def Go (p : Program) (e : Env) (below : List Frame) (P : Outcome → State → Prop) (T : State) : Prop := ∃ s₂ o, Steps p.tables e below T s₂ ∧ s₂.status = .running ∧ Ended s₂ below o ∧ P o s₂
theorem Go.via {p : Program} {e : Env} {below : List Frame} {P : Outcome → State → Prop} {T T' : State} (h : ∀ t, Steps p.tables e below T' t → Steps p.tables e below T t) (g : Go p e below P T') : Go p e below P T := by
  obtain ⟨s₂, o, a, b⟩ := g
  exact ⟨s₂, o, h _ a, b⟩
theorem Go.into {p : Program} {e : Env} {below : List Frame} {P : Outcome → State → Prop} {T : State} {g g' : JFrame} (q : g = g') (h : Go p e below P (T.setTop g')) : ∃ s₂ o, Steps p.tables e below (T.setTop g) s₂ ∧ s₂.status = .running ∧ Ended s₂ below o ∧ P o s₂ := by
  subst q; exact h
section Ret
variable {p : Program} {l : Launch} {e : Env} {R : Room} {s : State} {m : MethodId} {args : Array Value} {below : List Frame} {meth : Method} {c : Code} {T : State} {locs : List Loc} {cells slots K N : Nat}
theorem Go.fin (X : Stand p l e R s m args below meth c T locs cells slots) (hlk : meth.locks = false) {v : Option Value} (hv : meth.sig.returnType = none → v = none) {Q : Option Value → Heap → List Loc → Prop} {g : JFrame}
    (st : ∀ fs, (∀ (f : JFrame) (acts : List Action), f.method = m → f.locked = none → f.entered = [] → (doReturn e (T.setTop f) acts v).1 = T.setFrames fs) → Steps p.tables e below (T.setTop g) (T.setFrames fs))
    (hk : cells ≤ K) (hn : slots ≤ N) (hq : Q v T.heap locs) : Go p e below (fun o u => ∃ v L, o = .returned v ∧ Q v u.heap L ∧ FrameEnd s o u L K N) (T.setTop g) := by
  obtain ⟨fs, hr, hrun, hended, hW, hsame⟩ := X.leave (v := v) hv
  exact ⟨_, _, st fs hr, hrun, hended, _, _, rfl, hq, ⟨_, rfl⟩, hW, hsame.mono hk hn⟩
theorem Go.retI (X : Stand p l e R s m args below meth c T locs cells slots) (hx : p.tables.exec = Jvm.exec) (hlk : meth.locks = false) {Q : Option Value → Heap → List Loc → Prop} {pc : Nat} {Ls : Array Slot} {z : Int32} {rest : List Value} (hret : meth.sig.returnType = some .int) (hd : decode c.code pc = .ok (.ireturn, 1))
    (hk : cells ≤ K) (hn : slots ≤ N) (hq : Q (some (.int z)) T.heap locs) : Go p e below (fun o u => ∃ v L, o = .returned v ∧ Q v u.heap L ∧ FrameEnd s o u L K N) (T.setTop (mkF m pc Ls (.int z :: rest))) :=
  Go.fin X hlk (v := some (.int z)) (fun h => by rw [hret] at h; cases h) (fun fs hr => retOut X hx hret rfl (Or.inl ⟨rfl, Or.inl rfl, _, rfl⟩) hd hr) hk hn hq
theorem Go.retN (X : Stand p l e R s m args below meth c T locs cells slots) (hx : p.tables.exec = Jvm.exec) (hlk : meth.locks = false) {Q : Option Value → Heap → List Loc → Prop} {pc : Nat} {Ls : Array Slot} {z : Int32} {rest : List Value} {t : FieldType} (hret : meth.sig.returnType = some t) (ht : t = .boolean ∨ t = .byte ∨ t = .char ∨ t = .short) (hd : decode c.code pc = .ok (.ireturn, 1))
    (hk : cells ≤ K) (hn : slots ≤ N) (hq : Q (some (.int (nar t z))) T.heap locs) : Go p e below (fun o u => ∃ v L, o = .returned v ∧ Q v u.heap L ∧ FrameEnd s o u L K N) (T.setTop (mkF m pc Ls (.int z :: rest))) :=
  Go.fin X hlk (v := some (.int (nar t z))) (fun h => by rw [hret] at h; cases h) (fun fs hr => Jvm.RoadKit.retN X hx hret ht hd hr) hk hn hq
theorem Go.retJ (X : Stand p l e R s m args below meth c T locs cells slots) (hx : p.tables.exec = Jvm.exec) (hlk : meth.locks = false) {Q : Option Value → Heap → List Loc → Prop} {pc : Nat} {Ls : Array Slot} {z : Int64} {rest : List Value} (hret : meth.sig.returnType = some .long) (hd : decode c.code pc = .ok (.lreturn, 1))
    (hk : cells ≤ K) (hn : slots ≤ N) (hq : Q (some (.long z)) T.heap locs) : Go p e below (fun o u => ∃ v L, o = .returned v ∧ Q v u.heap L ∧ FrameEnd s o u L K N) (T.setTop (mkF m pc Ls (.long z :: rest))) :=
  Go.fin X hlk (v := some (.long z)) (fun h => by rw [hret] at h; cases h) (fun fs hr => retOut X hx hret rfl (Or.inr (Or.inl ⟨rfl, rfl, _, rfl⟩)) hd hr) hk hn hq
theorem Go.retR (X : Stand p l e R s m args below meth c T locs cells slots) (hx : p.tables.exec = Jvm.exec) (hlk : meth.locks = false) {Q : Option Value → Heap → List Loc → Prop} {pc : Nat} {Ls : Array Slot} {w : Value} {rest : List Value} {t : FieldType} (hret : meth.sig.returnType = some t) (ht : t.isReference = true) (hw : w.isRef = true) (hd : decode c.code pc = .ok (.areturn, 1))
    (hk : cells ≤ K) (hn : slots ≤ N) (hq : Q (some w) T.heap locs) : Go p e below (fun o u => ∃ v L, o = .returned v ∧ Q v u.heap L ∧ FrameEnd s o u L K N) (T.setTop (mkF m pc Ls (w :: rest))) :=
  Go.fin X hlk (v := some w) (fun h => by rw [hret] at h; cases h) (fun fs hr => retOut X hx hret (by rcases ref_cases hw with rfl | ⟨z, rfl⟩ <;> cases t <;> rfl) (Or.inr (Or.inr (Or.inr (Or.inr ⟨rfl, ht, hw⟩)))) hd hr) hk hn hq
theorem Go.retV (X : Stand p l e R s m args below meth c T locs cells slots) (hx : p.tables.exec = Jvm.exec) (hlk : meth.locks = false) {Q : Option Value → Heap → List Loc → Prop} {pc : Nat} {Ls : Array Slot} (hret : meth.sig.returnType = none) (hd : decode c.code pc = .ok (.return_, 1))
    (hk : cells ≤ K) (hn : slots ≤ N) (hq : Q none T.heap locs) : Go p e below (fun o u => ∃ v L, o = .returned v ∧ Q v u.heap L ∧ FrameEnd s o u L K N) (T.setTop (mkF m pc Ls [])) :=
  Go.fin X hlk (v := none) (fun _ => rfl) (fun fs hr => X.returnOut hx hret hd hr) hk hn hq
theorem Go.retNW {vm₁ : Vm} (X : Stand p l e R (s.setVm vm₁) m args below meth c T locs cells slots) (hx : p.tables.exec = Jvm.exec) {n : Nat} (hS : s.Since vm₁ n) (hnn : n ≤ T.heap.size) (hlk : meth.locks = false) {Q : Option Value → Heap → List Loc → Prop} {pc : Nat} {Ls : Array Slot} {z : Int32} {rest : List Value} {t : FieldType} (hret : meth.sig.returnType = some t) (ht : t = .boolean ∨ t = .byte ∨ t = .char ∨ t = .short) (hd : decode c.code pc = .ok (.ireturn, 1))
    (hk : cells ≤ K) (hn : slots ≤ N) (hq : Q (some (.int (nar t z))) T.heap locs) : Go p e below (fun o u => ∃ v L, o = .returned v ∧ Q v u.heap L ∧ ReturnedEndW s o u L K N) (T.setTop (mkF m pc Ls (.int z :: rest))) := by
  obtain ⟨fs, hr, hrun, hended, h1, h2, h3, h4⟩ := X.leaveW hS hnn (v := some (.int (nar t z))) (fun h => by rw [hret] at h; cases h) hlk
  exact ⟨_, _, Jvm.RoadKit.retN X hx hret ht hd hr, hrun, hended, _, _, rfl, hq, h1, h2, h3, h4.mono hk hn⟩
end Ret
theorem own_eqi {t : Term} {n : Int32} {args : Array Value} {s : State} (h : (Cond.eq t (.int n)).value args s none s [] = some true) : t.eval args s none [] s = some (.int n) := by
  obtain ⟨x, y, h1, h2, k, -⟩ := cmp_v (Or.inl h)
  cases (show some y = some (Value.int n) from h2.symm)
  cases x with
  | int z => rw [h1]; congr 2; have q := h; simp [Cond.value, h1, Term.eval] at q; exact q
  | _ => simp [Kin, Value.isRef] at k
theorem own_ns1 {h : Heap} {a : Addr} {ws : List Addr} (q : ∀ cell : Cell, h[a]? = some cell → cell.vm.isStatics = false) (r : ∀ (x : Addr) (c : Cell), h[x]? = some c → c.vm.isStatics = true → x ∉ ws) : ∀ (x : Addr) (c : Cell), h[x]? = some c → c.vm.isStatics = true → x ∉ a :: ws := fun x c hx hc => ninS (fun e => by subst e; rw [q c hx] at hc; cases hc) (r x c hx hc)
theorem own_sk {Z : State} {h h' : Heap} {C n d : String} {v : Value} {ws : List Addr} (F : Sta Z h C n d v) (K : Keep h h' ws) (q : ∀ (x : Addr) (c : Cell), h[x]? = some c → c.vm.isStatics = true → x ∉ ws) : Sta Z h' C n d v := by
  obtain ⟨cf, i, k, f, st, cell, h1, h2, h3, h4, h5, h6, h7⟩ := F
  exact ⟨cf, i, k, f, st, cell, h1, h2, h3, h4, K.2.1 _ _ h5 (q _ _ h5 h6), h6, h7⟩

theorem own_nsroot {Z : State} {a0 : Array Value} {O K : String} {n : Nat} (w : (Cond.noSuperclass O).before a0 Z = true) (wi : (Cond.instantiable K n).before a0 Z = true) (hn : O ≠ K) : NS Z O K := by
  obtain ⟨c, k, h1, h2, h3, -, -⟩ := Cond.noSuperclass_spec w
  obtain ⟨t, kt, g1, -⟩ := Cond.instantiable_spec wi
  have ne := ids_ne h1 g1 hn
  refine ⟨c, t, h1, g1, fun fuel => ?_⟩
  cases fuel with
  | zero => rfl
  | succ f => simp [Vm.isSubclassAux, ne, h2, h3]
theorem own_nsno {Z : State} {a0 : Array Value} {C S K : String} {n : Nat} (w : (Cond.superclass C S).before a0 Z = true) (wi : (Cond.instantiable K n).before a0 Z = true) (q : NS Z C K) (hn : C ≠ K) : ∃ c t, Z.vm.findClass C = some c ∧ Z.vm.findClass K = some t ∧ Z.vm.assignable c t = false := by
  obtain ⟨c, t, h0, g0, n3⟩ := q
  obtain ⟨p, k, kp, h1, h2, h3, h4, h5, -, h7⟩ := Cond.superclass_spec h0 w
  obtain ⟨t', kt, g1, g2, g3, g4, -⟩ := Cond.instantiable_spec wi
  cases g0.symm.trans g1
  have ne := ids_ne h0 g0 hn
  have g5 : kt.isInterface = false := by cases q : kt.isInterface <;> simp [q] at g4 ⊢
  refine ⟨c, t, h0, g0, ?_⟩
  show Z.vm.assignableAux (255 + 1) c t = false
  simp [Vm.assignableAux, ne, h2, g2, h5, g3, g5, Vm.isSubclass, n3]

theorem d1_0 : decode prog_94_method_1_code 0 = .ok (.aload_n 0, 1) := by decide +kernel
theorem d1_1 : decode prog_94_method_1_code 1 = .ok (.invokespecial 1, 3) := by decide +kernel
theorem d1_4 : decode prog_94_method_1_code 4 = .ok (.aload_n 0, 1) := by decide +kernel
theorem d1_5 : decode prog_94_method_1_code 5 = .ok (.iload_n 1, 1) := by decide +kernel
theorem d1_6 : decode prog_94_method_1_code 6 = .ok (.putfield 7, 3) := by decide +kernel
theorem d1_9 : decode prog_94_method_1_code 9 = .ok (.aload_n 0, 1) := by decide +kernel
theorem d1_10 : decode prog_94_method_1_code 10 = .ok (.iload_n 2, 1) := by decide +kernel
theorem d1_11 : decode prog_94_method_1_code 11 = .ok (.putfield 13, 3) := by decide +kernel
theorem d1_14 : decode prog_94_method_1_code 14 = .ok (.aload_n 0, 1) := by decide +kernel
theorem d1_15 : decode prog_94_method_1_code 15 = .ok (.iload_n 3, 1) := by decide +kernel
theorem d1_16 : decode prog_94_method_1_code 16 = .ok (.putfield 16, 3) := by decide +kernel
theorem d1_19 : decode prog_94_method_1_code 19 = .ok (.aload_n 0, 1) := by decide +kernel
theorem d1_20 : decode prog_94_method_1_code 20 = .ok (.iload 4, 2) := by decide +kernel
theorem d1_22 : decode prog_94_method_1_code 22 = .ok (.putfield 19, 3) := by decide +kernel
theorem d1_25 : decode prog_94_method_1_code 25 = .ok (.return_, 1) := by decide +kernel
def Q1 (Z : State) (o0 : Addr) (p1 : Int32) (p2 : Int32) (p3 : Int32) (p4 : Int32) (u0 : Int32) (u1 : Int32) (u2 : Int32) (u3 : Int32) (h0 : Heap) (n0 : Nat) (v : Option Value) (h : Heap) (L : List Loc) : Prop := v = none ∧ Fr n0 L ∧ Keep h0 h [o0] ∧ Exa Z h o0 "com/example/ltlconv/ltlconv/ldba/RecurrenceParts$State" ∧ Fld Z h o0 "com/example/ltlconv/ltlconv/ldba/RecurrenceParts$State" "safety" "I" (.int p1) ∧ Fld Z h o0 "com/example/ltlconv/ltlconv/ldba/RecurrenceParts$State" "recurrences" "I" (.int p2) ∧ Fld Z h o0 "com/example/ltlconv/ltlconv/ldba/RecurrenceParts$State" "awaited" "I" (.int p3) ∧ Fld Z h o0 "com/example/ltlconv/ltlconv/ldba/RecurrenceParts$State" "progress" "I" (.int p4)
theorem pn_0 : plainName "com/example/ltlconv/ltlconv/ldba/RecurrenceParts$State" = true := by first | (simp [plainName, overriddenIn]; done) | decide +kernel
theorem ef_1_aaaaa (m : MethodId) (x0 : Addr) (x1 : Int32) (x2 : Int32) (x3 : Int32) (x4 : Int32) : entryFrame m #[(.ref x0), (.int x1), (.int x2), (.int x3), (.int x4)] 5 = mkF m 0 #[.val (.ref x0), .val (.int x1), .val (.int x2), .val (.int x3), .val (.int x4)] [] := by first | (simp [entryFrame, mkF, argsToLocals, Value.category]; done) | rfl
set_option maxRecDepth 65536 in
set_option maxHeartbeats 40000000 in
theorem rm1 (l : Launch) (Z : State) (a0 : Array Value) (hw : ∀ d ∈ tables_1, d.before a0 Z = true) (ws : List Jvm.Cond) (o0 : Addr) (p1 : Int32) (p2 : Int32) (p3 : Int32) (p4 : Int32) (u0 : Int32) (u1 : Int32) (u2 : Int32) (u3 : Int32) (h0 : Heap) (n0 : Nat) (Z0 : n0 ≤ h0.size) (ha0 : Exa Z h0 o0 "com/example/ltlconv/ltlconv/ldba/RecurrenceParts$State") (ha1 : Fld Z h0 o0 "com/example/ltlconv/ltlconv/ldba/RecurrenceParts$State" "safety" "I" (.int u0)) (ha2 : Fld Z h0 o0 "com/example/ltlconv/ltlconv/ldba/RecurrenceParts$State" "recurrences" "I" (.int u1)) (ha3 : Fld Z h0 o0 "com/example/ltlconv/ltlconv/ldba/RecurrenceParts$State" "awaited" "I" (.int u2)) (ha4 : Fld Z h0 o0 "com/example/ltlconv/ltlconv/ldba/RecurrenceParts$State" "progress" "I" (.int u3)) (ha5 : n0 ≤ o0) :
    MetFree l (⟨"com/example/ltlconv/ltlconv/ldba/RecurrenceParts$State", "<init>", "(IIII)V"⟩ : MethodName) (head1 (Jvm.Cond.code (⟨"com/example/ltlconv/ltlconv/ldba/RecurrenceParts$State", "<init>", "(IIII)V"⟩ : MethodName) prog_94_method_1_code 5 none :: ws) ({ frames := 1, cells := 0, slots := 0, locals := 12 } : Room)) (fun a U => a = #[(.ref o0), (.int p1), (.int p2), (.int p3), (.int p4)] ∧ Z.Warmed39 U.vm ∧ U.heap = h0) (fun _ _ _ _ _ => True) (fun _ U o U' => ∃ v L, o = .returned v ∧ Q1 Z o0 p1 p2 p3 p4 u0 u1 u2 u3 h0 n0 v U'.heap L ∧ FrameEnd U o U' L ({ frames := 1, cells := 0, slots := 0, locals := 12 } : Room).cells ({ frames := 1, cells := 0, slots := 0, locals := 12 } : Room).slots) := by
  refine MetFree.of_bodySF (plainFor_of_name pn_0) hisR ?_
  intro p e s m args below meth c s₁ Bd hml0 hP hK
  obtain ⟨rfl, hZ, hh⟩ := hP
  have hx := Bd.exec
  have hby := Bd.bytes
  have hml : c.maxLocals = 5 := hml0
  have hown : s.vm.findClass "com/example/ltlconv/ltlconv/ldba/RecurrenceParts$State" = some m.cls := findClass_of_methodNamed Bd.named
  have hnm := (name_of_methodNamed Bd.named Bd.method).1
  have X0 : Stand p l e ({ frames := 1, cells := 0, slots := 0, locals := 12 } : Room) s m #[(.ref o0), (.int p1), (.int p2), (.int p3), (.int p4)] below meth c s₁ [] 0 0 := Stand.of_body Bd
  have e0 : s₁.heap = h0 := by rw [← hh, Bd.state]; rfl
  have N0 := Fr.nil n0
  refine Go.into (P := fun oo uu => ∃ v L, oo = .returned v ∧ Q1 Z o0 p1 p2 p3 p4 u0 u1 u2 u3 h0 n0 v uu.heap L ∧ FrameEnd s oo uu L ({ frames := 1, cells := 0, slots := 0, locals := 12 } : Room).cells ({ frames := 1, cells := 0, slots := 0, locals := 12 } : Room).slots) (ef_1_aaaaa m o0 p1 p2 p3 p4) ?_
  show Go p e below _ (s₁.setTop (mkF m 0 #[.val (.ref o0), .val (.int p1), .val (.int p2), .val (.int p3), .val (.int p4)] []))
  refine Go.via (T' := s₁.setTop (mkF m 1 #[.val (.ref o0), .val (.int p1), .val (.int p2), .val (.int p3), .val (.int p4)] [(.ref o0)])) (fun tZ kZ => ?_) ?_
  · show Steps p.tables e below (s₁.setTop (mkF m 0 #[.val (.ref o0), .val (.int p1), .val (.int p2), .val (.int p3), .val (.int p4)] [])) _
    refine XS.aloadN X0.here hx rfl (hb hby d1_0) rfl rfl ?_
    show Steps p.tables e below (s₁.setTop (mkF m 1 #[.val (.ref o0), .val (.int p1), .val (.int p2), .val (.int p3), .val (.int p4)] [(.ref o0)])) _
    exact kZ
  obtain ⟨T1, X1, e1, st1⟩ := initO X0 hx hZ hown (hw _ (List.mem_of_getElem? (i := 6) rfl)) (hw _ (List.mem_of_getElem? (i := 7) rfl)) (hw _ (List.mem_of_getElem? (i := 8) rfl)) e0 (g := (mkF m 1 #[.val (.ref o0), .val (.int p1), .val (.int p2), .val (.int p3), .val (.int p4)] [(.ref o0)])) rfl (by rw [hml]; rfl) rfl (hb hby d1_1) (by decide) (W := 0) (by show 2 * 0 + _ ≤ _; exact Nat.le_of_eq rfl) (by decide)
  refine Go.via st1 ?_
  show Go p e below _ (T1.setTop (mkF m 4 #[.val (.ref o0), .val (.int p1), .val (.int p2), .val (.int p3), .val (.int p4)] []))
  refine Go.via (T' := T1.setTop (mkF m 6 #[.val (.ref o0), .val (.int p1), .val (.int p2), .val (.int p3), .val (.int p4)] [(.int p1), (.ref o0)])) (fun tZ kZ => ?_) ?_
  · show Steps p.tables e below (T1.setTop (mkF m 4 #[.val (.ref o0), .val (.int p1), .val (.int p2), .val (.int p3), .val (.int p4)] [])) _
    refine XS.aloadN X1.here hx rfl (hb hby d1_4) rfl rfl ?_
    show Steps p.tables e below (T1.setTop (mkF m 5 #[.val (.ref o0), .val (.int p1), .val (.int p2), .val (.int p3), .val (.int p4)] [(.ref o0)])) _
    refine XS.iloadN X1.here hx rfl (hb hby d1_5) rfl ?_
    show Steps p.tables e below (T1.setTop (mkF m 6 #[.val (.ref o0), .val (.int p1), .val (.int p2), .val (.int p3), .val (.int p4)] [(.int p1), (.ref o0)])) _
    exact kZ
  obtain ⟨T2, h2, X2, e2, W2, st2⟩ := putF X1 hx hZ hown (host := "") (Or.inl (hw _ (List.mem_of_getElem? (i := 9) rfl))) Via.refl e1 ha1 ha0 (Or.inr ⟨(hw _ (List.mem_of_getElem? (i := 10) rfl)), rfl, hnm⟩) (hw _ (List.mem_of_getElem? (i := 1) rfl)) (ty := .int) (by decide) rfl rfl (g := (mkF m 6 #[.val (.ref o0), .val (.int p1), .val (.int p2), .val (.int p3), .val (.int p4)] [(.int p1), (.ref o0)])) rfl rfl (hb hby d1_6)
  have N2 := Fr.snoc X2 N0 ha5
  have c3_0 := ha0.wr W2
  have c3_2 := ha2.other W2 (Or.inr (slot_ne (Or.inr (hw _ (List.mem_of_getElem? (i := 12) rfl))) (Or.inr (hw _ (List.mem_of_getElem? (i := 10) rfl))) (by decide) (t := .int) (t' := .int) (by decide) (by decide)))
  have c3_3 := ha3.other W2 (Or.inr (slot_ne (Or.inr (hw _ (List.mem_of_getElem? (i := 14) rfl))) (Or.inr (hw _ (List.mem_of_getElem? (i := 10) rfl))) (by decide) (t := .int) (t' := .int) (by decide) (by decide)))
  have c3_4 := ha4.other W2 (Or.inr (slot_ne (Or.inr (hw _ (List.mem_of_getElem? (i := 16) rfl))) (Or.inr (hw _ (List.mem_of_getElem? (i := 10) rfl))) (by decide) (t := .int) (t' := .int) (by decide) (by decide)))
  have K2 : Keep h0 h2 [o0] := (Keep.refl h0 [o0]).wr W2 (Or.inl (by simp))
  have Z2 : n0 ≤ h2.size := Nat.le_trans Z0 (Keep.of_wr W2).1
  have Fw2 := ha1.same W2
  refine Go.via st2 ?_
  show Go p e below _ (T2.setTop (mkF m 9 #[.val (.ref o0), .val (.int p1), .val (.int p2), .val (.int p3), .val (.int p4)] []))
  refine Go.via (T' := T2.setTop (mkF m 11 #[.val (.ref o0), .val (.int p1), .val (.int p2), .val (.int p3), .val (.int p4)] [(.int p2), (.ref o0)])) (fun tZ kZ => ?_) ?_
  · show Steps p.tables e below (T2.setTop (mkF m 9 #[.val (.ref o0), .val (.int p1), .val (.int p2), .val (.int p3), .val (.int p4)] [])) _
    refine XS.aloadN X2.here hx rfl (hb hby d1_9) rfl rfl ?_
    show Steps p.tables e below (T2.setTop (mkF m 10 #[.val (.ref o0), .val (.int p1), .val (.int p2), .val (.int p3), .val (.int p4)] [(.ref o0)])) _
    refine XS.iloadN X2.here hx rfl (hb hby d1_10) rfl ?_
    show Steps p.tables e below (T2.setTop (mkF m 11 #[.val (.ref o0), .val (.int p1), .val (.int p2), .val (.int p3), .val (.int p4)] [(.int p2), (.ref o0)])) _
    exact kZ
  obtain ⟨T4, h4, X4, e4, W4, st4⟩ := putF X2 hx hZ hown (host := "") (Or.inl (hw _ (List.mem_of_getElem? (i := 11) rfl))) Via.refl e2 c3_2 c3_0 (Or.inr ⟨(hw _ (List.mem_of_getElem? (i := 12) rfl)), rfl, hnm⟩) (hw _ (List.mem_of_getElem? (i := 1) rfl)) (ty := .int) (by decide) rfl rfl (g := (mkF m 11 #[.val (.ref o0), .val (.int p1), .val (.int p2), .val (.int p3), .val (.int p4)] [(.int p2), (.ref o0)])) rfl rfl (hb hby d1_11)
  have N4 := Fr.snoc X4 N2 ha5
  have c5_0 := c3_0.wr W4
  have c5_1 := Fw2.other W4 (Or.inr (slot_ne (Or.inr (hw _ (List.mem_of_getElem? (i := 10) rfl))) (Or.inr (hw _ (List.mem_of_getElem? (i := 12) rfl))) (by decide) (t := .int) (t' := .int) (by decide) (by decide)))
  have c5_3 := c3_3.other W4 (Or.inr (slot_ne (Or.inr (hw _ (List.mem_of_getElem? (i := 14) rfl))) (Or.inr (hw _ (List.mem_of_getElem? (i := 12) rfl))) (by decide) (t := .int) (t' := .int) (by decide) (by decide)))
  have c5_4 := c3_4.other W4 (Or.inr (slot_ne (Or.inr (hw _ (List.mem_of_getElem? (i := 16) rfl))) (Or.inr (hw _ (List.mem_of_getElem? (i := 12) rfl))) (by decide) (t := .int) (t' := .int) (by decide) (by decide)))
  have K4 : Keep h0 h4 [o0] := K2.wr W4 (Or.inl (by simp))
  have Z4 : n0 ≤ h4.size := Nat.le_trans Z2 (Keep.of_wr W4).1
  have Fw4 := c3_2.same W4
  refine Go.via st4 ?_
  show Go p e below _ (T4.setTop (mkF m 14 #[.val (.ref o0), .val (.int p1), .val (.int p2), .val (.int p3), .val (.int p4)] []))
  refine Go.via (T' := T4.setTop (mkF m 16 #[.val (.ref o0), .val (.int p1), .val (.int p2), .val (.int p3), .val (.int p4)] [(.int p3), (.ref o0)])) (fun tZ kZ => ?_) ?_
  · show Steps p.tables e below (T4.setTop (mkF m 14 #[.val (.ref o0), .val (.int p1), .val (.int p2), .val (.int p3), .val (.int p4)] [])) _
    refine XS.aloadN X4.here hx rfl (hb hby d1_14) rfl rfl ?_
    show Steps p.tables e below (T4.setTop (mkF m 15 #[.val (.ref o0), .val (.int p1), .val (.int p2), .val (.int p3), .val (.int p4)] [(.ref o0)])) _
    refine XS.iloadN X4.here hx rfl (hb hby d1_15) rfl ?_
    show Steps p.tables e below (T4.setTop (mkF m 16 #[.val (.ref o0), .val (.int p1), .val (.int p2), .val (.int p3), .val (.int p4)] [(.int p3), (.ref o0)])) _
    exact kZ
  obtain ⟨T6, h6, X6, e6, W6, st6⟩ := putF X4 hx hZ hown (host := "") (Or.inl (hw _ (List.mem_of_getElem? (i := 13) rfl))) Via.refl e4 c5_3 c5_0 (Or.inr ⟨(hw _ (List.mem_of_getElem? (i := 14) rfl)), rfl, hnm⟩) (hw _ (List.mem_of_getElem? (i := 1) rfl)) (ty := .int) (by decide) rfl rfl (g := (mkF m 16 #[.val (.ref o0), .val (.int p1), .val (.int p2), .val (.int p3), .val (.int p4)] [(.int p3), (.ref o0)])) rfl rfl (hb hby d1_16)
  have N6 := Fr.snoc X6 N4 ha5
  have c7_0 := c5_0.wr W6
  have c7_1 := c5_1.other W6 (Or.inr (slot_ne (Or.inr (hw _ (List.mem_of_getElem? (i := 10) rfl))) (Or.inr (hw _ (List.mem_of_getElem? (i := 14) rfl))) (by decide) (t := .int) (t' := .int) (by decide) (by decide)))
  have c7_2 := Fw4.other W6 (Or.inr (slot_ne (Or.inr (hw _ (List.mem_of_getElem? (i := 12) rfl))) (Or.inr (hw _ (List.mem_of_getElem? (i := 14) rfl))) (by decide) (t := .int) (t' := .int) (by decide) (by decide)))
  have c7_4 := c5_4.other W6 (Or.inr (slot_ne (Or.inr (hw _ (List.mem_of_getElem? (i := 16) rfl))) (Or.inr (hw _ (List.mem_of_getElem? (i := 14) rfl))) (by decide) (t := .int) (t' := .int) (by decide) (by decide)))
  have K6 : Keep h0 h6 [o0] := K4.wr W6 (Or.inl (by simp))
  have Z6 : n0 ≤ h6.size := Nat.le_trans Z4 (Keep.of_wr W6).1
  have Fw6 := c5_3.same W6
  refine Go.via st6 ?_
  show Go p e below _ (T6.setTop (mkF m 19 #[.val (.ref o0), .val (.int p1), .val (.int p2), .val (.int p3), .val (.int p4)] []))
  refine Go.via (T' := T6.setTop (mkF m 22 #[.val (.ref o0), .val (.int p1), .val (.int p2), .val (.int p3), .val (.int p4)] [(.int p4), (.ref o0)])) (fun tZ kZ => ?_) ?_
  · show Steps p.tables e below (T6.setTop (mkF m 19 #[.val (.ref o0), .val (.int p1), .val (.int p2), .val (.int p3), .val (.int p4)] [])) _
    refine XS.aloadN X6.here hx rfl (hb hby d1_19) rfl rfl ?_
    show Steps p.tables e below (T6.setTop (mkF m 20 #[.val (.ref o0), .val (.int p1), .val (.int p2), .val (.int p3), .val (.int p4)] [(.ref o0)])) _
    refine XS.iload X6.here hx rfl (hb hby d1_20) rfl ?_
    show Steps p.tables e below (T6.setTop (mkF m 22 #[.val (.ref o0), .val (.int p1), .val (.int p2), .val (.int p3), .val (.int p4)] [(.int p4), (.ref o0)])) _
    exact kZ
  obtain ⟨T8, h8, X8, e8, W8, st8⟩ := putF X6 hx hZ hown (host := "") (Or.inl (hw _ (List.mem_of_getElem? (i := 15) rfl))) Via.refl e6 c7_4 c7_0 (Or.inr ⟨(hw _ (List.mem_of_getElem? (i := 16) rfl)), rfl, hnm⟩) (hw _ (List.mem_of_getElem? (i := 1) rfl)) (ty := .int) (by decide) rfl rfl (g := (mkF m 22 #[.val (.ref o0), .val (.int p1), .val (.int p2), .val (.int p3), .val (.int p4)] [(.int p4), (.ref o0)])) rfl rfl (hb hby d1_22)
  have N8 := Fr.snoc X8 N6 ha5
  have c9_0 := c7_0.wr W8
  have c9_1 := c7_1.other W8 (Or.inr (slot_ne (Or.inr (hw _ (List.mem_of_getElem? (i := 10) rfl))) (Or.inr (hw _ (List.mem_of_getElem? (i := 16) rfl))) (by decide) (t := .int) (t' := .int) (by decide) (by decide)))
  have c9_2 := c7_2.other W8 (Or.inr (slot_ne (Or.inr (hw _ (List.mem_of_getElem? (i := 12) rfl))) (Or.inr (hw _ (List.mem_of_getElem? (i := 16) rfl))) (by decide) (t := .int) (t' := .int) (by decide) (by decide)))
  have c9_3 := Fw6.other W8 (Or.inr (slot_ne (Or.inr (hw _ (List.mem_of_getElem? (i := 14) rfl))) (Or.inr (hw _ (List.mem_of_getElem? (i := 16) rfl))) (by decide) (t := .int) (t' := .int) (by decide) (by decide)))
  have K8 : Keep h0 h8 [o0] := K6.wr W8 (Or.inl (by simp))
  have Z8 : n0 ≤ h8.size := Nat.le_trans Z6 (Keep.of_wr W8).1
  have Fw8 := c7_4.same W8
  refine Go.via st8 ?_
  show Go p e below _ (T8.setTop (mkF m 25 #[.val (.ref o0), .val (.int p1), .val (.int p2), .val (.int p3), .val (.int p4)] []))
  refine Go.retV X8 hx Bd.notSynchronized Bd.returns (hb hby d1_25) (by decide) (by decide) ?_
  rw [e8]
  exact ⟨rfl, N8, K8, c9_0, c9_1, c9_2, c9_3, Fw8⟩
theorem d4_0 : decode prog_94_method_2_code 0 = .ok (.aload_n 1, 1) := by decide +kernel
theorem d4_1 : decode prog_94_method_2_code 1 = .ok (.instanceof 8, 3) := by decide +kernel
theorem d4_4 : decode prog_94_method_2_code 4 = .ok (.ifCond .ne 5, 3) := by decide +kernel
theorem d4_9 : decode prog_94_method_2_code 9 = .ok (.aload_n 1, 1) := by decide +kernel
theorem d4_10 : decode prog_94_method_2_code 10 = .ok (.checkcast 8, 3) := by decide +kernel
theorem d4_13 : decode prog_94_method_2_code 13 = .ok (.astore_n 2, 1) := by decide +kernel
theorem d4_14 : decode prog_94_method_2_code 14 = .ok (.aload_n 0, 1) := by decide +kernel
theorem d4_15 : decode prog_94_method_2_code 15 = .ok (.getfield 7, 3) := by decide +kernel
theorem d4_18 : decode prog_94_method_2_code 18 = .ok (.aload_n 2, 1) := by decide +kernel
theorem d4_19 : decode prog_94_method_2_code 19 = .ok (.getfield 7, 3) := by decide +kernel
theorem d4_22 : decode prog_94_method_2_code 22 = .ok (.if_icmp .ne 40, 3) := by decide +kernel
theorem d4_25 : decode prog_94_method_2_code 25 = .ok (.aload_n 0, 1) := by decide +kernel
theorem d4_26 : decode prog_94_method_2_code 26 = .ok (.getfield 13, 3) := by decide +kernel
theorem d4_29 : decode prog_94_method_2_code 29 = .ok (.aload_n 2, 1) := by decide +kernel
theorem d4_30 : decode prog_94_method_2_code 30 = .ok (.getfield 13, 3) := by decide +kernel
theorem d4_33 : decode prog_94_method_2_code 33 = .ok (.if_icmp .ne 29, 3) := by decide +kernel
theorem d4_36 : decode prog_94_method_2_code 36 = .ok (.aload_n 0, 1) := by decide +kernel
theorem d4_37 : decode prog_94_method_2_code 37 = .ok (.getfield 16, 3) := by decide +kernel
theorem d4_40 : decode prog_94_method_2_code 40 = .ok (.aload_n 2, 1) := by decide +kernel
theorem d4_41 : decode prog_94_method_2_code 41 = .ok (.getfield 16, 3) := by decide +kernel
theorem d4_44 : decode prog_94_method_2_code 44 = .ok (.if_icmp .ne 18, 3) := by decide +kernel
theorem d4_47 : decode prog_94_method_2_code 47 = .ok (.aload_n 0, 1) := by decide +kernel
theorem d4_48 : decode prog_94_method_2_code 48 = .ok (.getfield 19, 3) := by decide +kernel
theorem d4_51 : decode prog_94_method_2_code 51 = .ok (.aload_n 2, 1) := by decide +kernel
theorem d4_52 : decode prog_94_method_2_code 52 = .ok (.getfield 19, 3) := by decide +kernel
theorem d4_55 : decode prog_94_method_2_code 55 = .ok (.if_icmp .ne 7, 3) := by decide +kernel
theorem d4_58 : decode prog_94_method_2_code 58 = .ok (.iconst 1, 1) := by decide +kernel
theorem d4_59 : decode prog_94_method_2_code 59 = .ok (.goto 4, 3) := by decide +kernel
theorem d4_62 : decode prog_94_method_2_code 62 = .ok (.iconst 0, 1) := by decide +kernel
theorem d4_63 : decode prog_94_method_2_code 63 = .ok (.ireturn, 1) := by decide +kernel
def f4 (o0 : Addr) (o1 : Addr) (u0 : Int32) (u1 : Int32) (u2 : Int32) (u3 : Int32) (v0 : Int32) (v1 : Int32) (v2 : Int32) (v3 : Int32) : Int32 := (if u0 = v0 then (if u1 = v1 then (if u2 = v2 then (nar .boolean (if u3 = v3 then (1 : Int32) else (0 : Int32))) else (0 : Int32)) else (0 : Int32)) else (0 : Int32))
def Q4 (o0 : Addr) (o1 : Addr) (u0 : Int32) (u1 : Int32) (u2 : Int32) (u3 : Int32) (v0 : Int32) (v1 : Int32) (v2 : Int32) (v3 : Int32) (h0 : Heap) (n0 : Nat) (v : Option Value) (h : Heap) (L : List Loc) : Prop := v = some (.int (f4 o0 o1 u0 u1 u2 u3 v0 v1 v2 v3)) ∧ Fr n0 L ∧ h = h0
theorem ef_4_aa (m : MethodId) (x0 : Addr) (x1 : Addr) : entryFrame m #[(.ref x0), (.ref x1)] 3 = mkF m 0 #[.val (.ref x0), .val (.ref x1), .unset] [] := by first | (simp [entryFrame, mkF, argsToLocals, Value.category]; done) | rfl
set_option maxRecDepth 65536 in
set_option maxHeartbeats 40000000 in
theorem rm4 (l : Launch) (Z : State) (a0 : Array Value) (hw : ∀ d ∈ tables_1, d.before a0 Z = true) (ws : List Jvm.Cond) (o0 : Addr) (o1 : Addr) (u0 : Int32) (u1 : Int32) (u2 : Int32) (u3 : Int32) (v0 : Int32) (v1 : Int32) (v2 : Int32) (v3 : Int32) (h0 : Heap) (n0 : Nat) (Z0 : n0 ≤ h0.size) (ha0 : Exa Z h0 o1 "com/example/ltlconv/ltlconv/ldba/RecurrenceParts$State") (ha1 : Fld Z h0 o0 "com/example/ltlconv/ltlconv/ldba/RecurrenceParts$State" "safety" "I" (.int u0)) (ha2 : Fld Z h0 o0 "com/example/ltlconv/ltlconv/ldba/RecurrenceParts$State" "recurrences" "I" (.int u1)) (ha3 : Fld Z h0 o0 "com/example/ltlconv/ltlconv/ldba/RecurrenceParts$State" "awaited" "I" (.int u2)) (ha4 : Fld Z h0 o0 "com/example/ltlconv/ltlconv/ldba/RecurrenceParts$State" "progress" "I" (.int u3)) (ha5 : Fld Z h0 o1 "com/example/ltlconv/ltlconv/ldba/RecurrenceParts$State" "safety" "I" (.int v0)) (ha6 : Fld Z h0 o1 "com/example/ltlconv/ltlconv/ldba/RecurrenceParts$State" "recurrences" "I" (.int v1)) (ha7 : Fld Z h0 o1 "com/example/ltlconv/ltlconv/ldba/RecurrenceParts$State" "awaited" "I" (.int v2)) (ha8 : Fld Z h0 o1 "com/example/ltlconv/ltlconv/ldba/RecurrenceParts$State" "progress" "I" (.int v3)) :
    MetFree l (⟨"com/example/ltlconv/ltlconv/ldba/RecurrenceParts$State", "equals", "(Ljava/lang/Object;)Z"⟩ : MethodName) (head1 (Jvm.Cond.code (⟨"com/example/ltlconv/ltlconv/ldba/RecurrenceParts$State", "equals", "(Ljava/lang/Object;)Z"⟩ : MethodName) prog_94_method_2_code 3 (some .boolean) :: ws) ({ frames := 0, cells := 0, slots := 0, locals := 0 } : Room)) (fun a U => a = #[(.ref o0), (.ref o1)] ∧ Z.Warmed39 U.vm ∧ U.heap = h0) (fun _ _ _ _ _ => True) (fun _ U o U' => ∃ v L, o = .returned v ∧ Q4 o0 o1 u0 u1 u2 u3 v0 v1 v2 v3 h0 n0 v U'.heap L ∧ FrameEnd U o U' L ({ frames := 0, cells := 0, slots := 0, locals := 0 } : Room).cells ({ frames := 0, cells := 0, slots := 0, locals := 0 } : Room).slots) := by
  refine MetFree.of_bodySF (plainFor_of_name pn_0) hisR ?_
  intro p e s m args below meth c s₁ Bd hml0 hP hK
  obtain ⟨rfl, hZ, hh⟩ := hP
  have hx := Bd.exec
  have hby := Bd.bytes
  have hml : c.maxLocals = 3 := hml0
  have hown : s.vm.findClass "com/example/ltlconv/ltlconv/ldba/RecurrenceParts$State" = some m.cls := findClass_of_methodNamed Bd.named
  have hnm := (name_of_methodNamed Bd.named Bd.method).1
  have X0 : Stand p l e ({ frames := 0, cells := 0, slots := 0, locals := 0 } : Room) s m #[(.ref o0), (.ref o1)] below meth c s₁ [] 0 0 := Stand.of_body Bd
  have e0 : s₁.heap = h0 := by rw [← hh, Bd.state]; rfl
  have N0 := Fr.nil n0
  refine Go.into (P := fun oo uu => ∃ v L, oo = .returned v ∧ Q4 o0 o1 u0 u1 u2 u3 v0 v1 v2 v3 h0 n0 v uu.heap L ∧ FrameEnd s oo uu L ({ frames := 0, cells := 0, slots := 0, locals := 0 } : Room).cells ({ frames := 0, cells := 0, slots := 0, locals := 0 } : Room).slots) (ef_4_aa m o0 o1) ?_
  show Go p e below _ (s₁.setTop (mkF m 0 #[.val (.ref o0), .val (.ref o1), .unset] []))
  refine Go.via (T' := s₁.setTop (mkF m 1 #[.val (.ref o0), .val (.ref o1), .unset] [(.ref o1)])) (fun tZ kZ => ?_) ?_
  · show Steps p.tables e below (s₁.setTop (mkF m 0 #[.val (.ref o0), .val (.ref o1), .unset] [])) _
    refine XS.aloadN X0.here hx rfl (hb hby d4_0) rfl rfl ?_
    show Steps p.tables e below (s₁.setTop (mkF m 1 #[.val (.ref o0), .val (.ref o1), .unset] [(.ref o1)])) _
    exact kZ
  obtain ⟨T1, X1, e1, st1⟩ := instY X0 hx hZ hown (hw _ (List.mem_of_getElem? (i := 29) rfl)) e0 (Ins.self ha0) (g := (mkF m 1 #[.val (.ref o0), .val (.ref o1), .unset] [(.ref o1)])) rfl rfl (hb hby d4_1)
  refine Go.via st1 ?_
  show Go p e below _ (T1.setTop (mkF m 4 #[.val (.ref o0), .val (.ref o1), .unset] [(.int (1 : Int32))]))
  refine Go.via (T' := T1.setTop (mkF m 10 #[.val (.ref o0), .val (.ref o1), .unset] [(.ref o1)])) (fun tZ kZ => ?_) ?_
  · show Steps p.tables e below (T1.setTop (mkF m 4 #[.val (.ref o0), .val (.ref o1), .unset] [(.int (1 : Int32))])) _
    refine XS.ifYes X1.here hx rfl (pc0 := 4) (pc' := 9) rfl (hb hby d4_4) rfl ((if0 _ _).trans (feq (by decide)).2) (by decide) (by decide) ?_
    show Steps p.tables e below (T1.setTop (mkF m 9 #[.val (.ref o0), .val (.ref o1), .unset] [])) _
    refine XS.aloadN X1.here hx rfl (hb hby d4_9) rfl rfl ?_
    show Steps p.tables e below (T1.setTop (mkF m 10 #[.val (.ref o0), .val (.ref o1), .unset] [(.ref o1)])) _
    exact kZ
  obtain ⟨T2, X2, e2, st2⟩ := castY X1 hx hZ hown (hw _ (List.mem_of_getElem? (i := 29) rfl)) e1 (Ins.self ha0) (g := (mkF m 10 #[.val (.ref o0), .val (.ref o1), .unset] [(.ref o1)])) rfl rfl (hb hby d4_10)
  refine Go.via st2 ?_
  show Go p e below _ (T2.setTop (mkF m 13 #[.val (.ref o0), .val (.ref o1), .unset] [(.ref o1)]))
  refine Go.via (T' := T2.setTop (mkF m 15 #[.val (.ref o0), .val (.ref o1), .val (.ref o1)] [(.ref o0)])) (fun tZ kZ => ?_) ?_
  · show Steps p.tables e below (T2.setTop (mkF m 13 #[.val (.ref o0), .val (.ref o1), .unset] [(.ref o1)])) _
    refine XS.astoreN X2.here hx rfl (hb hby d4_13) rfl rfl (l' := #[.val (.ref o0), .val (.ref o1), .val (.ref o1)]) rfl ?_
    show Steps p.tables e below (T2.setTop (mkF m 14 #[.val (.ref o0), .val (.ref o1), .val (.ref o1)] [])) _
    refine XS.aloadN X2.here hx rfl (hb hby d4_14) rfl rfl ?_
    show Steps p.tables e below (T2.setTop (mkF m 15 #[.val (.ref o0), .val (.ref o1), .val (.ref o1)] [(.ref o0)])) _
    exact kZ
  obtain ⟨T3, X3, e3, st3⟩ := getF X2 hx hZ hown (host := "") (Or.inl (hw _ (List.mem_of_getElem? (i := 9) rfl))) Via.refl e2 ha1 (g := (mkF m 15 #[.val (.ref o0), .val (.ref o1), .val (.ref o1)] [(.ref o0)])) rfl rfl (hb hby d4_15)
  refine Go.via st3 ?_
  show Go p e below _ (T3.setTop (mkF m 18 #[.val (.ref o0), .val (.ref o1), .val (.ref o1)] [(.int u0)]))
  refine Go.via (T' := T3.setTop (mkF m 19 #[.val (.ref o0), .val (.ref o1), .val (.ref o1)] [(.ref o1), (.int u0)])) (fun tZ kZ => ?_) ?_
  · show Steps p.tables e below (T3.setTop (mkF m 18 #[.val (.ref o0), .val (.ref o1), .val (.ref o1)] [(.int u0)])) _
    refine XS.aloadN X3.here hx rfl (hb hby d4_18) rfl rfl ?_
    show Steps p.tables e below (T3.setTop (mkF m 19 #[.val (.ref o0), .val (.ref o1), .val (.ref o1)] [(.ref o1), (.int u0)])) _
    exact kZ
  obtain ⟨T4, X4, e4, st4⟩ := getF X3 hx hZ hown (host := "") (Or.inl (hw _ (List.mem_of_getElem? (i := 9) rfl))) Via.refl e3 ha5 (g := (mkF m 19 #[.val (.ref o0), .val (.ref o1), .val (.ref o1)] [(.ref o1), (.int u0)])) rfl rfl (hb hby d4_19)
  refine Go.via st4 ?_
  show Go p e below _ (T4.setTop (mkF m 22 #[.val (.ref o0), .val (.ref o1), .val (.ref o1)] [(.int v0), (.int u0)]))
  by_cases hc22 : u0 = v0
  · refine Go.via (T' := T4.setTop (mkF m 25 #[.val (.ref o0), .val (.ref o1), .val (.ref o1)] [])) (fun tZ kZ => ?_) ?_
    · show Steps p.tables e below (T4.setTop (mkF m 22 #[.val (.ref o0), .val (.ref o1), .val (.ref o1)] [(.int v0), (.int u0)])) _
      refine XS.icmpNo X4.here hx rfl (hb hby d4_22) rfl (teq hc22).2 ?_
      exact kZ
    refine Go.via (T' := T4.setTop (mkF m 26 #[.val (.ref o0), .val (.ref o1), .val (.ref o1)] [(.ref o0)])) (fun tZ kZ => ?_) ?_
    · show Steps p.tables e below (T4.setTop (mkF m 25 #[.val (.ref o0), .val (.ref o1), .val (.ref o1)] [])) _
      refine XS.aloadN X4.here hx rfl (hb hby d4_25) rfl rfl ?_
      show Steps p.tables e below (T4.setTop (mkF m 26 #[.val (.ref o0), .val (.ref o1), .val (.ref o1)] [(.ref o0)])) _
      exact kZ
    obtain ⟨T5, X5, e5, st5⟩ := getF X4 hx hZ hown (host := "") (Or.inl (hw _ (List.mem_of_getElem? (i := 11) rfl))) Via.refl e4 ha2 (g := (mkF m 26 #[.val (.ref o0), .val (.ref o1), .val (.ref o1)] [(.ref o0)])) rfl rfl (hb hby d4_26)
    refine Go.via st5 ?_
    show Go p e below _ (T5.setTop (mkF m 29 #[.val (.ref o0), .val (.ref o1), .val (.ref o1)] [(.int u1)]))
    refine Go.via (T' := T5.setTop (mkF m 30 #[.val (.ref o0), .val (.ref o1), .val (.ref o1)] [(.ref o1), (.int u1)])) (fun tZ kZ => ?_) ?_
    · show Steps p.tables e below (T5.setTop (mkF m 29 #[.val (.ref o0), .val (.ref o1), .val (.ref o1)] [(.int u1)])) _
      refine XS.aloadN X5.here hx rfl (hb hby d4_29) rfl rfl ?_
      show Steps p.tables e below (T5.setTop (mkF m 30 #[.val (.ref o0), .val (.ref o1), .val (.ref o1)] [(.ref o1), (.int u1)])) _
      exact kZ
    obtain ⟨T6, X6, e6, st6⟩ := getF X5 hx hZ hown (host := "") (Or.inl (hw _ (List.mem_of_getElem? (i := 11) rfl))) Via.refl e5 ha6 (g := (mkF m 30 #[.val (.ref o0), .val (.ref o1), .val (.ref o1)] [(.ref o1), (.int u1)])) rfl rfl (hb hby d4_30)
    refine Go.via st6 ?_
    show Go p e below _ (T6.setTop (mkF m 33 #[.val (.ref o0), .val (.ref o1), .val (.ref o1)] [(.int v1), (.int u1)]))
    by_cases hc33 : u1 = v1
    · refine Go.via (T' := T6.setTop (mkF m 36 #[.val (.ref o0), .val (.ref o1), .val (.ref o1)] [])) (fun tZ kZ => ?_) ?_
      · show Steps p.tables e below (T6.setTop (mkF m 33 #[.val (.ref o0), .val (.ref o1), .val (.ref o1)] [(.int v1), (.int u1)])) _
        refine XS.icmpNo X6.here hx rfl (hb hby d4_33) rfl (teq hc33).2 ?_
        exact kZ
      refine Go.via (T' := T6.setTop (mkF m 37 #[.val (.ref o0), .val (.ref o1), .val (.ref o1)] [(.ref o0)])) (fun tZ kZ => ?_) ?_
      · show Steps p.tables e below (T6.setTop (mkF m 36 #[.val (.ref o0), .val (.ref o1), .val (.ref o1)] [])) _
        refine XS.aloadN X6.here hx rfl (hb hby d4_36) rfl rfl ?_
        show Steps p.tables e below (T6.setTop (mkF m 37 #[.val (.ref o0), .val (.ref o1), .val (.ref o1)] [(.ref o0)])) _
        exact kZ
      obtain ⟨T7, X7, e7, st7⟩ := getF X6 hx hZ hown (host := "") (Or.inl (hw _ (List.mem_of_getElem? (i := 13) rfl))) Via.refl e6 ha3 (g := (mkF m 37 #[.val (.ref o0), .val (.ref o1), .val (.ref o1)] [(.ref o0)])) rfl rfl (hb hby d4_37)
      refine Go.via st7 ?_
      show Go p e below _ (T7.setTop (mkF m 40 #[.val (.ref o0), .val (.ref o1), .val (.ref o1)] [(.int u2)]))
      refine Go.via (T' := T7.setTop (mkF m 41 #[.val (.ref o0), .val (.ref o1), .val (.ref o1)] [(.ref o1), (.int u2)])) (fun tZ kZ => ?_) ?_
      · show Steps p.tables e below (T7.setTop (mkF m 40 #[.val (.ref o0), .val (.ref o1), .val (.ref o1)] [(.int u2)])) _
        refine XS.aloadN X7.here hx rfl (hb hby d4_40) rfl rfl ?_
        show Steps p.tables e below (T7.setTop (mkF m 41 #[.val (.ref o0), .val (.ref o1), .val (.ref o1)] [(.ref o1), (.int u2)])) _
        exact kZ
      obtain ⟨T8, X8, e8, st8⟩ := getF X7 hx hZ hown (host := "") (Or.inl (hw _ (List.mem_of_getElem? (i := 13) rfl))) Via.refl e7 ha7 (g := (mkF m 41 #[.val (.ref o0), .val (.ref o1), .val (.ref o1)] [(.ref o1), (.int u2)])) rfl rfl (hb hby d4_41)
      refine Go.via st8 ?_
      show Go p e below _ (T8.setTop (mkF m 44 #[.val (.ref o0), .val (.ref o1), .val (.ref o1)] [(.int v2), (.int u2)]))
      by_cases hc44 : u2 = v2
      · refine Go.via (T' := T8.setTop (mkF m 47 #[.val (.ref o0), .val (.ref o1), .val (.ref o1)] [])) (fun tZ kZ => ?_) ?_
        · show Steps p.tables e below (T8.setTop (mkF m 44 #[.val (.ref o0), .val (.ref o1), .val (.ref o1)] [(.int v2), (.int u2)])) _
          refine XS.icmpNo X8.here hx rfl (hb hby d4_44) rfl (teq hc44).2 ?_
          exact kZ
        refine Go.via (T' := T8.setTop (mkF m 48 #[.val (.ref o0), .val (.ref o1), .val (.ref o1)] [(.ref o0)])) (fun tZ kZ => ?_) ?_
        · show Steps p.tables e below (T8.setTop (mkF m 47 #[.val (.ref o0), .val (.ref o1), .val (.ref o1)] [])) _
          refine XS.aloadN X8.here hx rfl (hb hby d4_47) rfl rfl ?_
          show Steps p.tables e below (T8.setTop (mkF m 48 #[.val (.ref o0), .val (.ref o1), .val (.ref o1)] [(.ref o0)])) _
          exact kZ
        obtain ⟨T9, X9, e9, st9⟩ := getF X8 hx hZ hown (host := "") (Or.inl (hw _ (List.mem_of_getElem? (i := 15) rfl))) Via.refl e8 ha4 (g := (mkF m 48 #[.val (.ref o0), .val (.ref o1), .val (.ref o1)] [(.ref o0)])) rfl rfl (hb hby d4_48)
        refine Go.via st9 ?_
        show Go p e below _ (T9.setTop (mkF m 51 #[.val (.ref o0), .val (.ref o1), .val (.ref o1)] [(.int u3)]))
        refine Go.via (T' := T9.setTop (mkF m 52 #[.val (.ref o0), .val (.ref o1), .val (.ref o1)] [(.ref o1), (.int u3)])) (fun tZ kZ => ?_) ?_
        · show Steps p.tables e below (T9.setTop (mkF m 51 #[.val (.ref o0), .val (.ref o1), .val (.ref o1)] [(.int u3)])) _
          refine XS.aloadN X9.here hx rfl (hb hby d4_51) rfl rfl ?_
          show Steps p.tables e below (T9.setTop (mkF m 52 #[.val (.ref o0), .val (.ref o1), .val (.ref o1)] [(.ref o1), (.int u3)])) _
          exact kZ
        obtain ⟨T10, X10, e10, st10⟩ := getF X9 hx hZ hown (host := "") (Or.inl (hw _ (List.mem_of_getElem? (i := 15) rfl))) Via.refl e9 ha8 (g := (mkF m 52 #[.val (.ref o0), .val (.ref o1), .val (.ref o1)] [(.ref o1), (.int u3)])) rfl rfl (hb hby d4_52)
        refine Go.via st10 ?_
        show Go p e below _ (T10.setTop (mkF m 55 #[.val (.ref o0), .val (.ref o1), .val (.ref o1)] [(.int v3), (.int u3)]))
        refine Go.via (T' := T10.setTop (mkF m 63 #[.val (.ref o0), .val (.ref o1), .val (.ref o1)] [(.int (if u3 = v3 then (1 : Int32) else (0 : Int32)))])) (fun tZ kZ => ?_) ?_
        · show Steps p.tables e below (T10.setTop (mkF m 55 #[.val (.ref o0), .val (.ref o1), .val (.ref o1)] [(.int v3), (.int u3)])) _
          have sg55 : Steps p.tables e below (T10.setTop (mkF m 63 #[.val (.ref o0), .val (.ref o1), .val (.ref o1)] [(.int (if u3 = v3 then (1 : Int32) else (0 : Int32)))])) tZ → Steps p.tables e below (T10.setTop (mkF m 55 #[.val (.ref o0), .val (.ref o1), .val (.ref o1)] [(.int v3), (.int u3)])) tZ := by
            intro kj
            by_cases hc55 : u3 = v3
            · try simp only [if_pos hc55] at kj
              refine XS.icmpNo X10.here hx rfl (hb hby d4_55) rfl (teq hc55).2 ?_
              show Steps p.tables e below (T10.setTop (mkF m 58 #[.val (.ref o0), .val (.ref o1), .val (.ref o1)] [])) _
              refine XS.iconst X10.here hx rfl (hb hby d4_58) ?_
              show Steps p.tables e below (T10.setTop (mkF m 59 #[.val (.ref o0), .val (.ref o1), .val (.ref o1)] [(.int (1 : Int32))])) _
              refine XS.goto X10.here hx rfl (pc0 := 59) (pc' := 63) rfl (hb hby d4_59) (by decide) (by decide) ?_
              show Steps p.tables e below (T10.setTop (mkF m 63 #[.val (.ref o0), .val (.ref o1), .val (.ref o1)] [(.int (1 : Int32))])) _
              exact kj
            · try simp only [if_neg hc55] at kj
              refine XS.icmpYes X10.here hx rfl (pc0 := 55) (pc' := 62) rfl (hb hby d4_55) rfl (feq hc55).2 (by decide) (by decide) ?_
              show Steps p.tables e below (T10.setTop (mkF m 62 #[.val (.ref o0), .val (.ref o1), .val (.ref o1)] [])) _
              refine XS.iconst X10.here hx rfl (hb hby d4_62) ?_
              show Steps p.tables e below (T10.setTop (mkF m 63 #[.val (.ref o0), .val (.ref o1), .val (.ref o1)] [(.int (0 : Int32))])) _
              exact kj
          refine sg55 ?_
          show Steps p.tables e below (T10.setTop (mkF m 63 #[.val (.ref o0), .val (.ref o1), .val (.ref o1)] [(.int (if u3 = v3 then (1 : Int32) else (0 : Int32)))])) _
          exact kZ
        refine Go.retN X10 hx Bd.notSynchronized (t := .boolean) Bd.returns (by simp) (hb hby d4_63) (by decide) (by decide) ?_
        refine ⟨?_, N0, e10⟩
        show some ((Value.int (nar .boolean (if u3 = v3 then (1 : Int32) else (0 : Int32)))) : Value) = some (.int (f4 o0 o1 u0 u1 u2 u3 v0 v1 v2 v3))
        unfold f4; rw [if_pos hc22, if_pos hc33, if_pos hc44] <;> rfl
      · refine Go.via (T' := T8.setTop (mkF m 62 #[.val (.ref o0), .val (.ref o1), .val (.ref o1)] [])) (fun tZ kZ => ?_) ?_
        · show Steps p.tables e below (T8.setTop (mkF m 44 #[.val (.ref o0), .val (.ref o1), .val (.ref o1)] [(.int v2), (.int u2)])) _
          refine XS.icmpYes X8.here hx rfl (pc0 := 44) (pc' := 62) rfl (hb hby d4_44) rfl (feq hc44).2 (by decide) (by decide) ?_
          exact kZ
        refine Go.via (T' := T8.setTop (mkF m 63 #[.val (.ref o0), .val (.ref o1), .val (.ref o1)] [(.int (0 : Int32))])) (fun tZ kZ => ?_) ?_
        · show Steps p.tables e below (T8.setTop (mkF m 62 #[.val (.ref o0), .val (.ref o1), .val (.ref o1)] [])) _
          refine XS.iconst X8.here hx rfl (hb hby d4_62) ?_
          show Steps p.tables e below (T8.setTop (mkF m 63 #[.val (.ref o0), .val (.ref o1), .val (.ref o1)] [(.int (0 : Int32))])) _
          exact kZ
        refine Go.retN X8 hx Bd.notSynchronized (t := .boolean) Bd.returns (by simp) (hb hby d4_63) (by decide) (by decide) ?_
        refine ⟨?_, N0, e8⟩
        show some ((Value.int (nar .boolean (0 : Int32))) : Value) = some (.int (f4 o0 o1 u0 u1 u2 u3 v0 v1 v2 v3))
        unfold f4; rw [if_pos hc22, if_pos hc33, if_neg hc44] <;> rfl
    · refine Go.via (T' := T6.setTop (mkF m 62 #[.val (.ref o0), .val (.ref o1), .val (.ref o1)] [])) (fun tZ kZ => ?_) ?_
      · show Steps p.tables e below (T6.setTop (mkF m 33 #[.val (.ref o0), .val (.ref o1), .val (.ref o1)] [(.int v1), (.int u1)])) _
        refine XS.icmpYes X6.here hx rfl (pc0 := 33) (pc' := 62) rfl (hb hby d4_33) rfl (feq hc33).2 (by decide) (by decide) ?_
        exact kZ
      refine Go.via (T' := T6.setTop (mkF m 63 #[.val (.ref o0), .val (.ref o1), .val (.ref o1)] [(.int (0 : Int32))])) (fun tZ kZ => ?_) ?_
      · show Steps p.tables e below (T6.setTop (mkF m 62 #[.val (.ref o0), .val (.ref o1), .val (.ref o1)] [])) _
        refine XS.iconst X6.here hx rfl (hb hby d4_62) ?_
        show Steps p.tables e below (T6.setTop (mkF m 63 #[.val (.ref o0), .val (.ref o1), .val (.ref o1)] [(.int (0 : Int32))])) _
        exact kZ
      refine Go.retN X6 hx Bd.notSynchronized (t := .boolean) Bd.returns (by simp) (hb hby d4_63) (by decide) (by decide) ?_
      refine ⟨?_, N0, e6⟩
      show some ((Value.int (nar .boolean (0 : Int32))) : Value) = some (.int (f4 o0 o1 u0 u1 u2 u3 v0 v1 v2 v3))
      unfold f4; rw [if_pos hc22, if_neg hc33] <;> rfl
  · refine Go.via (T' := T4.setTop (mkF m 62 #[.val (.ref o0), .val (.ref o1), .val (.ref o1)] [])) (fun tZ kZ => ?_) ?_
    · show Steps p.tables e below (T4.setTop (mkF m 22 #[.val (.ref o0), .val (.ref o1), .val (.ref o1)] [(.int v0), (.int u0)])) _
      refine XS.icmpYes X4.here hx rfl (pc0 := 22) (pc' := 62) rfl (hb hby d4_22) rfl (feq hc22).2 (by decide) (by decide) ?_
      exact kZ
    refine Go.via (T' := T4.setTop (mkF m 63 #[.val (.ref o0), .val (.ref o1), .val (.ref o1)] [(.int (0 : Int32))])) (fun tZ kZ => ?_) ?_
    · show Steps p.tables e below (T4.setTop (mkF m 62 #[.val (.ref o0), .val (.ref o1), .val (.ref o1)] [])) _
      refine XS.iconst X4.here hx rfl (hb hby d4_62) ?_
      show Steps p.tables e below (T4.setTop (mkF m 63 #[.val (.ref o0), .val (.ref o1), .val (.ref o1)] [(.int (0 : Int32))])) _
      exact kZ
    refine Go.retN X4 hx Bd.notSynchronized (t := .boolean) Bd.returns (by simp) (hb hby d4_63) (by decide) (by decide) ?_
    refine ⟨?_, N0, e4⟩
    show some ((Value.int (nar .boolean (0 : Int32))) : Value) = some (.int (f4 o0 o1 u0 u1 u2 u3 v0 v1 v2 v3))
    unfold f4; rw [if_neg hc22] <;> rfl
theorem d4_7 : decode prog_94_method_2_code 7 = .ok (.iconst 0, 1) := by decide +kernel
theorem d4_8 : decode prog_94_method_2_code 8 = .ok (.ireturn, 1) := by decide +kernel
def Q4n (Z : State) (o0 : Addr) (h0 : Heap) (n0 : Nat) (v : Option Value) (h : Heap) (L : List Loc) : Prop := v = some (.int (0 : Int32)) ∧ Fr n0 L ∧ h = h0
theorem ef_4_an (m : MethodId) (x0 : Addr) : entryFrame m #[(.ref x0), .null] 3 = mkF m 0 #[.val (.ref x0), .val .null, .unset] [] := by first | (simp [entryFrame, mkF, argsToLocals, Value.category]; done) | rfl
set_option maxRecDepth 65536 in
set_option maxHeartbeats 40000000 in
theorem rm4n (l : Launch) (Z : State) (a0 : Array Value) (hw : ∀ d ∈ tables_1, d.before a0 Z = true) (ws : List Jvm.Cond) (o0 : Addr) (h0 : Heap) (n0 : Nat) (Z0 : n0 ≤ h0.size) :
    MetFree l (⟨"com/example/ltlconv/ltlconv/ldba/RecurrenceParts$State", "equals", "(Ljava/lang/Object;)Z"⟩ : MethodName) (head1 (Jvm.Cond.code (⟨"com/example/ltlconv/ltlconv/ldba/RecurrenceParts$State", "equals", "(Ljava/lang/Object;)Z"⟩ : MethodName) prog_94_method_2_code 3 (some .boolean) :: ws) ({ frames := 0, cells := 0, slots := 0, locals := 0 } : Room)) (fun a U => a = #[(.ref o0), .null] ∧ Z.Warmed39 U.vm ∧ U.heap = h0) (fun _ _ _ _ _ => True) (fun _ U o U' => ∃ v L, o = .returned v ∧ Q4n Z o0 h0 n0 v U'.heap L ∧ FrameEnd U o U' L ({ frames := 0, cells := 0, slots := 0, locals := 0 } : Room).cells ({ frames := 0, cells := 0, slots := 0, locals := 0 } : Room).slots) := by
  refine MetFree.of_bodySF (plainFor_of_name pn_0) hisR ?_
  intro p e s m args below meth c s₁ Bd hml0 hP hK
  obtain ⟨rfl, hZ, hh⟩ := hP
  have hx := Bd.exec
  have hby := Bd.bytes
  have hml : c.maxLocals = 3 := hml0
  have hown : s.vm.findClass "com/example/ltlconv/ltlconv/ldba/RecurrenceParts$State" = some m.cls := findClass_of_methodNamed Bd.named
  have hnm := (name_of_methodNamed Bd.named Bd.method).1
  have X0 : Stand p l e ({ frames := 0, cells := 0, slots := 0, locals := 0 } : Room) s m #[(.ref o0), .null] below meth c s₁ [] 0 0 := Stand.of_body Bd
  have e0 : s₁.heap = h0 := by rw [← hh, Bd.state]; rfl
  have N0 := Fr.nil n0
  refine Go.into (P := fun oo uu => ∃ v L, oo = .returned v ∧ Q4n Z o0 h0 n0 v uu.heap L ∧ FrameEnd s oo uu L ({ frames := 0, cells := 0, slots := 0, locals := 0 } : Room).cells ({ frames := 0, cells := 0, slots := 0, locals := 0 } : Room).slots) (ef_4_an m o0) ?_
  show Go p e below _ (s₁.setTop (mkF m 0 #[.val (.ref o0), .val .null, .unset] []))
  refine Go.via (T' := s₁.setTop (mkF m 1 #[.val (.ref o0), .val .null, .unset] [.null])) (fun tZ kZ => ?_) ?_
  · show Steps p.tables e below (s₁.setTop (mkF m 0 #[.val (.ref o0), .val .null, .unset] [])) _
    refine XS.aloadN X0.here hx rfl (hb hby d4_0) rfl rfl ?_
    show Steps p.tables e below (s₁.setTop (mkF m 1 #[.val (.ref o0), .val .null, .unset] [.null])) _
    exact kZ
  refine Go.via (T' := s₁.setTop (mkF m 4 #[.val (.ref o0), .val .null, .unset] [(.int (0 : Int32))])) (fun tZ kZ => ?_) ?_
  · show Steps p.tables e below (s₁.setTop (mkF m 1 #[.val (.ref o0), .val .null, .unset] [.null])) _
    refine X0.instanceofNull hx (g := (mkF m 1 #[.val (.ref o0), .val .null, .unset] [.null])) rfl rfl (hb hby d4_1) _ ?_
    exact kZ
  refine Go.via (T' := s₁.setTop (mkF m 8 #[.val (.ref o0), .val .null, .unset] [(.int (0 : Int32))])) (fun tZ kZ => ?_) ?_
  · show Steps p.tables e below (s₁.setTop (mkF m 4 #[.val (.ref o0), .val .null, .unset] [(.int (0 : Int32))])) _
    refine XS.ifNo X0.here hx rfl (hb hby d4_4) rfl ((if0 _ _).trans (teq (by decide)).2) ?_
    show Steps p.tables e below (s₁.setTop (mkF m 7 #[.val (.ref o0), .val .null, .unset] [])) _
    refine XS.iconst X0.here hx rfl (hb hby d4_7) ?_
    show Steps p.tables e below (s₁.setTop (mkF m 8 #[.val (.ref o0), .val .null, .unset] [(.int (0 : Int32))])) _
    exact kZ
  refine Go.retN X0 hx Bd.notSynchronized (t := .boolean) Bd.returns (by simp) (hb hby d4_8) (by decide) (by decide) ?_
  rw [e0]
  exact ⟨rfl, N0, rfl⟩
def Q4i (Z : State) (o0 : Addr) (o1 : Addr) (h0 : Heap) (n0 : Nat) (v : Option Value) (h : Heap) (L : List Loc) : Prop := v = some (.int (0 : Int32)) ∧ Fr n0 L ∧ h = h0
set_option maxRecDepth 65536 in
set_option maxHeartbeats 40000000 in
theorem rm4i (l : Launch) (Z : State) (a0 : Array Value) (hw : ∀ d ∈ tables_1, d.before a0 Z = true) (ws : List Jvm.Cond) (o0 : Addr) (o1 : Addr) (h0 : Heap) (n0 : Nat) (Z0 : n0 ≤ h0.size) (ha0 : Exa Z h0 o1 "java/lang/Integer") :
    MetFree l (⟨"com/example/ltlconv/ltlconv/ldba/RecurrenceParts$State", "equals", "(Ljava/lang/Object;)Z"⟩ : MethodName) (head1 (Jvm.Cond.code (⟨"com/example/ltlconv/ltlconv/ldba/RecurrenceParts$State", "equals", "(Ljava/lang/Object;)Z"⟩ : MethodName) prog_94_method_2_code 3 (some .boolean) :: ws) ({ frames := 0, cells := 0, slots := 0, locals := 0 } : Room)) (fun a U => a = #[(.ref o0), (.ref o1)] ∧ Z.Warmed39 U.vm ∧ U.heap = h0) (fun _ _ _ _ _ => True) (fun _ U o U' => ∃ v L, o = .returned v ∧ Q4i Z o0 o1 h0 n0 v U'.heap L ∧ FrameEnd U o U' L ({ frames := 0, cells := 0, slots := 0, locals := 0 } : Room).cells ({ frames := 0, cells := 0, slots := 0, locals := 0 } : Room).slots) := by
  refine MetFree.of_bodySF (plainFor_of_name pn_0) hisR ?_
  intro p e s m args below meth c s₁ Bd hml0 hP hK
  obtain ⟨rfl, hZ, hh⟩ := hP
  have hx := Bd.exec
  have hby := Bd.bytes
  have hml : c.maxLocals = 3 := hml0
  have hown : s.vm.findClass "com/example/ltlconv/ltlconv/ldba/RecurrenceParts$State" = some m.cls := findClass_of_methodNamed Bd.named
  have hnm := (name_of_methodNamed Bd.named Bd.method).1
  have X0 : Stand p l e ({ frames := 0, cells := 0, slots := 0, locals := 0 } : Room) s m #[(.ref o0), (.ref o1)] below meth c s₁ [] 0 0 := Stand.of_body Bd
  have e0 : s₁.heap = h0 := by rw [← hh, Bd.state]; rfl
  have N0 := Fr.nil n0
  refine Go.into (P := fun oo uu => ∃ v L, oo = .returned v ∧ Q4i Z o0 o1 h0 n0 v uu.heap L ∧ FrameEnd s oo uu L ({ frames := 0, cells := 0, slots := 0, locals := 0 } : Room).cells ({ frames := 0, cells := 0, slots := 0, locals := 0 } : Room).slots) (ef_4_aa m o0 o1) ?_
  show Go p e below _ (s₁.setTop (mkF m 0 #[.val (.ref o0), .val (.ref o1), .unset] []))
  refine Go.via (T' := s₁.setTop (mkF m 1 #[.val (.ref o0), .val (.ref o1), .unset] [(.ref o1)])) (fun tZ kZ => ?_) ?_
  · show Steps p.tables e below (s₁.setTop (mkF m 0 #[.val (.ref o0), .val (.ref o1), .unset] [])) _
    refine XS.aloadN X0.here hx rfl (hb hby d4_0) rfl rfl ?_
    show Steps p.tables e below (s₁.setTop (mkF m 1 #[.val (.ref o0), .val (.ref o1), .unset] [(.ref o1)])) _
    exact kZ
  obtain ⟨T1, X1, e1, st1⟩ := instNo X0 hx hZ hown (hw _ (List.mem_of_getElem? (i := 29) rfl)) e0 ha0 (own_nsno (hw _ (List.mem_of_getElem? (i := 31) rfl)) (hw _ (List.mem_of_getElem? (i := 1) rfl)) (NS.step (hw _ (List.mem_of_getElem? (i := 31) rfl)) (NS.step (hw _ (List.mem_of_getElem? (i := 32) rfl)) (own_nsroot (hw _ (List.mem_of_getElem? (i := 33) rfl)) (hw _ (List.mem_of_getElem? (i := 1) rfl)) (by decide)) (by decide)) (by decide)) (by decide)) (g := (mkF m 1 #[.val (.ref o0), .val (.ref o1), .unset] [(.ref o1)])) rfl rfl (hb hby d4_1)
  refine Go.via st1 ?_
  show Go p e below _ (T1.setTop (mkF m 4 #[.val (.ref o0), .val (.ref o1), .unset] [(.int (0 : Int32))]))
  refine Go.via (T' := T1.setTop (mkF m 8 #[.val (.ref o0), .val (.ref o1), .unset] [(.int (0 : Int32))])) (fun tZ kZ => ?_) ?_
  · show Steps p.tables e below (T1.setTop (mkF m 4 #[.val (.ref o0), .val (.ref o1), .unset] [(.int (0 : Int32))])) _
    refine XS.ifNo X1.here hx rfl (hb hby d4_4) rfl ((if0 _ _).trans (teq (by decide)).2) ?_
    show Steps p.tables e below (T1.setTop (mkF m 7 #[.val (.ref o0), .val (.ref o1), .unset] [])) _
    refine XS.iconst X1.here hx rfl (hb hby d4_7) ?_
    show Steps p.tables e below (T1.setTop (mkF m 8 #[.val (.ref o0), .val (.ref o1), .unset] [(.int (0 : Int32))])) _
    exact kZ
  refine Go.retN X1 hx Bd.notSynchronized (t := .boolean) Bd.returns (by simp) (hb hby d4_8) (by decide) (by decide) ?_
  rw [e1]
  exact ⟨rfl, N0, rfl⟩
theorem d6_0 : decode jdk_18_method_1_code 0 = .ok (.aload_n 0, 1) := by decide +kernel
theorem d6_1 : decode jdk_18_method_1_code 1 = .ok (.invokespecial 1, 3) := by decide +kernel
theorem d6_4 : decode jdk_18_method_1_code 4 = .ok (.return_, 1) := by decide +kernel
def Q6 (Z : State) (o0 : Addr) (h0 : Heap) (n0 : Nat) (v : Option Value) (h : Heap) (L : List Loc) : Prop := v = none ∧ Fr n0 L ∧ h = h0
theorem pn_1 : plainName "java/lang/Number" = true := by first | (simp [plainName, overriddenIn]; done) | decide +kernel
theorem ef_6_a (m : MethodId) (x0 : Addr) : entryFrame m #[(.ref x0)] 1 = mkF m 0 #[.val (.ref x0)] [] := by first | (simp [entryFrame, mkF, argsToLocals, Value.category]; done) | rfl
set_option maxRecDepth 65536 in
set_option maxHeartbeats 40000000 in
theorem rm6 (l : Launch) (Z : State) (a0 : Array Value) (hw : ∀ d ∈ tables_1, d.before a0 Z = true) (ws : List Jvm.Cond) (o0 : Addr) (h0 : Heap) (n0 : Nat) (Z0 : n0 ≤ h0.size) :
    MetFree l (⟨"java/lang/Number", "<init>", "()V"⟩ : MethodName) (head1 (Jvm.Cond.code (⟨"java/lang/Number", "<init>", "()V"⟩ : MethodName) jdk_18_method_1_code 1 none :: ws) ({ frames := 1, cells := 0, slots := 0, locals := 12 } : Room)) (fun a U => a = #[(.ref o0)] ∧ Z.Warmed39 U.vm ∧ U.heap = h0) (fun _ _ _ _ _ => True) (fun _ U o U' => ∃ v L, o = .returned v ∧ Q6 Z o0 h0 n0 v U'.heap L ∧ FrameEnd U o U' L ({ frames := 1, cells := 0, slots := 0, locals := 12 } : Room).cells ({ frames := 1, cells := 0, slots := 0, locals := 12 } : Room).slots) := by
  refine MetFree.of_bodySF (plainFor_of_name pn_1) hisR ?_
  intro p e s m args below meth c s₁ Bd hml0 hP hK
  obtain ⟨rfl, hZ, hh⟩ := hP
  have hx := Bd.exec
  have hby := Bd.bytes
  have hml : c.maxLocals = 1 := hml0
  have hown : s.vm.findClass "java/lang/Number" = some m.cls := findClass_of_methodNamed Bd.named
  have hnm := (name_of_methodNamed Bd.named Bd.method).1
  have X0 : Stand p l e ({ frames := 1, cells := 0, slots := 0, locals := 12 } : Room) s m #[(.ref o0)] below meth c s₁ [] 0 0 := Stand.of_body Bd
  have e0 : s₁.heap = h0 := by rw [← hh, Bd.state]; rfl
  have N0 := Fr.nil n0
  refine Go.into (P := fun oo uu => ∃ v L, oo = .returned v ∧ Q6 Z o0 h0 n0 v uu.heap L ∧ FrameEnd s oo uu L ({ frames := 1, cells := 0, slots := 0, locals := 12 } : Room).cells ({ frames := 1, cells := 0, slots := 0, locals := 12 } : Room).slots) (ef_6_a m o0) ?_
  show Go p e below _ (s₁.setTop (mkF m 0 #[.val (.ref o0)] []))
  refine Go.via (T' := s₁.setTop (mkF m 1 #[.val (.ref o0)] [(.ref o0)])) (fun tZ kZ => ?_) ?_
  · show Steps p.tables e below (s₁.setTop (mkF m 0 #[.val (.ref o0)] [])) _
    refine XS.aloadN X0.here hx rfl (hb hby d6_0) rfl rfl ?_
    show Steps p.tables e below (s₁.setTop (mkF m 1 #[.val (.ref o0)] [(.ref o0)])) _
    exact kZ
  obtain ⟨T1, X1, e1, st1⟩ := initO X0 hx hZ hown (hw _ (List.mem_of_getElem? (i := 46) rfl)) (hw _ (List.mem_of_getElem? (i := 7) rfl)) (hw _ (List.mem_of_getElem? (i := 8) rfl)) e0 (g := (mkF m 1 #[.val (.ref o0)] [(.ref o0)])) rfl (by rw [hml]; rfl) rfl (hb hby d6_1) (by decide) (W := 0) (by show 2 * 0 + _ ≤ _; exact Nat.le_of_eq rfl) (by decide)
  refine Go.via st1 ?_
  show Go p e below _ (T1.setTop (mkF m 4 #[.val (.ref o0)] []))
  refine Go.retV X1 hx Bd.notSynchronized Bd.returns (hb hby d6_4) (by decide) (by decide) ?_
  rw [e1]
  exact ⟨rfl, N0, rfl⟩
theorem d5_0 : decode jdk_33_method_23_code 0 = .ok (.aload_n 0, 1) := by decide +kernel
theorem pd_1 : parseMethodDescriptor "()V" = some ⟨[], none⟩ := by decide +kernel
theorem d5_1 : decode jdk_33_method_23_code 1 = .ok (.invokespecial 202, 3) := by decide +kernel
theorem d5_4 : decode jdk_33_method_23_code 4 = .ok (.aload_n 0, 1) := by decide +kernel
theorem d5_5 : decode jdk_33_method_23_code 5 = .ok (.iload_n 1, 1) := by decide +kernel
theorem d5_6 : decode jdk_33_method_23_code 6 = .ok (.putfield 205, 3) := by decide +kernel
theorem d5_9 : decode jdk_33_method_23_code 9 = .ok (.return_, 1) := by decide +kernel
def Q5 (Z : State) (o0 : Addr) (p1 : Int32) (u : Int32) (h0 : Heap) (n0 : Nat) (v : Option Value) (h : Heap) (L : List Loc) : Prop := v = none ∧ Fr n0 L ∧ Keep h0 h [o0] ∧ Exa Z h o0 "java/lang/Integer" ∧ Fld Z h o0 "java/lang/Integer" "value" "I" (.int p1)
theorem pn_2 : plainName "java/lang/Integer" = true := by first | (simp [plainName, overriddenIn]; done) | decide +kernel
theorem ef_5_aa (m : MethodId) (x0 : Addr) (x1 : Int32) : entryFrame m #[(.ref x0), (.int x1)] 2 = mkF m 0 #[.val (.ref x0), .val (.int x1)] [] := by first | (simp [entryFrame, mkF, argsToLocals, Value.category]; done) | rfl
set_option maxRecDepth 65536 in
set_option maxHeartbeats 40000000 in
theorem rm5 (l : Launch) (Z : State) (a0 : Array Value) (hw : ∀ d ∈ tables_1, d.before a0 Z = true) (ws : List Jvm.Cond) (o0 : Addr) (p1 : Int32) (u : Int32) (h0 : Heap) (n0 : Nat) (Z0 : n0 ≤ h0.size) (ha0 : Exa Z h0 o0 "java/lang/Integer") (ha1 : Fld Z h0 o0 "java/lang/Integer" "value" "I" (.int u)) (ha2 : n0 ≤ o0) :
    MetFree l (⟨"java/lang/Integer", "<init>", "(I)V"⟩ : MethodName) (head1 (Jvm.Cond.code (⟨"java/lang/Integer", "<init>", "(I)V"⟩ : MethodName) jdk_33_method_23_code 2 none :: ws) ({ frames := 2, cells := 0, slots := 0, locals := 24 } : Room)) (fun a U => a = #[(.ref o0), (.int p1)] ∧ Z.Warmed39 U.vm ∧ U.heap = h0) (fun _ _ _ _ _ => True) (fun _ U o U' => ∃ v L, o = .returned v ∧ Q5 Z o0 p1 u h0 n0 v U'.heap L ∧ FrameEnd U o U' L ({ frames := 2, cells := 0, slots := 0, locals := 24 } : Room).cells ({ frames := 2, cells := 0, slots := 0, locals := 24 } : Room).slots) := by
  refine MetFree.of_bodySF (plainFor_of_name pn_2) hisR ?_
  intro p e s m args below meth c s₁ Bd hml0 hP hK
  obtain ⟨rfl, hZ, hh⟩ := hP
  have hx := Bd.exec
  have hby := Bd.bytes
  have hml : c.maxLocals = 2 := hml0
  have hown : s.vm.findClass "java/lang/Integer" = some m.cls := findClass_of_methodNamed Bd.named
  have hnm := (name_of_methodNamed Bd.named Bd.method).1
  have X0 : Stand p l e ({ frames := 2, cells := 0, slots := 0, locals := 24 } : Room) s m #[(.ref o0), (.int p1)] below meth c s₁ [] 0 0 := Stand.of_body Bd
  have e0 : s₁.heap = h0 := by rw [← hh, Bd.state]; rfl
  have N0 := Fr.nil n0
  refine Go.into (P := fun oo uu => ∃ v L, oo = .returned v ∧ Q5 Z o0 p1 u h0 n0 v uu.heap L ∧ FrameEnd s oo uu L ({ frames := 2, cells := 0, slots := 0, locals := 24 } : Room).cells ({ frames := 2, cells := 0, slots := 0, locals := 24 } : Room).slots) (ef_5_aa m o0 p1) ?_
  show Go p e below _ (s₁.setTop (mkF m 0 #[.val (.ref o0), .val (.int p1)] []))
  refine Go.via (T' := s₁.setTop (mkF m 1 #[.val (.ref o0), .val (.int p1)] [(.ref o0)])) (fun tZ kZ => ?_) ?_
  · show Steps p.tables e below (s₁.setTop (mkF m 0 #[.val (.ref o0), .val (.int p1)] [])) _
    refine XS.aloadN X0.here hx rfl (hb hby d5_0) rfl rfl ?_
    show Steps p.tables e below (s₁.setTop (mkF m 1 #[.val (.ref o0), .val (.int p1)] [(.ref o0)])) _
    exact kZ
  obtain ⟨_, _, ⟨T1, L1, k1, n1⟩, -, X1, ⟨Lc1, hQ1, l1, y1, z1⟩, st1⟩ := X0.specialBack hx (y := (⟨"java/lang/Number", "<init>", "()V"⟩ : MethodName)) rfl hown (mvT hZ (hw _ (List.mem_of_getElem? (i := 40) rfl))) (mvT hZ (hw _ (List.mem_of_getElem? (i := 41) rfl))) (mvT hZ (hw _ (List.mem_of_getElem? (i := 45) rfl))) (by decide) (backOf (W := 0) (rm6 l Z a0 hw [] o0 h0 n0 Z0 ) hZ (hw _ (List.mem_of_getElem? (i := 45) rfl)) (hw _ (List.mem_of_getElem? (i := 44) rfl)) (by decide) (by decide)) (g := (mkF m 1 #[.val (.ref o0), .val (.int p1)] [(.ref o0)])) rfl (by rw [hml]; rfl) (Steps.refl _) (a := o0) (argsL := []) (rest := []) (lenOf pd_1 rfl) rfl (by show 2 * 0 + _ ≤ _; exact Nat.le_of_eq rfl) (hb hby d5_1) (fun _ _ => ⟨rfl, e0, (by decide : 0 + 0 ≤ _), (by decide : 0 + 0 ≤ _)⟩)
  dsimp only [Pt.U, Pt.locs, Pt.cells, Pt.slots] at X1 l1 y1 z1 st1 hQ1
  subst l1 y1 z1
  obtain ⟨rfl, N1q, e1⟩ := hQ1
  have N1 := Fr.app N0 N1q
  refine Go.via (fun t k => st1.trans k) ?_
  show Go p e below _ (T1.setTop (mkF m 4 #[.val (.ref o0), .val (.int p1)] []))
  refine Go.via (T' := T1.setTop (mkF m 6 #[.val (.ref o0), .val (.int p1)] [(.int p1), (.ref o0)])) (fun tZ kZ => ?_) ?_
  · show Steps p.tables e below (T1.setTop (mkF m 4 #[.val (.ref o0), .val (.int p1)] [])) _
    refine XS.aloadN X1.here hx rfl (hb hby d5_4) rfl rfl ?_
    show Steps p.tables e below (T1.setTop (mkF m 5 #[.val (.ref o0), .val (.int p1)] [(.ref o0)])) _
    refine XS.iloadN X1.here hx rfl (hb hby d5_5) rfl ?_
    show Steps p.tables e below (T1.setTop (mkF m 6 #[.val (.ref o0), .val (.int p1)] [(.int p1), (.ref o0)])) _
    exact kZ
  obtain ⟨T2, h2, X2, e2, W2, st2⟩ := putF X1 hx hZ hown (host := "") (Or.inl (hw _ (List.mem_of_getElem? (i := 47) rfl))) Via.refl e1 ha1 ha0 (Or.inr ⟨(hw _ (List.mem_of_getElem? (i := 48) rfl)), rfl, hnm⟩) (hw _ (List.mem_of_getElem? (i := 35) rfl)) (ty := .int) (by decide) rfl rfl (g := (mkF m 6 #[.val (.ref o0), .val (.int p1)] [(.int p1), (.ref o0)])) rfl rfl (hb hby d5_6)
  have N2 := Fr.snoc X2 N1 ha2
  have c3_0 := ha0.wr W2
  have K2 : Keep h0 h2 [o0] := (Keep.refl h0 [o0]).wr W2 (Or.inl (by simp))
  have Z2 : n0 ≤ h2.size := Nat.le_trans Z0 (Keep.of_wr W2).1
  have Fw2 := ha1.same W2
  refine Go.via st2 ?_
  show Go p e below _ (T2.setTop (mkF m 9 #[.val (.ref o0), .val (.int p1)] []))
  refine Go.retV X2 hx Bd.notSynchronized Bd.returns (hb hby d5_9) (by decide) (by decide) ?_
  rw [e2]
  exact ⟨rfl, N2, K2, c3_0, Fw2⟩
theorem own_in {p : Int32} (h1 : ¬ p < (-128 : Int32)) (h2 : ¬ (127 : Int32) < p) {c : Cell} (S : c.slots.size = (256 : Int32).toNatClampNeg) : ¬ ((p + (128 : Int32)) < 0 ∨ c.slots.size ≤ (p + (128 : Int32)).toNatClampNeg) := by
  rw [Int32.lt_iff_toInt_lt] at h1 h2
  have e1 : (-128 : Int32).toInt = -128 := rfl
  have e2 : (127 : Int32).toInt = 127 := rfl
  have e3 : (128 : Int32).toInt = 128 := rfl
  have e0 : (0 : Int32).toInt = 0 := rfl
  have e4 : (256 : Int32).toNatClampNeg = 256 := rfl
  have e := Jvm.Kit.i32_add (p := p) (q := 128) (by omega) (by omega)
  rw [S, e4, Int32.lt_iff_toInt_lt]
  simp only [Int32.toNatClampNeg]
  omega
theorem d3_0 : decode jdk_33_method_22_code 0 = .ok (.iload_n 0, 1) := by decide +kernel
theorem d3_1 : decode jdk_33_method_22_code 1 = .ok (.bipush (-128), 2) := by decide +kernel
theorem d3_3 : decode jdk_33_method_22_code 3 = .ok (.if_icmp .lt 20, 3) := by decide +kernel
theorem d3_23 : decode jdk_33_method_22_code 23 = .ok (.new 1, 3) := by decide +kernel
theorem d3_26 : decode jdk_33_method_22_code 26 = .ok (.dup, 1) := by decide +kernel
theorem d3_27 : decode jdk_33_method_22_code 27 = .ok (.iload_n 0, 1) := by decide +kernel
theorem pd_4 : parseMethodDescriptor "(I)V" = some ⟨[.int], none⟩ := by decide +kernel
theorem d3_28 : decode jdk_33_method_22_code 28 = .ok (.invokespecial 199, 3) := by decide +kernel
theorem d3_31 : decode jdk_33_method_22_code 31 = .ok (.areturn, 1) := by decide +kernel
theorem d3_6 : decode jdk_33_method_22_code 6 = .ok (.iload_n 0, 1) := by decide +kernel
theorem d3_7 : decode jdk_33_method_22_code 7 = .ok (.getstatic 191, 3) := by decide +kernel
theorem d3_10 : decode jdk_33_method_22_code 10 = .ok (.if_icmp .gt 13, 3) := by decide +kernel
theorem d3_13 : decode jdk_33_method_22_code 13 = .ok (.getstatic 195, 3) := by decide +kernel
theorem d3_16 : decode jdk_33_method_22_code 16 = .ok (.iload_n 0, 1) := by decide +kernel
theorem d3_17 : decode jdk_33_method_22_code 17 = .ok (.sipush 128, 3) := by decide +kernel
theorem d3_20 : decode jdk_33_method_22_code 20 = .ok (.iadd, 1) := by decide +kernel
theorem d3_21 : decode jdk_33_method_22_code 21 = .ok (.aaload, 1) := by decide +kernel
theorem d3_22 : decode jdk_33_method_22_code 22 = .ok (.areturn, 1) := by decide +kernel
def QV (Z : State) (h0 : Heap) (n0 : Nat) (v : Option Value) (h : Heap) (L : List Loc) : Prop := ∃ b : Addr, v = some (.ref b) ∧ Fr n0 L ∧ Keep h0 h [] ∧ Exa Z h b "java/lang/Integer"
theorem ef_3_a (m : MethodId) (x0 : Int32) : entryFrame m #[(.int x0)] 1 = mkF m 0 #[.val (.int x0)] [] := by first | (simp [entryFrame, mkF, argsToLocals, Value.category]; done) | rfl
set_option maxRecDepth 65536 in
set_option maxHeartbeats 40000000 in
theorem rm3 (l : Launch) (Z : State) (a0 : Array Value) (hw : ∀ d ∈ tables_1, d.before a0 Z = true) (ws : List Jvm.Cond) (p0 : Int32) (aK : Addr) (cK : Cell) (val : Int32 → Value) (h0 : Heap) (n0 : Nat) (Z0 : n0 ≤ h0.size) (ha0 : Sta Z h0 "java/lang/Integer$IntegerCache" "high" "I" (.int (127 : Int32))) (ha1 : Sta Z h0 "java/lang/Integer$IntegerCache" "cache" "[Ljava/lang/Integer;" (.ref aK)) (ha2 : Old Z n0 h0) (hBx : Bxs Z aK cK "java/lang/Integer" "I" (256 : Int32) val) :
    MetFree l (⟨"java/lang/Integer", "valueOf", "(I)Ljava/lang/Integer;"⟩ : MethodName) (head1 (Jvm.Cond.code (⟨"java/lang/Integer", "valueOf", "(I)Ljava/lang/Integer;"⟩ : MethodName) jdk_33_method_22_code 1 (some (.object "java/lang/Integer")) :: ws) ({ frames := 3, cells := 1, slots := 1, locals := 38 } : Room)) (fun a U => a = #[(.int p0)] ∧ Z.Warmed39 U.vm ∧ U.heap = h0) (fun _ _ _ _ _ => True) (fun _ U o U' => ∃ v L, o = .returned v ∧ QV Z h0 n0 v U'.heap L ∧ FrameEnd U o U' L ({ frames := 3, cells := 1, slots := 1, locals := 38 } : Room).cells ({ frames := 3, cells := 1, slots := 1, locals := 38 } : Room).slots) := by
  refine MetFree.of_bodySF (plainFor_of_name pn_2) hisR ?_
  intro p e s m args below meth c s₁ Bd hml0 hP hK
  obtain ⟨rfl, hZ, hh⟩ := hP
  have hx := Bd.exec
  have hby := Bd.bytes
  have hml : c.maxLocals = 1 := hml0
  have hown : s.vm.findClass "java/lang/Integer" = some m.cls := findClass_of_methodNamed Bd.named
  have hnm := (name_of_methodNamed Bd.named Bd.method).1
  have X0 : Stand p l e ({ frames := 3, cells := 1, slots := 1, locals := 38 } : Room) s m #[(.int p0)] below meth c s₁ [] 0 0 := Stand.of_body Bd
  have e0 : s₁.heap = h0 := by rw [← hh, Bd.state]; rfl
  have N0 := Fr.nil n0
  refine Go.into (P := fun oo uu => ∃ v L, oo = .returned v ∧ QV Z h0 n0 v uu.heap L ∧ FrameEnd s oo uu L ({ frames := 3, cells := 1, slots := 1, locals := 38 } : Room).cells ({ frames := 3, cells := 1, slots := 1, locals := 38 } : Room).slots) (ef_3_a m p0) ?_
  show Go p e below _ (s₁.setTop (mkF m 0 #[.val (.int p0)] []))
  refine Go.via (T' := s₁.setTop (mkF m 3 #[.val (.int p0)] [(.int (-128 : Int32)), (.int p0)])) (fun tZ kZ => ?_) ?_
  · show Steps p.tables e below (s₁.setTop (mkF m 0 #[.val (.int p0)] [])) _
    refine XS.iloadN X0.here hx rfl (hb hby d3_0) rfl ?_
    show Steps p.tables e below (s₁.setTop (mkF m 1 #[.val (.int p0)] [(.int p0)])) _
    refine XS.bipush X0.here hx rfl (hb hby d3_1) ?_
    show Steps p.tables e below (s₁.setTop (mkF m 3 #[.val (.int p0)] [(.int (-128 : Int32)), (.int p0)])) _
    exact kZ
  by_cases hc3 : p0 < (-128 : Int32)
  · refine Go.via (T' := s₁.setTop (mkF m 23 #[.val (.int p0)] [])) (fun tZ kZ => ?_) ?_
    · show Steps p.tables e below (s₁.setTop (mkF m 3 #[.val (.int p0)] [(.int (-128 : Int32)), (.int p0)])) _
      refine XS.icmpYes X0.here hx rfl (pc0 := 3) (pc' := 23) rfl (hb hby d3_3) rfl (tlt hc3).1 (by decide) (by decide) ?_
      exact kZ
    obtain ⟨T1, h1, X1, e1, E1, A1, D1, -, st1⟩ := newO X0 hx hZ hown (hw _ (List.mem_of_getElem? (i := 34) rfl)) (hw _ (List.mem_of_getElem? (i := 35) rfl)) (hw _ (List.mem_of_getElem? (i := 19) rfl)) e0 (g := (mkF m 23 #[.val (.int p0)] [])) rfl (hb hby d3_23) (by decide) (by decide)
    obtain ⟨b1, g1⟩ : ∃ z, z = h0.size := ⟨_, rfl⟩
    rw [← g1] at A1 D1 st1
    have g_b1 : n0 ≤ b1 := Nat.le_trans Z0 (Nat.le_of_eq g1.symm)
    have sz_b1 : h0.size ≤ b1 := Nat.le_trans ((Keep.refl h0 [])).1 (Nat.le_of_eq g1.symm)
    have c2_2 := ha2.ext E1
    have c2_0 := ha0.ext E1
    have c2_1 := ha1.ext E1
    have K1 : Keep h0 h1 [] := (Keep.refl h0 []).ext E1
    have Z1 : n0 ≤ h1.size := Nat.le_trans Z0 E1.1
    have F1_value : Fld Z h1 b1 "java/lang/Integer" "value" "I" (.int (0 : Int32)) := D1 (Or.inr (hw _ (List.mem_of_getElem? (i := 48) rfl))) (ty := .int) (by decide)
    refine Go.via st1 ?_
    show Go p e below _ (T1.setTop (mkF m 26 #[.val (.int p0)] [(.ref b1)]))
    refine Go.via (T' := T1.setTop (mkF m 28 #[.val (.int p0)] [(.int p0), (.ref b1), (.ref b1)])) (fun tZ kZ => ?_) ?_
    · show Steps p.tables e below (T1.setTop (mkF m 26 #[.val (.int p0)] [(.ref b1)])) _
      refine XS.dup X1.here hx rfl (hb hby d3_26) rfl rfl ?_
      show Steps p.tables e below (T1.setTop (mkF m 27 #[.val (.int p0)] [(.ref b1), (.ref b1)])) _
      refine XS.iloadN X1.here hx rfl (hb hby d3_27) rfl ?_
      show Steps p.tables e below (T1.setTop (mkF m 28 #[.val (.int p0)] [(.int p0), (.ref b1), (.ref b1)])) _
      exact kZ
    obtain ⟨_, _, ⟨T3, L3, k3, n3⟩, -, X3, ⟨Lc3, hQ3, l3, y3, z3⟩, st3⟩ := X1.specialBack hx (y := (⟨"java/lang/Integer", "<init>", "(I)V"⟩ : MethodName)) rfl hown (mvT hZ (hw _ (List.mem_of_getElem? (i := 36) rfl))) (mvT hZ (hw _ (List.mem_of_getElem? (i := 37) rfl))) (mvT hZ (hw _ (List.mem_of_getElem? (i := 39) rfl))) (by decide) (backOf (W := 1) (rm5 l Z a0 hw [] b1 p0 (0 : Int32) h1 n0 Z1 A1 F1_value g_b1) hZ (hw _ (List.mem_of_getElem? (i := 39) rfl)) (hw _ (List.mem_of_getElem? (i := 19) rfl)) (by decide) (by decide)) (g := (mkF m 28 #[.val (.int p0)] [(.int p0), (.ref b1), (.ref b1)])) rfl (by rw [hml]; rfl) (Steps.refl _) (a := b1) (argsL := [(.int p0)]) (rest := [(.ref b1)]) (lenOf pd_4 rfl) rfl (by show 2 * 0 + _ ≤ _; exact Nat.le_of_eq rfl) (hb hby d3_28) (fun _ _ => ⟨rfl, e1, (by decide : 0 + 1 + 0 ≤ _), (by decide : 0 + 1 + 0 ≤ _)⟩)
    dsimp only [Pt.U, Pt.locs, Pt.cells, Pt.slots] at X3 l3 y3 z3 st3 hQ3
    subst l3 y3 z3
    obtain ⟨rfl, N3q, Kq3, f3_0, f3_1⟩ := hQ3
    have c4_2 := c2_2.keep Kq3 (allS g_b1 all0)
    have c4_0 := own_sk c2_0 Kq3 (own_ns1 A1.nostat (fun _ _ _ _ => nin0))
    have c4_1 := own_sk c2_1 Kq3 (own_ns1 A1.nostat (fun _ _ _ _ => nin0))
    have K3 : Keep h0 T3.heap [] := K1.trans Kq3 (allS (Or.inr sz_b1) all0)
    have Z3 : n0 ≤ T3.heap.size := Nat.le_trans Z1 Kq3.1
    have N3 := Fr.app N0 N3q
    refine Go.via (fun t k => st3.trans k) ?_
    show Go p e below _ (T3.setTop (mkF m 31 #[.val (.int p0)] [(.ref b1)]))
    refine Go.retR X3 hx Bd.notSynchronized Bd.returns rfl rfl (hb hby d3_31) (by decide) (by decide) ?_
    exact ⟨b1, rfl, N3, K3, f3_0⟩
  · refine Go.via (T' := s₁.setTop (mkF m 6 #[.val (.int p0)] [])) (fun tZ kZ => ?_) ?_
    · show Steps p.tables e below (s₁.setTop (mkF m 3 #[.val (.int p0)] [(.int (-128 : Int32)), (.int p0)])) _
      refine XS.icmpNo X0.here hx rfl (hb hby d3_3) rfl (flt hc3).1 ?_
      exact kZ
    refine Go.via (T' := s₁.setTop (mkF m 7 #[.val (.int p0)] [(.int p0)])) (fun tZ kZ => ?_) ?_
    · show Steps p.tables e below (s₁.setTop (mkF m 6 #[.val (.int p0)] [])) _
      refine XS.iloadN X0.here hx rfl (hb hby d3_6) rfl ?_
      show Steps p.tables e below (s₁.setTop (mkF m 7 #[.val (.int p0)] [(.int p0)])) _
      exact kZ
    obtain ⟨T5, X5, e5, st5⟩ := getS2 X0 hx hZ hown (host := "") (Or.inl (hw _ (List.mem_of_getElem? (i := 21) rfl))) Via.refl e0 ha0 (g := (mkF m 7 #[.val (.int p0)] [(.int p0)])) rfl (hb hby d3_7)
    refine Go.via st5 ?_
    show Go p e below _ (T5.setTop (mkF m 10 #[.val (.int p0)] [(.int (127 : Int32)), (.int p0)]))
    by_cases hc10 : (127 : Int32) < p0
    · refine Go.via (T' := T5.setTop (mkF m 23 #[.val (.int p0)] [])) (fun tZ kZ => ?_) ?_
      · show Steps p.tables e below (T5.setTop (mkF m 10 #[.val (.int p0)] [(.int (127 : Int32)), (.int p0)])) _
        refine XS.icmpYes X5.here hx rfl (pc0 := 10) (pc' := 23) rfl (hb hby d3_10) rfl (tlt hc10).2.2.1 (by decide) (by decide) ?_
        exact kZ
      obtain ⟨T6, h6, X6, e6, E6, A6, D6, -, st6⟩ := newO X5 hx hZ hown (hw _ (List.mem_of_getElem? (i := 34) rfl)) (hw _ (List.mem_of_getElem? (i := 35) rfl)) (hw _ (List.mem_of_getElem? (i := 19) rfl)) e5 (g := (mkF m 23 #[.val (.int p0)] [])) rfl (hb hby d3_23) (by decide) (by decide)
      obtain ⟨b6, g6⟩ : ∃ z, z = h0.size := ⟨_, rfl⟩
      rw [← g6] at A6 D6 st6
      have g_b6 : n0 ≤ b6 := Nat.le_trans Z0 (Nat.le_of_eq g6.symm)
      have sz_b6 : h0.size ≤ b6 := Nat.le_trans ((Keep.refl h0 [])).1 (Nat.le_of_eq g6.symm)
      have c7_2 := ha2.ext E6
      have c7_0 := ha0.ext E6
      have c7_1 := ha1.ext E6
      have K6 : Keep h0 h6 [] := (Keep.refl h0 []).ext E6
      have Z6 : n0 ≤ h6.size := Nat.le_trans Z0 E6.1
      have F6_value : Fld Z h6 b6 "java/lang/Integer" "value" "I" (.int (0 : Int32)) := D6 (Or.inr (hw _ (List.mem_of_getElem? (i := 48) rfl))) (ty := .int) (by decide)
      refine Go.via st6 ?_
      show Go p e below _ (T6.setTop (mkF m 26 #[.val (.int p0)] [(.ref b6)]))
      refine Go.via (T' := T6.setTop (mkF m 28 #[.val (.int p0)] [(.int p0), (.ref b6), (.ref b6)])) (fun tZ kZ => ?_) ?_
      · show Steps p.tables e below (T6.setTop (mkF m 26 #[.val (.int p0)] [(.ref b6)])) _
        refine XS.dup X6.here hx rfl (hb hby d3_26) rfl rfl ?_
        show Steps p.tables e below (T6.setTop (mkF m 27 #[.val (.int p0)] [(.ref b6), (.ref b6)])) _
        refine XS.iloadN X6.here hx rfl (hb hby d3_27) rfl ?_
        show Steps p.tables e below (T6.setTop (mkF m 28 #[.val (.int p0)] [(.int p0), (.ref b6), (.ref b6)])) _
        exact kZ
      obtain ⟨_, _, ⟨T8, L8, k8, n8⟩, -, X8, ⟨Lc8, hQ8, l8, y8, z8⟩, st8⟩ := X6.specialBack hx (y := (⟨"java/lang/Integer", "<init>", "(I)V"⟩ : MethodName)) rfl hown (mvT hZ (hw _ (List.mem_of_getElem? (i := 36) rfl))) (mvT hZ (hw _ (List.mem_of_getElem? (i := 37) rfl))) (mvT hZ (hw _ (List.mem_of_getElem? (i := 39) rfl))) (by decide) (backOf (W := 1) (rm5 l Z a0 hw [] b6 p0 (0 : Int32) h6 n0 Z6 A6 F6_value g_b6) hZ (hw _ (List.mem_of_getElem? (i := 39) rfl)) (hw _ (List.mem_of_getElem? (i := 19) rfl)) (by decide) (by decide)) (g := (mkF m 28 #[.val (.int p0)] [(.int p0), (.ref b6), (.ref b6)])) rfl (by rw [hml]; rfl) (Steps.refl _) (a := b6) (argsL := [(.int p0)]) (rest := [(.ref b6)]) (lenOf pd_4 rfl) rfl (by show 2 * 0 + _ ≤ _; exact Nat.le_of_eq rfl) (hb hby d3_28) (fun _ _ => ⟨rfl, e6, (by decide : 0 + 1 + 0 ≤ _), (by decide : 0 + 1 + 0 ≤ _)⟩)
      dsimp only [Pt.U, Pt.locs, Pt.cells, Pt.slots] at X8 l8 y8 z8 st8 hQ8
      subst l8 y8 z8
      obtain ⟨rfl, N8q, Kq8, f8_0, f8_1⟩ := hQ8
      have c9_2 := c7_2.keep Kq8 (allS g_b6 all0)
      have c9_0 := own_sk c7_0 Kq8 (own_ns1 A6.nostat (fun _ _ _ _ => nin0))
      have c9_1 := own_sk c7_1 Kq8 (own_ns1 A6.nostat (fun _ _ _ _ => nin0))
      have K8 : Keep h0 T8.heap [] := K6.trans Kq8 (allS (Or.inr sz_b6) all0)
      have Z8 : n0 ≤ T8.heap.size := Nat.le_trans Z6 Kq8.1
      have N8 := Fr.app N0 N8q
      refine Go.via (fun t k => st8.trans k) ?_
      show Go p e below _ (T8.setTop (mkF m 31 #[.val (.int p0)] [(.ref b6)]))
      refine Go.retR X8 hx Bd.notSynchronized Bd.returns rfl rfl (hb hby d3_31) (by decide) (by decide) ?_
      exact ⟨b6, rfl, N8, K8, f8_0⟩
    · refine Go.via (T' := T5.setTop (mkF m 13 #[.val (.int p0)] [])) (fun tZ kZ => ?_) ?_
      · show Steps p.tables e below (T5.setTop (mkF m 10 #[.val (.int p0)] [(.int (127 : Int32)), (.int p0)])) _
        refine XS.icmpNo X5.here hx rfl (hb hby d3_10) rfl (flt hc10).2.2.1 ?_
        exact kZ
      obtain ⟨T10, X10, e10, st10⟩ := getS2 X5 hx hZ hown (host := "") (Or.inl (hw _ (List.mem_of_getElem? (i := 23) rfl))) Via.refl e5 ha1 (g := (mkF m 13 #[.val (.int p0)] [])) rfl (hb hby d3_13)
      refine Go.via st10 ?_
      show Go p e below _ (T10.setTop (mkF m 16 #[.val (.int p0)] [(.ref aK)]))
      refine Go.via (T' := T10.setTop (mkF m 21 #[.val (.int p0)] [(.int (p0 + (128 : Int32))), (.ref aK)])) (fun tZ kZ => ?_) ?_
      · show Steps p.tables e below (T10.setTop (mkF m 16 #[.val (.int p0)] [(.ref aK)])) _
        refine XS.iloadN X10.here hx rfl (hb hby d3_16) rfl ?_
        show Steps p.tables e below (T10.setTop (mkF m 17 #[.val (.int p0)] [(.int p0), (.ref aK)])) _
        refine XS.sipush X10.here hx rfl (hb hby d3_17) ?_
        show Steps p.tables e below (T10.setTop (mkF m 20 #[.val (.int p0)] [(.int (128 : Int32)), (.int p0), (.ref aK)])) _
        refine XS.iadd X10.here hx rfl (hb hby d3_20) rfl ?_
        show Steps p.tables e below (T10.setTop (mkF m 21 #[.val (.int p0)] [(.int (p0 + (128 : Int32))), (.ref aK)])) _
        exact kZ
      have hin := own_in hc3 hc10 hBx.2.1
      obtain ⟨bx, hat, hex, -⟩ := hBx.2.2.2 _ hin
      refine Go.via (T' := T10.setTop (mkF m 22 #[.val (.int p0)] [(.ref bx)])) (fun tZ kZ => ?_) ?_
      · show Steps p.tables e below (T10.setTop (mkF m 21 #[.val (.int p0)] [(.int (p0 + (128 : Int32))), (.ref aK)])) _
        refine X10.aaload hx (v := .ref bx) (by rw [e10]; exact (hBx.1.ext ha2.2).1) (State.isArrayOf_alike hZ.alike hBx.1.2.1) rfl hBx.1.2.2 hin hat (g := (mkF m 21 #[.val (.int p0)] [(.int (p0 + (128 : Int32))), (.ref aK)])) rfl rfl (hb hby d3_21) _ ?_
        exact kZ
      show Go p e below _ (T10.setTop (mkF m 22 #[.val (.int p0)] [(.ref bx)]))
      refine Go.retR X10 hx Bd.notSynchronized Bd.returns rfl rfl (hb hby d3_22) (by decide) (by decide) ?_
      rw [e10]
      exact ⟨bx, rfl, N0, Keep.refl _ _, hex.ext ha2.2⟩
theorem own_len31 {t : Term} {a : Addr} {cl : Cell} {ty : FieldType} {n : Int32} {args : Array Value} {s : State} (ht : t.eval args s none [] s = some (.ref a)) (A : Arr s s.heap a cl ty) (hl : (Term.length t).eval args s none [] s = some (.int n)) : cl.slots.size < 2 ^ 31 ∧ cl.slots.size.toInt32 = n := by
  have ha : s.arrayAt? a = some cl := A.fin (Vm.Alike.refl _)
  by_cases q : cl.slots.size < 2 ^ 31
  · rw [len_f ht ha q] at hl
    cases hl
    exact ⟨q, rfl⟩
  · simp [Term.eval, ht, ha, q] at hl
theorem own_sub128 {args : Array Value} {s : State} (j : Int32) (hj : ¬ j < 0) : (Term.sub (Term.index 0) (Term.int 128)).eval args s none [j.toNatClampNeg] s = some (.int (j - 128)) := by
  have e := idx_at (args := args) (first := s) (o := none) (s := s) hj
  simp [Term.eval] at e ⊢
  rw [e]
theorem own_f (o o' : Addr) (a b c d x y z t : Int32) : f4 o o' a b c d x y z t = if a = x then (if b = y then (if c = z then (if d = t then 1 else 0) else 0) else 0) else 0 := by
  unfold f4
  by_cases h1 : a = x <;> by_cases h2 : b = y <;> by_cases h3 : c = z <;> by_cases h4 : d = t <;> simp [h1, h2, h3, h4, nar]
theorem own_f' (o o' : Addr) (a b c d x y z t : Int32) : f4 o o' x y z t a b c d = if a = x then (if b = y then (if c = z then (if d = t then 1 else 0) else 0) else 0) else 0 := by
  rw [own_f]; simp only [eq_comm]
theorem own_rf (o o' : Addr) (a b c d : Int32) : ¬ f4 o o' a b c d a b c d = 0 := by rw [own_f]; simp
theorem own_xor (a d : Int32) : a = a ^^^ d ↔ d = 0 := by
  constructor
  · intro h
    have q : a ^^^ a = a ^^^ (a ^^^ d) := congrArg (a ^^^ ·) h
    rw [Int32.xor_self, ← Int32.xor_assoc, Int32.xor_self, Int32.zero_xor] at q
    exact q.symm
  · rintro rfl; simp
theorem own_d (w m d : Int32) (hd : d ≠ 0) : (if (w &&& m) = 0 then (0 : Int32) else d) = 0 ↔ (w &&& m) = 0 := by
  split <;> simp_all
theorem own_dn (x : Int32) : (if x = 0 then (1 : Int32) else x) ≠ 0 := by split <;> simp_all
theorem own_or (w a b : Int32) : w &&& (a ||| b) = (w &&& a) ||| (w &&& b) := by
  apply Int32.toBitVec_inj.mp
  simp only [Int32.toBitVec_and, Int32.toBitVec_or]
  apply BitVec.eq_of_getLsbD_eq
  intro i hi
  simp only [BitVec.getLsbD_and, BitVec.getLsbD_or]
  cases w.toBitVec.getLsbD i <;> simp
theorem own_15 (w : Int32) : (w &&& 15) = 0 ↔ (w &&& 1) = 0 ∧ (w &&& 2) = 0 ∧ (w &&& 4) = 0 ∧ (w &&& 8) = 0 := by
  constructor
  · intro h
    have k : ∀ m : Int32, 15 &&& m = m → w &&& m = 0 := fun m hm => by
      rw [← hm, ← Int32.and_assoc, h, Int32.zero_and]
    exact ⟨k 1 rfl, k 2 rfl, k 4 rfl, k 8 rfl⟩
  · rintro ⟨a, b, c, d⟩
    have e : (15 : Int32) = 1 ||| (2 ||| (4 ||| 8)) := rfl
    rw [e, own_or, own_or, own_or, a, b, c, d]; rfl
theorem own_if (w d : Int32) (hd : d ≠ 0) (a b c e : Int32) : (if a = a ^^^ (if (w &&& 1) = 0 then (0 : Int32) else d) then (if b = b ^^^ (if (w &&& 2) = 0 then (0 : Int32) else d) then (if c = c ^^^ (if (w &&& 4) = 0 then (0 : Int32) else d) then (if e = e ^^^ (if (w &&& 8) = 0 then (0 : Int32) else d) then (1 : Int32) else 0) else 0) else 0) else 0) = if (w &&& 15) = 0 then 1 else 0 := by
  simp only [own_xor, own_d _ _ _ hd, own_15]
  by_cases h1 : w &&& 1 = 0 <;> by_cases h2 : w &&& 2 = 0 <;> by_cases h3 : w &&& 4 = 0 <;> by_cases h4 : w &&& 8 = 0 <;> simp [h1, h2, h3, h4]
theorem own_m (o o' : Addr) (a b c e p4 w : Int32) : f4 o o' a b c e (a ^^^ (if (w &&& 1) = 0 then (0 : Int32) else (if p4 = 0 then (1 : Int32) else p4))) (b ^^^ (if (w &&& 2) = 0 then (0 : Int32) else (if p4 = 0 then (1 : Int32) else p4))) (c ^^^ (if (w &&& 4) = 0 then (0 : Int32) else (if p4 = 0 then (1 : Int32) else p4))) (e ^^^ (if (w &&& 8) = 0 then (0 : Int32) else (if p4 = 0 then (1 : Int32) else p4))) = if (w &&& 15) = 0 then 1 else 0 := by
  rw [own_f]; exact own_if w _ (own_dn p4) a b c e
theorem own_m' (o o' : Addr) (a b c e p4 w : Int32) : f4 o o' (a ^^^ (if (w &&& 1) = 0 then (0 : Int32) else (if p4 = 0 then (1 : Int32) else p4))) (b ^^^ (if (w &&& 2) = 0 then (0 : Int32) else (if p4 = 0 then (1 : Int32) else p4))) (c ^^^ (if (w &&& 4) = 0 then (0 : Int32) else (if p4 = 0 then (1 : Int32) else p4))) (e ^^^ (if (w &&& 8) = 0 then (0 : Int32) else (if p4 = 0 then (1 : Int32) else p4))) a b c e = if (w &&& 15) = 0 then 1 else 0 := by
  rw [own_f']; exact own_if w _ (own_dn p4) a b c e
def Q0 (n0 : Nat) (v : Option Value) (h : Heap) (L : List Loc) : Prop := v = some (.int 1) ∧ Fr n0 L
theorem pd_0 : parseMethodDescriptor "(IIII)V" = some ⟨[.int, .int, .int, .int], none⟩ := by decide +kernel
theorem pd_2 : parseMethodDescriptor "(I)Ljava/lang/Integer;" = some ⟨[.int], some (.object "java/lang/Integer")⟩ := by decide +kernel
theorem pd_3 : parseMethodDescriptor "(Ljava/lang/Object;)Z" = some ⟨[(.object "java/lang/Object")], some .boolean⟩ := by decide +kernel
theorem pn_3 : plainName "com/example/ltlconv/ltlconv/ldba/StateEqualsPinLaw" = true := by first | (simp [plainName, overriddenIn]; done) | decide +kernel
theorem ef_0_aaaaaa (m : MethodId) (x0 : Int32) (x1 : Int32) (x2 : Int32) (x3 : Int32) (x4 : Int32) (x5 : Int32) : entryFrame m #[(.int x0), (.int x1), (.int x2), (.int x3), (.int x4), (.int x5)] maxLocals = mkF m 0 #[.val (.int x0), .val (.int x1), .val (.int x2), .val (.int x3), .val (.int x4), .val (.int x5), .unset, .unset, .unset, .unset, .unset, .unset, .unset, .unset, .unset, .unset] [] := by first | (simp [entryFrame, mkF, argsToLocals, Value.category, maxLocals]; done) | rfl
set_option maxRecDepth 65536 in
set_option maxHeartbeats 40000000 in
theorem rm0 (l : Launch) (Z : State) (a0 : Array Value) (hw : ∀ d ∈ tables_1, d.before a0 Z = true) (ws : List Jvm.Cond) (p0 : Int32) (p1 : Int32) (p2 : Int32) (p3 : Int32) (p4 : Int32) (p5 : Int32) (aK : Addr) (cK : Cell) (val : Int32 → Value) (h0 : Heap) (n0 : Nat) (Z0 : n0 ≤ h0.size) (ha0 : Sta Z Z.heap "java/lang/Integer$IntegerCache" "high" "I" (.int (127 : Int32))) (ha1 : Sta Z Z.heap "java/lang/Integer$IntegerCache" "cache" "[Ljava/lang/Integer;" (.ref aK)) (ha2 : Old Z n0 h0) (hBx : Bxs Z aK cK "java/lang/Integer" "I" (256 : Int32) val) :
    MetFree l x (head1 (Jvm.Cond.code x code maxLocals ret :: ws) room_1) (fun a U => a = #[(.int p0), (.int p1), (.int p2), (.int p3), (.int p4), (.int p5)] ∧ Z.Warmed39 U.vm ∧ U.heap = h0) (fun _ _ _ _ _ => True) (fun _ U o U' => ∃ v L, o = .returned v ∧ Q0 n0 v U'.heap L ∧ FrameEnd U o U' L 16 128) := by
  refine MetFree.of_bodySF (plainFor_of_name pn_3) hisR ?_
  intro p e s m args below meth c s₁ Bd hml0 hP hK
  obtain ⟨rfl, hZ, hh⟩ := hP
  have hx := Bd.exec
  have hby := Bd.bytes
  have hml : c.maxLocals = 16 := hml0
  have hown : s.vm.findClass "com/example/ltlconv/ltlconv/ldba/StateEqualsPinLaw" = some m.cls := findClass_of_methodNamed Bd.named
  have hnm := (name_of_methodNamed Bd.named Bd.method).1
  have X0 : Stand p l e room_1 s m #[(.int p0), (.int p1), (.int p2), (.int p3), (.int p4), (.int p5)] below meth c s₁ [] 0 0 := Stand.of_body Bd
  have e0 : s₁.heap = h0 := by rw [← hh, Bd.state]; rfl
  have N0 := Fr.nil n0
  refine Go.into (P := fun oo uu => ∃ v L, oo = .returned v ∧ Q0 n0 v uu.heap L ∧ FrameEnd s oo uu L 16 128) (ef_0_aaaaaa m p0 p1 p2 p3 p4 p5) ?_
  show Go p e below _ (s₁.setTop (mkF m 0 #[.val (.int p0), .val (.int p1), .val (.int p2), .val (.int p3), .val (.int p4), .val (.int p5), .unset, .unset, .unset, .unset, .unset, .unset, .unset, .unset, .unset, .unset] []))
  refine Go.via (T' := s₁.setTop (mkF m 74 #[.val (.int p0), .val (.int p1), .val (.int p2), .val (.int p3), .val (.int p4), .val (.int p5), .val (.int (if p4 = (0 : Int32) then (1 : Int32) else p4)), .val (.int (if (p5 &&& (1 : Int32)) = (0 : Int32) then (0 : Int32) else (if p4 = (0 : Int32) then (1 : Int32) else p4))), .val (.int (if (p5 &&& (2 : Int32)) = (0 : Int32) then (0 : Int32) else (if p4 = (0 : Int32) then (1 : Int32) else p4))), .val (.int (if (p5 &&& (4 : Int32)) = (0 : Int32) then (0 : Int32) else (if p4 = (0 : Int32) then (1 : Int32) else p4))), .val (.int (if (p5 &&& (8 : Int32)) = (0 : Int32) then (0 : Int32) else (if p4 = (0 : Int32) then (1 : Int32) else p4))), .unset, .unset, .unset, .unset, .unset] [])) (fun tZ kZ => ?_) ?_
  · show Steps p.tables e below (s₁.setTop (mkF m 0 #[.val (.int p0), .val (.int p1), .val (.int p2), .val (.int p3), .val (.int p4), .val (.int p5), .unset, .unset, .unset, .unset, .unset, .unset, .unset, .unset, .unset, .unset] [])) _
    refine XS.iload X0.here hx rfl (hb hby at_0) rfl ?_
    show Steps p.tables e below (s₁.setTop (mkF m 2 #[.val (.int p0), .val (.int p1), .val (.int p2), .val (.int p3), .val (.int p4), .val (.int p5), .unset, .unset, .unset, .unset, .unset, .unset, .unset, .unset, .unset, .unset] [(.int p4)])) _
    have sg2 : Steps p.tables e below (s₁.setTop (mkF m 11 #[.val (.int p0), .val (.int p1), .val (.int p2), .val (.int p3), .val (.int p4), .val (.int p5), .unset, .unset, .unset, .unset, .unset, .unset, .unset, .unset, .unset, .unset] [(.int (if p4 = (0 : Int32) then (1 : Int32) else p4))])) tZ → Steps p.tables e below (s₁.setTop (mkF m 2 #[.val (.int p0), .val (.int p1), .val (.int p2), .val (.int p3), .val (.int p4), .val (.int p5), .unset, .unset, .unset, .unset, .unset, .unset, .unset, .unset, .unset, .unset] [(.int p4)])) tZ := by
      intro kj
      by_cases hc2 : p4 = (0 : Int32)
      · try simp only [if_pos hc2] at kj
        refine XS.ifNo X0.here hx rfl (hb hby at_2) rfl ((if0 _ _).trans (teq hc2).2) ?_
        show Steps p.tables e below (s₁.setTop (mkF m 5 #[.val (.int p0), .val (.int p1), .val (.int p2), .val (.int p3), .val (.int p4), .val (.int p5), .unset, .unset, .unset, .unset, .unset, .unset, .unset, .unset, .unset, .unset] [])) _
        refine XS.iconst X0.here hx rfl (hb hby at_5) ?_
        show Steps p.tables e below (s₁.setTop (mkF m 6 #[.val (.int p0), .val (.int p1), .val (.int p2), .val (.int p3), .val (.int p4), .val (.int p5), .unset, .unset, .unset, .unset, .unset, .unset, .unset, .unset, .unset, .unset] [(.int (1 : Int32))])) _
        refine XS.goto X0.here hx rfl (pc0 := 6) (pc' := 11) rfl (hb hby at_6) (by decide) (by decide) ?_
        show Steps p.tables e below (s₁.setTop (mkF m 11 #[.val (.int p0), .val (.int p1), .val (.int p2), .val (.int p3), .val (.int p4), .val (.int p5), .unset, .unset, .unset, .unset, .unset, .unset, .unset, .unset, .unset, .unset] [(.int (1 : Int32))])) _
        exact kj
      · try simp only [if_neg hc2] at kj
        refine XS.ifYes X0.here hx rfl (pc0 := 2) (pc' := 9) rfl (hb hby at_2) rfl ((if0 _ _).trans (feq hc2).2) (by decide) (by decide) ?_
        show Steps p.tables e below (s₁.setTop (mkF m 9 #[.val (.int p0), .val (.int p1), .val (.int p2), .val (.int p3), .val (.int p4), .val (.int p5), .unset, .unset, .unset, .unset, .unset, .unset, .unset, .unset, .unset, .unset] [])) _
        refine XS.iload X0.here hx rfl (hb hby at_9) rfl ?_
        show Steps p.tables e below (s₁.setTop (mkF m 11 #[.val (.int p0), .val (.int p1), .val (.int p2), .val (.int p3), .val (.int p4), .val (.int p5), .unset, .unset, .unset, .unset, .unset, .unset, .unset, .unset, .unset, .unset] [(.int p4)])) _
        exact kj
    refine sg2 ?_
    show Steps p.tables e below (s₁.setTop (mkF m 11 #[.val (.int p0), .val (.int p1), .val (.int p2), .val (.int p3), .val (.int p4), .val (.int p5), .unset, .unset, .unset, .unset, .unset, .unset, .unset, .unset, .unset, .unset] [(.int (if p4 = (0 : Int32) then (1 : Int32) else p4))])) _
    refine XS.istore X0.here hx rfl (hb hby at_11) rfl (l' := #[.val (.int p0), .val (.int p1), .val (.int p2), .val (.int p3), .val (.int p4), .val (.int p5), .val (.int (if p4 = (0 : Int32) then (1 : Int32) else p4)), .unset, .unset, .unset, .unset, .unset, .unset, .unset, .unset, .unset]) rfl ?_
    show Steps p.tables e below (s₁.setTop (mkF m 13 #[.val (.int p0), .val (.int p1), .val (.int p2), .val (.int p3), .val (.int p4), .val (.int p5), .val (.int (if p4 = (0 : Int32) then (1 : Int32) else p4)), .unset, .unset, .unset, .unset, .unset, .unset, .unset, .unset, .unset] [])) _
    refine XS.iload X0.here hx rfl (hb hby at_13) rfl ?_
    show Steps p.tables e below (s₁.setTop (mkF m 15 #[.val (.int p0), .val (.int p1), .val (.int p2), .val (.int p3), .val (.int p4), .val (.int p5), .val (.int (if p4 = (0 : Int32) then (1 : Int32) else p4)), .unset, .unset, .unset, .unset, .unset, .unset, .unset, .unset, .unset] [(.int p5)])) _
    refine XS.iconst X0.here hx rfl (hb hby at_15) ?_
    show Steps p.tables e below (s₁.setTop (mkF m 16 #[.val (.int p0), .val (.int p1), .val (.int p2), .val (.int p3), .val (.int p4), .val (.int p5), .val (.int (if p4 = (0 : Int32) then (1 : Int32) else p4)), .unset, .unset, .unset, .unset, .unset, .unset, .unset, .unset, .unset] [(.int (1 : Int32)), (.int p5)])) _
    refine XS.iand X0.here hx rfl (hb hby at_16) rfl ?_
    show Steps p.tables e below (s₁.setTop (mkF m 17 #[.val (.int p0), .val (.int p1), .val (.int p2), .val (.int p3), .val (.int p4), .val (.int p5), .val (.int (if p4 = (0 : Int32) then (1 : Int32) else p4)), .unset, .unset, .unset, .unset, .unset, .unset, .unset, .unset, .unset] [(.int (p5 &&& (1 : Int32)))])) _
    have sg17 : Steps p.tables e below (s₁.setTop (mkF m 26 #[.val (.int p0), .val (.int p1), .val (.int p2), .val (.int p3), .val (.int p4), .val (.int p5), .val (.int (if p4 = (0 : Int32) then (1 : Int32) else p4)), .unset, .unset, .unset, .unset, .unset, .unset, .unset, .unset, .unset] [(.int (if (p5 &&& (1 : Int32)) = (0 : Int32) then (0 : Int32) else (if p4 = (0 : Int32) then (1 : Int32) else p4)))])) tZ → Steps p.tables e below (s₁.setTop (mkF m 17 #[.val (.int p0), .val (.int p1), .val (.int p2), .val (.int p3), .val (.int p4), .val (.int p5), .val (.int (if p4 = (0 : Int32) then (1 : Int32) else p4)), .unset, .unset, .unset, .unset, .unset, .unset, .unset, .unset, .unset] [(.int (p5 &&& (1 : Int32)))])) tZ := by
      intro kj
      by_cases hc17 : (p5 &&& (1 : Int32)) = (0 : Int32)
      · try simp only [if_pos hc17] at kj
        refine XS.ifYes X0.here hx rfl (pc0 := 17) (pc' := 25) rfl (hb hby at_17) rfl ((if0 _ _).trans (teq hc17).1) (by decide) (by decide) ?_
        show Steps p.tables e below (s₁.setTop (mkF m 25 #[.val (.int p0), .val (.int p1), .val (.int p2), .val (.int p3), .val (.int p4), .val (.int p5), .val (.int (if p4 = (0 : Int32) then (1 : Int32) else p4)), .unset, .unset, .unset, .unset, .unset, .unset, .unset, .unset, .unset] [])) _
        refine XS.iconst X0.here hx rfl (hb hby at_25) ?_
        show Steps p.tables e below (s₁.setTop (mkF m 26 #[.val (.int p0), .val (.int p1), .val (.int p2), .val (.int p3), .val (.int p4), .val (.int p5), .val (.int (if p4 = (0 : Int32) then (1 : Int32) else p4)), .unset, .unset, .unset, .unset, .unset, .unset, .unset, .unset, .unset] [(.int (0 : Int32))])) _
        exact kj
      · try simp only [if_neg hc17] at kj
        refine XS.ifNo X0.here hx rfl (hb hby at_17) rfl ((if0 _ _).trans (feq hc17).1) ?_
        show Steps p.tables e below (s₁.setTop (mkF m 20 #[.val (.int p0), .val (.int p1), .val (.int p2), .val (.int p3), .val (.int p4), .val (.int p5), .val (.int (if p4 = (0 : Int32) then (1 : Int32) else p4)), .unset, .unset, .unset, .unset, .unset, .unset, .unset, .unset, .unset] [])) _
        refine XS.iload X0.here hx rfl (hb hby at_20) rfl ?_
        show Steps p.tables e below (s₁.setTop (mkF m 22 #[.val (.int p0), .val (.int p1), .val (.int p2), .val (.int p3), .val (.int p4), .val (.int p5), .val (.int (if p4 = (0 : Int32) then (1 : Int32) else p4)), .unset, .unset, .unset, .unset, .unset, .unset, .unset, .unset, .unset] [(.int (if p4 = (0 : Int32) then (1 : Int32) else p4))])) _
        refine XS.goto X0.here hx rfl (pc0 := 22) (pc' := 26) rfl (hb hby at_22) (by decide) (by decide) ?_
        show Steps p.tables e below (s₁.setTop (mkF m 26 #[.val (.int p0), .val (.int p1), .val (.int p2), .val (.int p3), .val (.int p4), .val (.int p5), .val (.int (if p4 = (0 : Int32) then (1 : Int32) else p4)), .unset, .unset, .unset, .unset, .unset, .unset, .unset, .unset, .unset] [(.int (if p4 = (0 : Int32) then (1 : Int32) else p4))])) _
        exact kj
    refine sg17 ?_
    show Steps p.tables e below (s₁.setTop (mkF m 26 #[.val (.int p0), .val (.int p1), .val (.int p2), .val (.int p3), .val (.int p4), .val (.int p5), .val (.int (if p4 = (0 : Int32) then (1 : Int32) else p4)), .unset, .unset, .unset, .unset, .unset, .unset, .unset, .unset, .unset] [(.int (if (p5 &&& (1 : Int32)) = (0 : Int32) then (0 : Int32) else (if p4 = (0 : Int32) then (1 : Int32) else p4)))])) _
    refine XS.istore X0.here hx rfl (hb hby at_26) rfl (l' := #[.val (.int p0), .val (.int p1), .val (.int p2), .val (.int p3), .val (.int p4), .val (.int p5), .val (.int (if p4 = (0 : Int32) then (1 : Int32) else p4)), .val (.int (if (p5 &&& (1 : Int32)) = (0 : Int32) then (0 : Int32) else (if p4 = (0 : Int32) then (1 : Int32) else p4))), .unset, .unset, .unset, .unset, .unset, .unset, .unset, .unset]) rfl ?_
    show Steps p.tables e below (s₁.setTop (mkF m 28 #[.val (.int p0), .val (.int p1), .val (.int p2), .val (.int p3), .val (.int p4), .val (.int p5), .val (.int (if p4 = (0 : Int32) then (1 : Int32) else p4)), .val (.int (if (p5 &&& (1 : Int32)) = (0 : Int32) then (0 : Int32) else (if p4 = (0 : Int32) then (1 : Int32) else p4))), .unset, .unset, .unset, .unset, .unset, .unset, .unset, .unset] [])) _
    refine XS.iload X0.here hx rfl (hb hby at_28) rfl ?_
    show Steps p.tables e below (s₁.setTop (mkF m 30 #[.val (.int p0), .val (.int p1), .val (.int p2), .val (.int p3), .val (.int p4), .val (.int p5), .val (.int (if p4 = (0 : Int32) then (1 : Int32) else p4)), .val (.int (if (p5 &&& (1 : Int32)) = (0 : Int32) then (0 : Int32) else (if p4 = (0 : Int32) then (1 : Int32) else p4))), .unset, .unset, .unset, .unset, .unset, .unset, .unset, .unset] [(.int p5)])) _
    refine XS.iconst X0.here hx rfl (hb hby at_30) ?_
    show Steps p.tables e below (s₁.setTop (mkF m 31 #[.val (.int p0), .val (.int p1), .val (.int p2), .val (.int p3), .val (.int p4), .val (.int p5), .val (.int (if p4 = (0 : Int32) then (1 : Int32) else p4)), .val (.int (if (p5 &&& (1 : Int32)) = (0 : Int32) then (0 : Int32) else (if p4 = (0 : Int32) then (1 : Int32) else p4))), .unset, .unset, .unset, .unset, .unset, .unset, .unset, .unset] [(.int (2 : Int32)), (.int p5)])) _
    refine XS.iand X0.here hx rfl (hb hby at_31) rfl ?_
    show Steps p.tables e below (s₁.setTop (mkF m 32 #[.val (.int p0), .val (.int p1), .val (.int p2), .val (.int p3), .val (.int p4), .val (.int p5), .val (.int (if p4 = (0 : Int32) then (1 : Int32) else p4)), .val (.int (if (p5 &&& (1 : Int32)) = (0 : Int32) then (0 : Int32) else (if p4 = (0 : Int32) then (1 : Int32) else p4))), .unset, .unset, .unset, .unset, .unset, .unset, .unset, .unset] [(.int (p5 &&& (2 : Int32)))])) _
    have sg32 : Steps p.tables e below (s₁.setTop (mkF m 41 #[.val (.int p0), .val (.int p1), .val (.int p2), .val (.int p3), .val (.int p4), .val (.int p5), .val (.int (if p4 = (0 : Int32) then (1 : Int32) else p4)), .val (.int (if (p5 &&& (1 : Int32)) = (0 : Int32) then (0 : Int32) else (if p4 = (0 : Int32) then (1 : Int32) else p4))), .unset, .unset, .unset, .unset, .unset, .unset, .unset, .unset] [(.int (if (p5 &&& (2 : Int32)) = (0 : Int32) then (0 : Int32) else (if p4 = (0 : Int32) then (1 : Int32) else p4)))])) tZ → Steps p.tables e below (s₁.setTop (mkF m 32 #[.val (.int p0), .val (.int p1), .val (.int p2), .val (.int p3), .val (.int p4), .val (.int p5), .val (.int (if p4 = (0 : Int32) then (1 : Int32) else p4)), .val (.int (if (p5 &&& (1 : Int32)) = (0 : Int32) then (0 : Int32) else (if p4 = (0 : Int32) then (1 : Int32) else p4))), .unset, .unset, .unset, .unset, .unset, .unset, .unset, .unset] [(.int (p5 &&& (2 : Int32)))])) tZ := by
      intro kj
      by_cases hc32 : (p5 &&& (2 : Int32)) = (0 : Int32)
      · try simp only [if_pos hc32] at kj
        refine XS.ifYes X0.here hx rfl (pc0 := 32) (pc' := 40) rfl (hb hby at_32) rfl ((if0 _ _).trans (teq hc32).1) (by decide) (by decide) ?_
        show Steps p.tables e below (s₁.setTop (mkF m 40 #[.val (.int p0), .val (.int p1), .val (.int p2), .val (.int p3), .val (.int p4), .val (.int p5), .val (.int (if p4 = (0 : Int32) then (1 : Int32) else p4)), .val (.int (if (p5 &&& (1 : Int32)) = (0 : Int32) then (0 : Int32) else (if p4 = (0 : Int32) then (1 : Int32) else p4))), .unset, .unset, .unset, .unset, .unset, .unset, .unset, .unset] [])) _
        refine XS.iconst X0.here hx rfl (hb hby at_40) ?_
        show Steps p.tables e below (s₁.setTop (mkF m 41 #[.val (.int p0), .val (.int p1), .val (.int p2), .val (.int p3), .val (.int p4), .val (.int p5), .val (.int (if p4 = (0 : Int32) then (1 : Int32) else p4)), .val (.int (if (p5 &&& (1 : Int32)) = (0 : Int32) then (0 : Int32) else (if p4 = (0 : Int32) then (1 : Int32) else p4))), .unset, .unset, .unset, .unset, .unset, .unset, .unset, .unset] [(.int (0 : Int32))])) _
        exact kj
      · try simp only [if_neg hc32] at kj
        refine XS.ifNo X0.here hx rfl (hb hby at_32) rfl ((if0 _ _).trans (feq hc32).1) ?_
        show Steps p.tables e below (s₁.setTop (mkF m 35 #[.val (.int p0), .val (.int p1), .val (.int p2), .val (.int p3), .val (.int p4), .val (.int p5), .val (.int (if p4 = (0 : Int32) then (1 : Int32) else p4)), .val (.int (if (p5 &&& (1 : Int32)) = (0 : Int32) then (0 : Int32) else (if p4 = (0 : Int32) then (1 : Int32) else p4))), .unset, .unset, .unset, .unset, .unset, .unset, .unset, .unset] [])) _
        refine XS.iload X0.here hx rfl (hb hby at_35) rfl ?_
        show Steps p.tables e below (s₁.setTop (mkF m 37 #[.val (.int p0), .val (.int p1), .val (.int p2), .val (.int p3), .val (.int p4), .val (.int p5), .val (.int (if p4 = (0 : Int32) then (1 : Int32) else p4)), .val (.int (if (p5 &&& (1 : Int32)) = (0 : Int32) then (0 : Int32) else (if p4 = (0 : Int32) then (1 : Int32) else p4))), .unset, .unset, .unset, .unset, .unset, .unset, .unset, .unset] [(.int (if p4 = (0 : Int32) then (1 : Int32) else p4))])) _
        refine XS.goto X0.here hx rfl (pc0 := 37) (pc' := 41) rfl (hb hby at_37) (by decide) (by decide) ?_
        show Steps p.tables e below (s₁.setTop (mkF m 41 #[.val (.int p0), .val (.int p1), .val (.int p2), .val (.int p3), .val (.int p4), .val (.int p5), .val (.int (if p4 = (0 : Int32) then (1 : Int32) else p4)), .val (.int (if (p5 &&& (1 : Int32)) = (0 : Int32) then (0 : Int32) else (if p4 = (0 : Int32) then (1 : Int32) else p4))), .unset, .unset, .unset, .unset, .unset, .unset, .unset, .unset] [(.int (if p4 = (0 : Int32) then (1 : Int32) else p4))])) _
        exact kj
    refine sg32 ?_
    show Steps p.tables e below (s₁.setTop (mkF m 41 #[.val (.int p0), .val (.int p1), .val (.int p2), .val (.int p3), .val (.int p4), .val (.int p5), .val (.int (if p4 = (0 : Int32) then (1 : Int32) else p4)), .val (.int (if (p5 &&& (1 : Int32)) = (0 : Int32) then (0 : Int32) else (if p4 = (0 : Int32) then (1 : Int32) else p4))), .unset, .unset, .unset, .unset, .unset, .unset, .unset, .unset] [(.int (if (p5 &&& (2 : Int32)) = (0 : Int32) then (0 : Int32) else (if p4 = (0 : Int32) then (1 : Int32) else p4)))])) _
    refine XS.istore X0.here hx rfl (hb hby at_41) rfl (l' := #[.val (.int p0), .val (.int p1), .val (.int p2), .val (.int p3), .val (.int p4), .val (.int p5), .val (.int (if p4 = (0 : Int32) then (1 : Int32) else p4)), .val (.int (if (p5 &&& (1 : Int32)) = (0 : Int32) then (0 : Int32) else (if p4 = (0 : Int32) then (1 : Int32) else p4))), .val (.int (if (p5 &&& (2 : Int32)) = (0 : Int32) then (0 : Int32) else (if p4 = (0 : Int32) then (1 : Int32) else p4))), .unset, .unset, .unset, .unset, .unset, .unset, .unset]) rfl ?_
    show Steps p.tables e below (s₁.setTop (mkF m 43 #[.val (.int p0), .val (.int p1), .val (.int p2), .val (.int p3), .val (.int p4), .val (.int p5), .val (.int (if p4 = (0 : Int32) then (1 : Int32) else p4)), .val (.int (if (p5 &&& (1 : Int32)) = (0 : Int32) then (0 : Int32) else (if p4 = (0 : Int32) then (1 : Int32) else p4))), .val (.int (if (p5 &&& (2 : Int32)) = (0 : Int32) then (0 : Int32) else (if p4 = (0 : Int32) then (1 : Int32) else p4))), .unset, .unset, .unset, .unset, .unset, .unset, .unset] [])) _
    refine XS.iload X0.here hx rfl (hb hby at_43) rfl ?_
    show Steps p.tables e below (s₁.setTop (mkF m 45 #[.val (.int p0), .val (.int p1), .val (.int p2), .val (.int p3), .val (.int p4), .val (.int p5), .val (.int (if p4 = (0 : Int32) then (1 : Int32) else p4)), .val (.int (if (p5 &&& (1 : Int32)) = (0 : Int32) then (0 : Int32) else (if p4 = (0 : Int32) then (1 : Int32) else p4))), .val (.int (if (p5 &&& (2 : Int32)) = (0 : Int32) then (0 : Int32) else (if p4 = (0 : Int32) then (1 : Int32) else p4))), .unset, .unset, .unset, .unset, .unset, .unset, .unset] [(.int p5)])) _
    refine XS.iconst X0.here hx rfl (hb hby at_45) ?_
    show Steps p.tables e below (s₁.setTop (mkF m 46 #[.val (.int p0), .val (.int p1), .val (.int p2), .val (.int p3), .val (.int p4), .val (.int p5), .val (.int (if p4 = (0 : Int32) then (1 : Int32) else p4)), .val (.int (if (p5 &&& (1 : Int32)) = (0 : Int32) then (0 : Int32) else (if p4 = (0 : Int32) then (1 : Int32) else p4))), .val (.int (if (p5 &&& (2 : Int32)) = (0 : Int32) then (0 : Int32) else (if p4 = (0 : Int32) then (1 : Int32) else p4))), .unset, .unset, .unset, .unset, .unset, .unset, .unset] [(.int (4 : Int32)), (.int p5)])) _
    refine XS.iand X0.here hx rfl (hb hby at_46) rfl ?_
    show Steps p.tables e below (s₁.setTop (mkF m 47 #[.val (.int p0), .val (.int p1), .val (.int p2), .val (.int p3), .val (.int p4), .val (.int p5), .val (.int (if p4 = (0 : Int32) then (1 : Int32) else p4)), .val (.int (if (p5 &&& (1 : Int32)) = (0 : Int32) then (0 : Int32) else (if p4 = (0 : Int32) then (1 : Int32) else p4))), .val (.int (if (p5 &&& (2 : Int32)) = (0 : Int32) then (0 : Int32) else (if p4 = (0 : Int32) then (1 : Int32) else p4))), .unset, .unset, .unset, .unset, .unset, .unset, .unset] [(.int (p5 &&& (4 : Int32)))])) _
    have sg47 : Steps p.tables e below (s₁.setTop (mkF m 56 #[.val (.int p0), .val (.int p1), .val (.int p2), .val (.int p3), .val (.int p4), .val (.int p5), .val (.int (if p4 = (0 : Int32) then (1 : Int32) else p4)), .val (.int (if (p5 &&& (1 : Int32)) = (0 : Int32) then (0 : Int32) else (if p4 = (0 : Int32) then (1 : Int32) else p4))), .val (.int (if (p5 &&& (2 : Int32)) = (0 : Int32) then (0 : Int32) else (if p4 = (0 : Int32) then (1 : Int32) else p4))), .unset, .unset, .unset, .unset, .unset, .unset, .unset] [(.int (if (p5 &&& (4 : Int32)) = (0 : Int32) then (0 : Int32) else (if p4 = (0 : Int32) then (1 : Int32) else p4)))])) tZ → Steps p.tables e below (s₁.setTop (mkF m 47 #[.val (.int p0), .val (.int p1), .val (.int p2), .val (.int p3), .val (.int p4), .val (.int p5), .val (.int (if p4 = (0 : Int32) then (1 : Int32) else p4)), .val (.int (if (p5 &&& (1 : Int32)) = (0 : Int32) then (0 : Int32) else (if p4 = (0 : Int32) then (1 : Int32) else p4))), .val (.int (if (p5 &&& (2 : Int32)) = (0 : Int32) then (0 : Int32) else (if p4 = (0 : Int32) then (1 : Int32) else p4))), .unset, .unset, .unset, .unset, .unset, .unset, .unset] [(.int (p5 &&& (4 : Int32)))])) tZ := by
      intro kj
      by_cases hc47 : (p5 &&& (4 : Int32)) = (0 : Int32)
      · try simp only [if_pos hc47] at kj
        refine XS.ifYes X0.here hx rfl (pc0 := 47) (pc' := 55) rfl (hb hby at_47) rfl ((if0 _ _).trans (teq hc47).1) (by decide) (by decide) ?_
        show Steps p.tables e below (s₁.setTop (mkF m 55 #[.val (.int p0), .val (.int p1), .val (.int p2), .val (.int p3), .val (.int p4), .val (.int p5), .val (.int (if p4 = (0 : Int32) then (1 : Int32) else p4)), .val (.int (if (p5 &&& (1 : Int32)) = (0 : Int32) then (0 : Int32) else (if p4 = (0 : Int32) then (1 : Int32) else p4))), .val (.int (if (p5 &&& (2 : Int32)) = (0 : Int32) then (0 : Int32) else (if p4 = (0 : Int32) then (1 : Int32) else p4))), .unset, .unset, .unset, .unset, .unset, .unset, .unset] [])) _
        refine XS.iconst X0.here hx rfl (hb hby at_55) ?_
        show Steps p.tables e below (s₁.setTop (mkF m 56 #[.val (.int p0), .val (.int p1), .val (.int p2), .val (.int p3), .val (.int p4), .val (.int p5), .val (.int (if p4 = (0 : Int32) then (1 : Int32) else p4)), .val (.int (if (p5 &&& (1 : Int32)) = (0 : Int32) then (0 : Int32) else (if p4 = (0 : Int32) then (1 : Int32) else p4))), .val (.int (if (p5 &&& (2 : Int32)) = (0 : Int32) then (0 : Int32) else (if p4 = (0 : Int32) then (1 : Int32) else p4))), .unset, .unset, .unset, .unset, .unset, .unset, .unset] [(.int (0 : Int32))])) _
        exact kj
      · try simp only [if_neg hc47] at kj
        refine XS.ifNo X0.here hx rfl (hb hby at_47) rfl ((if0 _ _).trans (feq hc47).1) ?_
        show Steps p.tables e below (s₁.setTop (mkF m 50 #[.val (.int p0), .val (.int p1), .val (.int p2), .val (.int p3), .val (.int p4), .val (.int p5), .val (.int (if p4 = (0 : Int32) then (1 : Int32) else p4)), .val (.int (if (p5 &&& (1 : Int32)) = (0 : Int32) then (0 : Int32) else (if p4 = (0 : Int32) then (1 : Int32) else p4))), .val (.int (if (p5 &&& (2 : Int32)) = (0 : Int32) then (0 : Int32) else (if p4 = (0 : Int32) then (1 : Int32) else p4))), .unset, .unset, .unset, .unset, .unset, .unset, .unset] [])) _
        refine XS.iload X0.here hx rfl (hb hby at_50) rfl ?_
        show Steps p.tables e below (s₁.setTop (mkF m 52 #[.val (.int p0), .val (.int p1), .val (.int p2), .val (.int p3), .val (.int p4), .val (.int p5), .val (.int (if p4 = (0 : Int32) then (1 : Int32) else p4)), .val (.int (if (p5 &&& (1 : Int32)) = (0 : Int32) then (0 : Int32) else (if p4 = (0 : Int32) then (1 : Int32) else p4))), .val (.int (if (p5 &&& (2 : Int32)) = (0 : Int32) then (0 : Int32) else (if p4 = (0 : Int32) then (1 : Int32) else p4))), .unset, .unset, .unset, .unset, .unset, .unset, .unset] [(.int (if p4 = (0 : Int32) then (1 : Int32) else p4))])) _
        refine XS.goto X0.here hx rfl (pc0 := 52) (pc' := 56) rfl (hb hby at_52) (by decide) (by decide) ?_
        show Steps p.tables e below (s₁.setTop (mkF m 56 #[.val (.int p0), .val (.int p1), .val (.int p2), .val (.int p3), .val (.int p4), .val (.int p5), .val (.int (if p4 = (0 : Int32) then (1 : Int32) else p4)), .val (.int (if (p5 &&& (1 : Int32)) = (0 : Int32) then (0 : Int32) else (if p4 = (0 : Int32) then (1 : Int32) else p4))), .val (.int (if (p5 &&& (2 : Int32)) = (0 : Int32) then (0 : Int32) else (if p4 = (0 : Int32) then (1 : Int32) else p4))), .unset, .unset, .unset, .unset, .unset, .unset, .unset] [(.int (if p4 = (0 : Int32) then (1 : Int32) else p4))])) _
        exact kj
    refine sg47 ?_
    show Steps p.tables e below (s₁.setTop (mkF m 56 #[.val (.int p0), .val (.int p1), .val (.int p2), .val (.int p3), .val (.int p4), .val (.int p5), .val (.int (if p4 = (0 : Int32) then (1 : Int32) else p4)), .val (.int (if (p5 &&& (1 : Int32)) = (0 : Int32) then (0 : Int32) else (if p4 = (0 : Int32) then (1 : Int32) else p4))), .val (.int (if (p5 &&& (2 : Int32)) = (0 : Int32) then (0 : Int32) else (if p4 = (0 : Int32) then (1 : Int32) else p4))), .unset, .unset, .unset, .unset, .unset, .unset, .unset] [(.int (if (p5 &&& (4 : Int32)) = (0 : Int32) then (0 : Int32) else (if p4 = (0 : Int32) then (1 : Int32) else p4)))])) _
    refine XS.istore X0.here hx rfl (hb hby at_56) rfl (l' := #[.val (.int p0), .val (.int p1), .val (.int p2), .val (.int p3), .val (.int p4), .val (.int p5), .val (.int (if p4 = (0 : Int32) then (1 : Int32) else p4)), .val (.int (if (p5 &&& (1 : Int32)) = (0 : Int32) then (0 : Int32) else (if p4 = (0 : Int32) then (1 : Int32) else p4))), .val (.int (if (p5 &&& (2 : Int32)) = (0 : Int32) then (0 : Int32) else (if p4 = (0 : Int32) then (1 : Int32) else p4))), .val (.int (if (p5 &&& (4 : Int32)) = (0 : Int32) then (0 : Int32) else (if p4 = (0 : Int32) then (1 : Int32) else p4))), .unset, .unset, .unset, .unset, .unset, .unset]) rfl ?_
    show Steps p.tables e below (s₁.setTop (mkF m 58 #[.val (.int p0), .val (.int p1), .val (.int p2), .val (.int p3), .val (.int p4), .val (.int p5), .val (.int (if p4 = (0 : Int32) then (1 : Int32) else p4)), .val (.int (if (p5 &&& (1 : Int32)) = (0 : Int32) then (0 : Int32) else (if p4 = (0 : Int32) then (1 : Int32) else p4))), .val (.int (if (p5 &&& (2 : Int32)) = (0 : Int32) then (0 : Int32) else (if p4 = (0 : Int32) then (1 : Int32) else p4))), .val (.int (if (p5 &&& (4 : Int32)) = (0 : Int32) then (0 : Int32) else (if p4 = (0 : Int32) then (1 : Int32) else p4))), .unset, .unset, .unset, .unset, .unset, .unset] [])) _
    refine XS.iload X0.here hx rfl (hb hby at_58) rfl ?_
    show Steps p.tables e below (s₁.setTop (mkF m 60 #[.val (.int p0), .val (.int p1), .val (.int p2), .val (.int p3), .val (.int p4), .val (.int p5), .val (.int (if p4 = (0 : Int32) then (1 : Int32) else p4)), .val (.int (if (p5 &&& (1 : Int32)) = (0 : Int32) then (0 : Int32) else (if p4 = (0 : Int32) then (1 : Int32) else p4))), .val (.int (if (p5 &&& (2 : Int32)) = (0 : Int32) then (0 : Int32) else (if p4 = (0 : Int32) then (1 : Int32) else p4))), .val (.int (if (p5 &&& (4 : Int32)) = (0 : Int32) then (0 : Int32) else (if p4 = (0 : Int32) then (1 : Int32) else p4))), .unset, .unset, .unset, .unset, .unset, .unset] [(.int p5)])) _
    refine XS.bipush X0.here hx rfl (hb hby at_60) ?_
    show Steps p.tables e below (s₁.setTop (mkF m 62 #[.val (.int p0), .val (.int p1), .val (.int p2), .val (.int p3), .val (.int p4), .val (.int p5), .val (.int (if p4 = (0 : Int32) then (1 : Int32) else p4)), .val (.int (if (p5 &&& (1 : Int32)) = (0 : Int32) then (0 : Int32) else (if p4 = (0 : Int32) then (1 : Int32) else p4))), .val (.int (if (p5 &&& (2 : Int32)) = (0 : Int32) then (0 : Int32) else (if p4 = (0 : Int32) then (1 : Int32) else p4))), .val (.int (if (p5 &&& (4 : Int32)) = (0 : Int32) then (0 : Int32) else (if p4 = (0 : Int32) then (1 : Int32) else p4))), .unset, .unset, .unset, .unset, .unset, .unset] [(.int (8 : Int32)), (.int p5)])) _
    refine XS.iand X0.here hx rfl (hb hby at_62) rfl ?_
    show Steps p.tables e below (s₁.setTop (mkF m 63 #[.val (.int p0), .val (.int p1), .val (.int p2), .val (.int p3), .val (.int p4), .val (.int p5), .val (.int (if p4 = (0 : Int32) then (1 : Int32) else p4)), .val (.int (if (p5 &&& (1 : Int32)) = (0 : Int32) then (0 : Int32) else (if p4 = (0 : Int32) then (1 : Int32) else p4))), .val (.int (if (p5 &&& (2 : Int32)) = (0 : Int32) then (0 : Int32) else (if p4 = (0 : Int32) then (1 : Int32) else p4))), .val (.int (if (p5 &&& (4 : Int32)) = (0 : Int32) then (0 : Int32) else (if p4 = (0 : Int32) then (1 : Int32) else p4))), .unset, .unset, .unset, .unset, .unset, .unset] [(.int (p5 &&& (8 : Int32)))])) _
    have sg63 : Steps p.tables e below (s₁.setTop (mkF m 72 #[.val (.int p0), .val (.int p1), .val (.int p2), .val (.int p3), .val (.int p4), .val (.int p5), .val (.int (if p4 = (0 : Int32) then (1 : Int32) else p4)), .val (.int (if (p5 &&& (1 : Int32)) = (0 : Int32) then (0 : Int32) else (if p4 = (0 : Int32) then (1 : Int32) else p4))), .val (.int (if (p5 &&& (2 : Int32)) = (0 : Int32) then (0 : Int32) else (if p4 = (0 : Int32) then (1 : Int32) else p4))), .val (.int (if (p5 &&& (4 : Int32)) = (0 : Int32) then (0 : Int32) else (if p4 = (0 : Int32) then (1 : Int32) else p4))), .unset, .unset, .unset, .unset, .unset, .unset] [(.int (if (p5 &&& (8 : Int32)) = (0 : Int32) then (0 : Int32) else (if p4 = (0 : Int32) then (1 : Int32) else p4)))])) tZ → Steps p.tables e below (s₁.setTop (mkF m 63 #[.val (.int p0), .val (.int p1), .val (.int p2), .val (.int p3), .val (.int p4), .val (.int p5), .val (.int (if p4 = (0 : Int32) then (1 : Int32) else p4)), .val (.int (if (p5 &&& (1 : Int32)) = (0 : Int32) then (0 : Int32) else (if p4 = (0 : Int32) then (1 : Int32) else p4))), .val (.int (if (p5 &&& (2 : Int32)) = (0 : Int32) then (0 : Int32) else (if p4 = (0 : Int32) then (1 : Int32) else p4))), .val (.int (if (p5 &&& (4 : Int32)) = (0 : Int32) then (0 : Int32) else (if p4 = (0 : Int32) then (1 : Int32) else p4))), .unset, .unset, .unset, .unset, .unset, .unset] [(.int (p5 &&& (8 : Int32)))])) tZ := by
      intro kj
      by_cases hc63 : (p5 &&& (8 : Int32)) = (0 : Int32)
      · try simp only [if_pos hc63] at kj
        refine XS.ifYes X0.here hx rfl (pc0 := 63) (pc' := 71) rfl (hb hby at_63) rfl ((if0 _ _).trans (teq hc63).1) (by decide) (by decide) ?_
        show Steps p.tables e below (s₁.setTop (mkF m 71 #[.val (.int p0), .val (.int p1), .val (.int p2), .val (.int p3), .val (.int p4), .val (.int p5), .val (.int (if p4 = (0 : Int32) then (1 : Int32) else p4)), .val (.int (if (p5 &&& (1 : Int32)) = (0 : Int32) then (0 : Int32) else (if p4 = (0 : Int32) then (1 : Int32) else p4))), .val (.int (if (p5 &&& (2 : Int32)) = (0 : Int32) then (0 : Int32) else (if p4 = (0 : Int32) then (1 : Int32) else p4))), .val (.int (if (p5 &&& (4 : Int32)) = (0 : Int32) then (0 : Int32) else (if p4 = (0 : Int32) then (1 : Int32) else p4))), .unset, .unset, .unset, .unset, .unset, .unset] [])) _
        refine XS.iconst X0.here hx rfl (hb hby at_71) ?_
        show Steps p.tables e below (s₁.setTop (mkF m 72 #[.val (.int p0), .val (.int p1), .val (.int p2), .val (.int p3), .val (.int p4), .val (.int p5), .val (.int (if p4 = (0 : Int32) then (1 : Int32) else p4)), .val (.int (if (p5 &&& (1 : Int32)) = (0 : Int32) then (0 : Int32) else (if p4 = (0 : Int32) then (1 : Int32) else p4))), .val (.int (if (p5 &&& (2 : Int32)) = (0 : Int32) then (0 : Int32) else (if p4 = (0 : Int32) then (1 : Int32) else p4))), .val (.int (if (p5 &&& (4 : Int32)) = (0 : Int32) then (0 : Int32) else (if p4 = (0 : Int32) then (1 : Int32) else p4))), .unset, .unset, .unset, .unset, .unset, .unset] [(.int (0 : Int32))])) _
        exact kj
      · try simp only [if_neg hc63] at kj
        refine XS.ifNo X0.here hx rfl (hb hby at_63) rfl ((if0 _ _).trans (feq hc63).1) ?_
        show Steps p.tables e below (s₁.setTop (mkF m 66 #[.val (.int p0), .val (.int p1), .val (.int p2), .val (.int p3), .val (.int p4), .val (.int p5), .val (.int (if p4 = (0 : Int32) then (1 : Int32) else p4)), .val (.int (if (p5 &&& (1 : Int32)) = (0 : Int32) then (0 : Int32) else (if p4 = (0 : Int32) then (1 : Int32) else p4))), .val (.int (if (p5 &&& (2 : Int32)) = (0 : Int32) then (0 : Int32) else (if p4 = (0 : Int32) then (1 : Int32) else p4))), .val (.int (if (p5 &&& (4 : Int32)) = (0 : Int32) then (0 : Int32) else (if p4 = (0 : Int32) then (1 : Int32) else p4))), .unset, .unset, .unset, .unset, .unset, .unset] [])) _
        refine XS.iload X0.here hx rfl (hb hby at_66) rfl ?_
        show Steps p.tables e below (s₁.setTop (mkF m 68 #[.val (.int p0), .val (.int p1), .val (.int p2), .val (.int p3), .val (.int p4), .val (.int p5), .val (.int (if p4 = (0 : Int32) then (1 : Int32) else p4)), .val (.int (if (p5 &&& (1 : Int32)) = (0 : Int32) then (0 : Int32) else (if p4 = (0 : Int32) then (1 : Int32) else p4))), .val (.int (if (p5 &&& (2 : Int32)) = (0 : Int32) then (0 : Int32) else (if p4 = (0 : Int32) then (1 : Int32) else p4))), .val (.int (if (p5 &&& (4 : Int32)) = (0 : Int32) then (0 : Int32) else (if p4 = (0 : Int32) then (1 : Int32) else p4))), .unset, .unset, .unset, .unset, .unset, .unset] [(.int (if p4 = (0 : Int32) then (1 : Int32) else p4))])) _
        refine XS.goto X0.here hx rfl (pc0 := 68) (pc' := 72) rfl (hb hby at_68) (by decide) (by decide) ?_
        show Steps p.tables e below (s₁.setTop (mkF m 72 #[.val (.int p0), .val (.int p1), .val (.int p2), .val (.int p3), .val (.int p4), .val (.int p5), .val (.int (if p4 = (0 : Int32) then (1 : Int32) else p4)), .val (.int (if (p5 &&& (1 : Int32)) = (0 : Int32) then (0 : Int32) else (if p4 = (0 : Int32) then (1 : Int32) else p4))), .val (.int (if (p5 &&& (2 : Int32)) = (0 : Int32) then (0 : Int32) else (if p4 = (0 : Int32) then (1 : Int32) else p4))), .val (.int (if (p5 &&& (4 : Int32)) = (0 : Int32) then (0 : Int32) else (if p4 = (0 : Int32) then (1 : Int32) else p4))), .unset, .unset, .unset, .unset, .unset, .unset] [(.int (if p4 = (0 : Int32) then (1 : Int32) else p4))])) _
        exact kj
    refine sg63 ?_
    show Steps p.tables e below (s₁.setTop (mkF m 72 #[.val (.int p0), .val (.int p1), .val (.int p2), .val (.int p3), .val (.int p4), .val (.int p5), .val (.int (if p4 = (0 : Int32) then (1 : Int32) else p4)), .val (.int (if (p5 &&& (1 : Int32)) = (0 : Int32) then (0 : Int32) else (if p4 = (0 : Int32) then (1 : Int32) else p4))), .val (.int (if (p5 &&& (2 : Int32)) = (0 : Int32) then (0 : Int32) else (if p4 = (0 : Int32) then (1 : Int32) else p4))), .val (.int (if (p5 &&& (4 : Int32)) = (0 : Int32) then (0 : Int32) else (if p4 = (0 : Int32) then (1 : Int32) else p4))), .unset, .unset, .unset, .unset, .unset, .unset] [(.int (if (p5 &&& (8 : Int32)) = (0 : Int32) then (0 : Int32) else (if p4 = (0 : Int32) then (1 : Int32) else p4)))])) _
    refine XS.istore X0.here hx rfl (hb hby at_72) rfl (l' := #[.val (.int p0), .val (.int p1), .val (.int p2), .val (.int p3), .val (.int p4), .val (.int p5), .val (.int (if p4 = (0 : Int32) then (1 : Int32) else p4)), .val (.int (if (p5 &&& (1 : Int32)) = (0 : Int32) then (0 : Int32) else (if p4 = (0 : Int32) then (1 : Int32) else p4))), .val (.int (if (p5 &&& (2 : Int32)) = (0 : Int32) then (0 : Int32) else (if p4 = (0 : Int32) then (1 : Int32) else p4))), .val (.int (if (p5 &&& (4 : Int32)) = (0 : Int32) then (0 : Int32) else (if p4 = (0 : Int32) then (1 : Int32) else p4))), .val (.int (if (p5 &&& (8 : Int32)) = (0 : Int32) then (0 : Int32) else (if p4 = (0 : Int32) then (1 : Int32) else p4))), .unset, .unset, .unset, .unset, .unset]) rfl ?_
    show Steps p.tables e below (s₁.setTop (mkF m 74 #[.val (.int p0), .val (.int p1), .val (.int p2), .val (.int p3), .val (.int p4), .val (.int p5), .val (.int (if p4 = (0 : Int32) then (1 : Int32) else p4)), .val (.int (if (p5 &&& (1 : Int32)) = (0 : Int32) then (0 : Int32) else (if p4 = (0 : Int32) then (1 : Int32) else p4))), .val (.int (if (p5 &&& (2 : Int32)) = (0 : Int32) then (0 : Int32) else (if p4 = (0 : Int32) then (1 : Int32) else p4))), .val (.int (if (p5 &&& (4 : Int32)) = (0 : Int32) then (0 : Int32) else (if p4 = (0 : Int32) then (1 : Int32) else p4))), .val (.int (if (p5 &&& (8 : Int32)) = (0 : Int32) then (0 : Int32) else (if p4 = (0 : Int32) then (1 : Int32) else p4))), .unset, .unset, .unset, .unset, .unset] [])) _
    exact kZ
  obtain ⟨T1, h1, X1, e1, E1, A1, D1, -, st1⟩ := newO X0 hx hZ hown (hw _ (List.mem_of_getElem? (i := 0) rfl)) (hw _ (List.mem_of_getElem? (i := 1) rfl)) (hw _ (List.mem_of_getElem? (i := 2) rfl)) e0 (g := (mkF m 74 #[.val (.int p0), .val (.int p1), .val (.int p2), .val (.int p3), .val (.int p4), .val (.int p5), .val (.int (if p4 = (0 : Int32) then (1 : Int32) else p4)), .val (.int (if (p5 &&& (1 : Int32)) = (0 : Int32) then (0 : Int32) else (if p4 = (0 : Int32) then (1 : Int32) else p4))), .val (.int (if (p5 &&& (2 : Int32)) = (0 : Int32) then (0 : Int32) else (if p4 = (0 : Int32) then (1 : Int32) else p4))), .val (.int (if (p5 &&& (4 : Int32)) = (0 : Int32) then (0 : Int32) else (if p4 = (0 : Int32) then (1 : Int32) else p4))), .val (.int (if (p5 &&& (8 : Int32)) = (0 : Int32) then (0 : Int32) else (if p4 = (0 : Int32) then (1 : Int32) else p4))), .unset, .unset, .unset, .unset, .unset] [])) rfl (hb hby at_74) (by decide) (by decide)
  obtain ⟨b1, g1⟩ : ∃ z, z = h0.size := ⟨_, rfl⟩
  rw [← g1] at A1 D1 st1
  have g_b1 : n0 ≤ b1 := Nat.le_trans Z0 (Nat.le_of_eq g1.symm)
  have sz_b1 : h0.size ≤ b1 := Nat.le_trans ((Keep.refl h0 [])).1 (Nat.le_of_eq g1.symm)
  have c2_2 := ha2.ext E1
  have c2_0 := ha0.ext c2_2.2
  have c2_1 := ha1.ext c2_2.2
  have K1 : Keep h0 h1 [] := (Keep.refl h0 []).ext E1
  have Z1 : n0 ≤ h1.size := Nat.le_trans Z0 E1.1
  have F1_safety : Fld Z h1 b1 "com/example/ltlconv/ltlconv/ldba/RecurrenceParts$State" "safety" "I" (.int (0 : Int32)) := D1 (Or.inr (hw _ (List.mem_of_getElem? (i := 10) rfl))) (ty := .int) (by decide)
  have F1_recurrences : Fld Z h1 b1 "com/example/ltlconv/ltlconv/ldba/RecurrenceParts$State" "recurrences" "I" (.int (0 : Int32)) := D1 (Or.inr (hw _ (List.mem_of_getElem? (i := 12) rfl))) (ty := .int) (by decide)
  have F1_awaited : Fld Z h1 b1 "com/example/ltlconv/ltlconv/ldba/RecurrenceParts$State" "awaited" "I" (.int (0 : Int32)) := D1 (Or.inr (hw _ (List.mem_of_getElem? (i := 14) rfl))) (ty := .int) (by decide)
  have F1_progress : Fld Z h1 b1 "com/example/ltlconv/ltlconv/ldba/RecurrenceParts$State" "progress" "I" (.int (0 : Int32)) := D1 (Or.inr (hw _ (List.mem_of_getElem? (i := 16) rfl))) (ty := .int) (by decide)
  refine Go.via st1 ?_
  show Go p e below _ (T1.setTop (mkF m 77 #[.val (.int p0), .val (.int p1), .val (.int p2), .val (.int p3), .val (.int p4), .val (.int p5), .val (.int (if p4 = (0 : Int32) then (1 : Int32) else p4)), .val (.int (if (p5 &&& (1 : Int32)) = (0 : Int32) then (0 : Int32) else (if p4 = (0 : Int32) then (1 : Int32) else p4))), .val (.int (if (p5 &&& (2 : Int32)) = (0 : Int32) then (0 : Int32) else (if p4 = (0 : Int32) then (1 : Int32) else p4))), .val (.int (if (p5 &&& (4 : Int32)) = (0 : Int32) then (0 : Int32) else (if p4 = (0 : Int32) then (1 : Int32) else p4))), .val (.int (if (p5 &&& (8 : Int32)) = (0 : Int32) then (0 : Int32) else (if p4 = (0 : Int32) then (1 : Int32) else p4))), .unset, .unset, .unset, .unset, .unset] [(.ref b1)]))
  refine Go.via (T' := T1.setTop (mkF m 82 #[.val (.int p0), .val (.int p1), .val (.int p2), .val (.int p3), .val (.int p4), .val (.int p5), .val (.int (if p4 = (0 : Int32) then (1 : Int32) else p4)), .val (.int (if (p5 &&& (1 : Int32)) = (0 : Int32) then (0 : Int32) else (if p4 = (0 : Int32) then (1 : Int32) else p4))), .val (.int (if (p5 &&& (2 : Int32)) = (0 : Int32) then (0 : Int32) else (if p4 = (0 : Int32) then (1 : Int32) else p4))), .val (.int (if (p5 &&& (4 : Int32)) = (0 : Int32) then (0 : Int32) else (if p4 = (0 : Int32) then (1 : Int32) else p4))), .val (.int (if (p5 &&& (8 : Int32)) = (0 : Int32) then (0 : Int32) else (if p4 = (0 : Int32) then (1 : Int32) else p4))), .unset, .unset, .unset, .unset, .unset] [(.int p3), (.int p2), (.int p1), (.int p0), (.ref b1), (.ref b1)])) (fun tZ kZ => ?_) ?_
  · show Steps p.tables e below (T1.setTop (mkF m 77 #[.val (.int p0), .val (.int p1), .val (.int p2), .val (.int p3), .val (.int p4), .val (.int p5), .val (.int (if p4 = (0 : Int32) then (1 : Int32) else p4)), .val (.int (if (p5 &&& (1 : Int32)) = (0 : Int32) then (0 : Int32) else (if p4 = (0 : Int32) then (1 : Int32) else p4))), .val (.int (if (p5 &&& (2 : Int32)) = (0 : Int32) then (0 : Int32) else (if p4 = (0 : Int32) then (1 : Int32) else p4))), .val (.int (if (p5 &&& (4 : Int32)) = (0 : Int32) then (0 : Int32) else (if p4 = (0 : Int32) then (1 : Int32) else p4))), .val (.int (if (p5 &&& (8 : Int32)) = (0 : Int32) then (0 : Int32) else (if p4 = (0 : Int32) then (1 : Int32) else p4))), .unset, .unset, .unset, .unset, .unset] [(.ref b1)])) _
    refine XS.dup X1.here hx rfl (hb hby at_77) rfl rfl ?_
    show Steps p.tables e below (T1.setTop (mkF m 78 #[.val (.int p0), .val (.int p1), .val (.int p2), .val (.int p3), .val (.int p4), .val (.int p5), .val (.int (if p4 = (0 : Int32) then (1 : Int32) else p4)), .val (.int (if (p5 &&& (1 : Int32)) = (0 : Int32) then (0 : Int32) else (if p4 = (0 : Int32) then (1 : Int32) else p4))), .val (.int (if (p5 &&& (2 : Int32)) = (0 : Int32) then (0 : Int32) else (if p4 = (0 : Int32) then (1 : Int32) else p4))), .val (.int (if (p5 &&& (4 : Int32)) = (0 : Int32) then (0 : Int32) else (if p4 = (0 : Int32) then (1 : Int32) else p4))), .val (.int (if (p5 &&& (8 : Int32)) = (0 : Int32) then (0 : Int32) else (if p4 = (0 : Int32) then (1 : Int32) else p4))), .unset, .unset, .unset, .unset, .unset] [(.ref b1), (.ref b1)])) _
    refine XS.iloadN X1.here hx rfl (hb hby at_78) rfl ?_
    show Steps p.tables e below (T1.setTop (mkF m 79 #[.val (.int p0), .val (.int p1), .val (.int p2), .val (.int p3), .val (.int p4), .val (.int p5), .val (.int (if p4 = (0 : Int32) then (1 : Int32) else p4)), .val (.int (if (p5 &&& (1 : Int32)) = (0 : Int32) then (0 : Int32) else (if p4 = (0 : Int32) then (1 : Int32) else p4))), .val (.int (if (p5 &&& (2 : Int32)) = (0 : Int32) then (0 : Int32) else (if p4 = (0 : Int32) then (1 : Int32) else p4))), .val (.int (if (p5 &&& (4 : Int32)) = (0 : Int32) then (0 : Int32) else (if p4 = (0 : Int32) then (1 : Int32) else p4))), .val (.int (if (p5 &&& (8 : Int32)) = (0 : Int32) then (0 : Int32) else (if p4 = (0 : Int32) then (1 : Int32) else p4))), .unset, .unset, .unset, .unset, .unset] [(.int p0), (.ref b1), (.ref b1)])) _
    refine XS.iloadN X1.here hx rfl (hb hby at_79) rfl ?_
    show Steps p.tables e below (T1.setTop (mkF m 80 #[.val (.int p0), .val (.int p1), .val (.int p2), .val (.int p3), .val (.int p4), .val (.int p5), .val (.int (if p4 = (0 : Int32) then (1 : Int32) else p4)), .val (.int (if (p5 &&& (1 : Int32)) = (0 : Int32) then (0 : Int32) else (if p4 = (0 : Int32) then (1 : Int32) else p4))), .val (.int (if (p5 &&& (2 : Int32)) = (0 : Int32) then (0 : Int32) else (if p4 = (0 : Int32) then (1 : Int32) else p4))), .val (.int (if (p5 &&& (4 : Int32)) = (0 : Int32) then (0 : Int32) else (if p4 = (0 : Int32) then (1 : Int32) else p4))), .val (.int (if (p5 &&& (8 : Int32)) = (0 : Int32) then (0 : Int32) else (if p4 = (0 : Int32) then (1 : Int32) else p4))), .unset, .unset, .unset, .unset, .unset] [(.int p1), (.int p0), (.ref b1), (.ref b1)])) _
    refine XS.iloadN X1.here hx rfl (hb hby at_80) rfl ?_
    show Steps p.tables e below (T1.setTop (mkF m 81 #[.val (.int p0), .val (.int p1), .val (.int p2), .val (.int p3), .val (.int p4), .val (.int p5), .val (.int (if p4 = (0 : Int32) then (1 : Int32) else p4)), .val (.int (if (p5 &&& (1 : Int32)) = (0 : Int32) then (0 : Int32) else (if p4 = (0 : Int32) then (1 : Int32) else p4))), .val (.int (if (p5 &&& (2 : Int32)) = (0 : Int32) then (0 : Int32) else (if p4 = (0 : Int32) then (1 : Int32) else p4))), .val (.int (if (p5 &&& (4 : Int32)) = (0 : Int32) then (0 : Int32) else (if p4 = (0 : Int32) then (1 : Int32) else p4))), .val (.int (if (p5 &&& (8 : Int32)) = (0 : Int32) then (0 : Int32) else (if p4 = (0 : Int32) then (1 : Int32) else p4))), .unset, .unset, .unset, .unset, .unset] [(.int p2), (.int p1), (.int p0), (.ref b1), (.ref b1)])) _
    refine XS.iloadN X1.here hx rfl (hb hby at_81) rfl ?_
    show Steps p.tables e below (T1.setTop (mkF m 82 #[.val (.int p0), .val (.int p1), .val (.int p2), .val (.int p3), .val (.int p4), .val (.int p5), .val (.int (if p4 = (0 : Int32) then (1 : Int32) else p4)), .val (.int (if (p5 &&& (1 : Int32)) = (0 : Int32) then (0 : Int32) else (if p4 = (0 : Int32) then (1 : Int32) else p4))), .val (.int (if (p5 &&& (2 : Int32)) = (0 : Int32) then (0 : Int32) else (if p4 = (0 : Int32) then (1 : Int32) else p4))), .val (.int (if (p5 &&& (4 : Int32)) = (0 : Int32) then (0 : Int32) else (if p4 = (0 : Int32) then (1 : Int32) else p4))), .val (.int (if (p5 &&& (8 : Int32)) = (0 : Int32) then (0 : Int32) else (if p4 = (0 : Int32) then (1 : Int32) else p4))), .unset, .unset, .unset, .unset, .unset] [(.int p3), (.int p2), (.int p1), (.int p0), (.ref b1), (.ref b1)])) _
    exact kZ
  obtain ⟨_, _, ⟨T3, L3, k3, n3⟩, -, X3, ⟨Lc3, hQ3, l3, y3, z3⟩, st3⟩ := X1.specialBack hx (y := (⟨"com/example/ltlconv/ltlconv/ldba/RecurrenceParts$State", "<init>", "(IIII)V"⟩ : MethodName)) rfl hown (mvT hZ (hw _ (List.mem_of_getElem? (i := 3) rfl))) (mvT hZ (hw _ (List.mem_of_getElem? (i := 4) rfl))) (mvT hZ (hw _ (List.mem_of_getElem? (i := 5) rfl))) (by decide) (backOf (W := 1) (rm1 l Z a0 hw [] b1 p0 p1 p2 p3 (0 : Int32) (0 : Int32) (0 : Int32) (0 : Int32) h1 n0 Z1 A1 F1_safety F1_recurrences F1_awaited F1_progress g_b1) hZ (hw _ (List.mem_of_getElem? (i := 5) rfl)) (hw _ (List.mem_of_getElem? (i := 2) rfl)) (by decide) (by decide)) (g := (mkF m 82 #[.val (.int p0), .val (.int p1), .val (.int p2), .val (.int p3), .val (.int p4), .val (.int p5), .val (.int (if p4 = (0 : Int32) then (1 : Int32) else p4)), .val (.int (if (p5 &&& (1 : Int32)) = (0 : Int32) then (0 : Int32) else (if p4 = (0 : Int32) then (1 : Int32) else p4))), .val (.int (if (p5 &&& (2 : Int32)) = (0 : Int32) then (0 : Int32) else (if p4 = (0 : Int32) then (1 : Int32) else p4))), .val (.int (if (p5 &&& (4 : Int32)) = (0 : Int32) then (0 : Int32) else (if p4 = (0 : Int32) then (1 : Int32) else p4))), .val (.int (if (p5 &&& (8 : Int32)) = (0 : Int32) then (0 : Int32) else (if p4 = (0 : Int32) then (1 : Int32) else p4))), .unset, .unset, .unset, .unset, .unset] [(.int p3), (.int p2), (.int p1), (.int p0), (.ref b1), (.ref b1)])) rfl (by rw [hml]; rfl) (Steps.refl _) (a := b1) (argsL := [(.int p0), (.int p1), (.int p2), (.int p3)]) (rest := [(.ref b1)]) (lenOf pd_0 rfl) rfl (by show 2 * 0 + _ ≤ _; exact Nat.le_of_eq rfl) (hb hby at_82) (fun _ _ => ⟨rfl, e1, (by decide : 0 + 1 + 0 ≤ _), (by decide : 0 + 4 + 0 ≤ _)⟩)
  dsimp only [Pt.U, Pt.locs, Pt.cells, Pt.slots] at X3 l3 y3 z3 st3 hQ3
  subst l3 y3 z3
  obtain ⟨rfl, N3q, Kq3, f3_0, f3_1, f3_2, f3_3, f3_4⟩ := hQ3
  have c4_2 := c2_2.keep Kq3 (allS g_b1 all0)
  have c4_0 := ha0.ext c4_2.2
  have c4_1 := ha1.ext c4_2.2
  have K3 : Keep h0 T3.heap [] := K1.trans Kq3 (allS (Or.inr sz_b1) all0)
  have Z3 : n0 ≤ T3.heap.size := Nat.le_trans Z1 Kq3.1
  have N3 := Fr.app N0 N3q
  refine Go.via (fun t k => st3.trans k) ?_
  show Go p e below _ (T3.setTop (mkF m 85 #[.val (.int p0), .val (.int p1), .val (.int p2), .val (.int p3), .val (.int p4), .val (.int p5), .val (.int (if p4 = (0 : Int32) then (1 : Int32) else p4)), .val (.int (if (p5 &&& (1 : Int32)) = (0 : Int32) then (0 : Int32) else (if p4 = (0 : Int32) then (1 : Int32) else p4))), .val (.int (if (p5 &&& (2 : Int32)) = (0 : Int32) then (0 : Int32) else (if p4 = (0 : Int32) then (1 : Int32) else p4))), .val (.int (if (p5 &&& (4 : Int32)) = (0 : Int32) then (0 : Int32) else (if p4 = (0 : Int32) then (1 : Int32) else p4))), .val (.int (if (p5 &&& (8 : Int32)) = (0 : Int32) then (0 : Int32) else (if p4 = (0 : Int32) then (1 : Int32) else p4))), .unset, .unset, .unset, .unset, .unset] [(.ref b1)]))
  refine Go.via (T' := T3.setTop (mkF m 87 #[.val (.int p0), .val (.int p1), .val (.int p2), .val (.int p3), .val (.int p4), .val (.int p5), .val (.int (if p4 = (0 : Int32) then (1 : Int32) else p4)), .val (.int (if (p5 &&& (1 : Int32)) = (0 : Int32) then (0 : Int32) else (if p4 = (0 : Int32) then (1 : Int32) else p4))), .val (.int (if (p5 &&& (2 : Int32)) = (0 : Int32) then (0 : Int32) else (if p4 = (0 : Int32) then (1 : Int32) else p4))), .val (.int (if (p5 &&& (4 : Int32)) = (0 : Int32) then (0 : Int32) else (if p4 = (0 : Int32) then (1 : Int32) else p4))), .val (.int (if (p5 &&& (8 : Int32)) = (0 : Int32) then (0 : Int32) else (if p4 = (0 : Int32) then (1 : Int32) else p4))), .val (.ref b1), .unset, .unset, .unset, .unset] [])) (fun tZ kZ => ?_) ?_
  · show Steps p.tables e below (T3.setTop (mkF m 85 #[.val (.int p0), .val (.int p1), .val (.int p2), .val (.int p3), .val (.int p4), .val (.int p5), .val (.int (if p4 = (0 : Int32) then (1 : Int32) else p4)), .val (.int (if (p5 &&& (1 : Int32)) = (0 : Int32) then (0 : Int32) else (if p4 = (0 : Int32) then (1 : Int32) else p4))), .val (.int (if (p5 &&& (2 : Int32)) = (0 : Int32) then (0 : Int32) else (if p4 = (0 : Int32) then (1 : Int32) else p4))), .val (.int (if (p5 &&& (4 : Int32)) = (0 : Int32) then (0 : Int32) else (if p4 = (0 : Int32) then (1 : Int32) else p4))), .val (.int (if (p5 &&& (8 : Int32)) = (0 : Int32) then (0 : Int32) else (if p4 = (0 : Int32) then (1 : Int32) else p4))), .unset, .unset, .unset, .unset, .unset] [(.ref b1)])) _
    refine XS.astore X3.here hx rfl (hb hby at_85) rfl rfl (l' := #[.val (.int p0), .val (.int p1), .val (.int p2), .val (.int p3), .val (.int p4), .val (.int p5), .val (.int (if p4 = (0 : Int32) then (1 : Int32) else p4)), .val (.int (if (p5 &&& (1 : Int32)) = (0 : Int32) then (0 : Int32) else (if p4 = (0 : Int32) then (1 : Int32) else p4))), .val (.int (if (p5 &&& (2 : Int32)) = (0 : Int32) then (0 : Int32) else (if p4 = (0 : Int32) then (1 : Int32) else p4))), .val (.int (if (p5 &&& (4 : Int32)) = (0 : Int32) then (0 : Int32) else (if p4 = (0 : Int32) then (1 : Int32) else p4))), .val (.int (if (p5 &&& (8 : Int32)) = (0 : Int32) then (0 : Int32) else (if p4 = (0 : Int32) then (1 : Int32) else p4))), .val (.ref b1), .unset, .unset, .unset, .unset]) rfl ?_
    show Steps p.tables e below (T3.setTop (mkF m 87 #[.val (.int p0), .val (.int p1), .val (.int p2), .val (.int p3), .val (.int p4), .val (.int p5), .val (.int (if p4 = (0 : Int32) then (1 : Int32) else p4)), .val (.int (if (p5 &&& (1 : Int32)) = (0 : Int32) then (0 : Int32) else (if p4 = (0 : Int32) then (1 : Int32) else p4))), .val (.int (if (p5 &&& (2 : Int32)) = (0 : Int32) then (0 : Int32) else (if p4 = (0 : Int32) then (1 : Int32) else p4))), .val (.int (if (p5 &&& (4 : Int32)) = (0 : Int32) then (0 : Int32) else (if p4 = (0 : Int32) then (1 : Int32) else p4))), .val (.int (if (p5 &&& (8 : Int32)) = (0 : Int32) then (0 : Int32) else (if p4 = (0 : Int32) then (1 : Int32) else p4))), .val (.ref b1), .unset, .unset, .unset, .unset] [])) _
    exact kZ
  obtain ⟨T5, h5, X5, e5, E5, A5, D5, -, st5⟩ := newO X3 hx hZ hown (hw _ (List.mem_of_getElem? (i := 0) rfl)) (hw _ (List.mem_of_getElem? (i := 1) rfl)) (hw _ (List.mem_of_getElem? (i := 2) rfl)) rfl (g := (mkF m 87 #[.val (.int p0), .val (.int p1), .val (.int p2), .val (.int p3), .val (.int p4), .val (.int p5), .val (.int (if p4 = (0 : Int32) then (1 : Int32) else p4)), .val (.int (if (p5 &&& (1 : Int32)) = (0 : Int32) then (0 : Int32) else (if p4 = (0 : Int32) then (1 : Int32) else p4))), .val (.int (if (p5 &&& (2 : Int32)) = (0 : Int32) then (0 : Int32) else (if p4 = (0 : Int32) then (1 : Int32) else p4))), .val (.int (if (p5 &&& (4 : Int32)) = (0 : Int32) then (0 : Int32) else (if p4 = (0 : Int32) then (1 : Int32) else p4))), .val (.int (if (p5 &&& (8 : Int32)) = (0 : Int32) then (0 : Int32) else (if p4 = (0 : Int32) then (1 : Int32) else p4))), .val (.ref b1), .unset, .unset, .unset, .unset] [])) rfl (hb hby at_87) (by decide) (by decide)
  obtain ⟨b5, g5⟩ : ∃ z, z = T3.heap.size := ⟨_, rfl⟩
  rw [← g5] at A5 D5 st5
  have g_b5 : n0 ≤ b5 := Nat.le_trans Z3 (Nat.le_of_eq g5.symm)
  have sz_b5 : h0.size ≤ b5 := Nat.le_trans (K3).1 (Nat.le_of_eq g5.symm)
  have ne_b1_b5 : b1 ≠ b5 := Nat.ne_of_lt (Nat.lt_of_lt_of_le f3_0.lt (Nat.le_of_eq g5.symm))
  have c6_2 := c4_2.ext E5
  have c6_0 := ha0.ext c6_2.2
  have c6_1 := ha1.ext c6_2.2
  have c6_4 := f3_0.ext E5
  have c6_5 := f3_1.ext E5
  have c6_6 := f3_2.ext E5
  have c6_7 := f3_3.ext E5
  have c6_8 := f3_4.ext E5
  have K5 : Keep h0 h5 [] := K3.ext E5
  have Z5 : n0 ≤ h5.size := Nat.le_trans Z3 E5.1
  have F5_safety : Fld Z h5 b5 "com/example/ltlconv/ltlconv/ldba/RecurrenceParts$State" "safety" "I" (.int (0 : Int32)) := D5 (Or.inr (hw _ (List.mem_of_getElem? (i := 10) rfl))) (ty := .int) (by decide)
  have F5_recurrences : Fld Z h5 b5 "com/example/ltlconv/ltlconv/ldba/RecurrenceParts$State" "recurrences" "I" (.int (0 : Int32)) := D5 (Or.inr (hw _ (List.mem_of_getElem? (i := 12) rfl))) (ty := .int) (by decide)
  have F5_awaited : Fld Z h5 b5 "com/example/ltlconv/ltlconv/ldba/RecurrenceParts$State" "awaited" "I" (.int (0 : Int32)) := D5 (Or.inr (hw _ (List.mem_of_getElem? (i := 14) rfl))) (ty := .int) (by decide)
  have F5_progress : Fld Z h5 b5 "com/example/ltlconv/ltlconv/ldba/RecurrenceParts$State" "progress" "I" (.int (0 : Int32)) := D5 (Or.inr (hw _ (List.mem_of_getElem? (i := 16) rfl))) (ty := .int) (by decide)
  refine Go.via st5 ?_
  show Go p e below _ (T5.setTop (mkF m 90 #[.val (.int p0), .val (.int p1), .val (.int p2), .val (.int p3), .val (.int p4), .val (.int p5), .val (.int (if p4 = (0 : Int32) then (1 : Int32) else p4)), .val (.int (if (p5 &&& (1 : Int32)) = (0 : Int32) then (0 : Int32) else (if p4 = (0 : Int32) then (1 : Int32) else p4))), .val (.int (if (p5 &&& (2 : Int32)) = (0 : Int32) then (0 : Int32) else (if p4 = (0 : Int32) then (1 : Int32) else p4))), .val (.int (if (p5 &&& (4 : Int32)) = (0 : Int32) then (0 : Int32) else (if p4 = (0 : Int32) then (1 : Int32) else p4))), .val (.int (if (p5 &&& (8 : Int32)) = (0 : Int32) then (0 : Int32) else (if p4 = (0 : Int32) then (1 : Int32) else p4))), .val (.ref b1), .unset, .unset, .unset, .unset] [(.ref b5)]))
  refine Go.via (T' := T5.setTop (mkF m 107 #[.val (.int p0), .val (.int p1), .val (.int p2), .val (.int p3), .val (.int p4), .val (.int p5), .val (.int (if p4 = (0 : Int32) then (1 : Int32) else p4)), .val (.int (if (p5 &&& (1 : Int32)) = (0 : Int32) then (0 : Int32) else (if p4 = (0 : Int32) then (1 : Int32) else p4))), .val (.int (if (p5 &&& (2 : Int32)) = (0 : Int32) then (0 : Int32) else (if p4 = (0 : Int32) then (1 : Int32) else p4))), .val (.int (if (p5 &&& (4 : Int32)) = (0 : Int32) then (0 : Int32) else (if p4 = (0 : Int32) then (1 : Int32) else p4))), .val (.int (if (p5 &&& (8 : Int32)) = (0 : Int32) then (0 : Int32) else (if p4 = (0 : Int32) then (1 : Int32) else p4))), .val (.ref b1), .unset, .unset, .unset, .unset] [(.int (p3 ^^^ (if (p5 &&& (8 : Int32)) = (0 : Int32) then (0 : Int32) else (if p4 = (0 : Int32) then (1 : Int32) else p4)))), (.int (p2 ^^^ (if (p5 &&& (4 : Int32)) = (0 : Int32) then (0 : Int32) else (if p4 = (0 : Int32) then (1 : Int32) else p4)))), (.int (p1 ^^^ (if (p5 &&& (2 : Int32)) = (0 : Int32) then (0 : Int32) else (if p4 = (0 : Int32) then (1 : Int32) else p4)))), (.int (p0 ^^^ (if (p5 &&& (1 : Int32)) = (0 : Int32) then (0 : Int32) else (if p4 = (0 : Int32) then (1 : Int32) else p4)))), (.ref b5), (.ref b5)])) (fun tZ kZ => ?_) ?_
  · show Steps p.tables e below (T5.setTop (mkF m 90 #[.val (.int p0), .val (.int p1), .val (.int p2), .val (.int p3), .val (.int p4), .val (.int p5), .val (.int (if p4 = (0 : Int32) then (1 : Int32) else p4)), .val (.int (if (p5 &&& (1 : Int32)) = (0 : Int32) then (0 : Int32) else (if p4 = (0 : Int32) then (1 : Int32) else p4))), .val (.int (if (p5 &&& (2 : Int32)) = (0 : Int32) then (0 : Int32) else (if p4 = (0 : Int32) then (1 : Int32) else p4))), .val (.int (if (p5 &&& (4 : Int32)) = (0 : Int32) then (0 : Int32) else (if p4 = (0 : Int32) then (1 : Int32) else p4))), .val (.int (if (p5 &&& (8 : Int32)) = (0 : Int32) then (0 : Int32) else (if p4 = (0 : Int32) then (1 : Int32) else p4))), .val (.ref b1), .unset, .unset, .unset, .unset] [(.ref b5)])) _
    refine XS.dup X5.here hx rfl (hb hby at_90) rfl rfl ?_
    show Steps p.tables e below (T5.setTop (mkF m 91 #[.val (.int p0), .val (.int p1), .val (.int p2), .val (.int p3), .val (.int p4), .val (.int p5), .val (.int (if p4 = (0 : Int32) then (1 : Int32) else p4)), .val (.int (if (p5 &&& (1 : Int32)) = (0 : Int32) then (0 : Int32) else (if p4 = (0 : Int32) then (1 : Int32) else p4))), .val (.int (if (p5 &&& (2 : Int32)) = (0 : Int32) then (0 : Int32) else (if p4 = (0 : Int32) then (1 : Int32) else p4))), .val (.int (if (p5 &&& (4 : Int32)) = (0 : Int32) then (0 : Int32) else (if p4 = (0 : Int32) then (1 : Int32) else p4))), .val (.int (if (p5 &&& (8 : Int32)) = (0 : Int32) then (0 : Int32) else (if p4 = (0 : Int32) then (1 : Int32) else p4))), .val (.ref b1), .unset, .unset, .unset, .unset] [(.ref b5), (.ref b5)])) _
    refine XS.iloadN X5.here hx rfl (hb hby at_91) rfl ?_
    show Steps p.tables e below (T5.setTop (mkF m 92 #[.val (.int p0), .val (.int p1), .val (.int p2), .val (.int p3), .val (.int p4), .val (.int p5), .val (.int (if p4 = (0 : Int32) then (1 : Int32) else p4)), .val (.int (if (p5 &&& (1 : Int32)) = (0 : Int32) then (0 : Int32) else (if p4 = (0 : Int32) then (1 : Int32) else p4))), .val (.int (if (p5 &&& (2 : Int32)) = (0 : Int32) then (0 : Int32) else (if p4 = (0 : Int32) then (1 : Int32) else p4))), .val (.int (if (p5 &&& (4 : Int32)) = (0 : Int32) then (0 : Int32) else (if p4 = (0 : Int32) then (1 : Int32) else p4))), .val (.int (if (p5 &&& (8 : Int32)) = (0 : Int32) then (0 : Int32) else (if p4 = (0 : Int32) then (1 : Int32) else p4))), .val (.ref b1), .unset, .unset, .unset, .unset] [(.int p0), (.ref b5), (.ref b5)])) _
    refine XS.iload X5.here hx rfl (hb hby at_92) rfl ?_
    show Steps p.tables e below (T5.setTop (mkF m 94 #[.val (.int p0), .val (.int p1), .val (.int p2), .val (.int p3), .val (.int p4), .val (.int p5), .val (.int (if p4 = (0 : Int32) then (1 : Int32) else p4)), .val (.int (if (p5 &&& (1 : Int32)) = (0 : Int32) then (0 : Int32) else (if p4 = (0 : Int32) then (1 : Int32) else p4))), .val (.int (if (p5 &&& (2 : Int32)) = (0 : Int32) then (0 : Int32) else (if p4 = (0 : Int32) then (1 : Int32) else p4))), .val (.int (if (p5 &&& (4 : Int32)) = (0 : Int32) then (0 : Int32) else (if p4 = (0 : Int32) then (1 : Int32) else p4))), .val (.int (if (p5 &&& (8 : Int32)) = (0 : Int32) then (0 : Int32) else (if p4 = (0 : Int32) then (1 : Int32) else p4))), .val (.ref b1), .unset, .unset, .unset, .unset] [(.int (if (p5 &&& (1 : Int32)) = (0 : Int32) then (0 : Int32) else (if p4 = (0 : Int32) then (1 : Int32) else p4))), (.int p0), (.ref b5), (.ref b5)])) _
    refine XS.ixor X5.here hx rfl (hb hby at_94) rfl ?_
    show Steps p.tables e below (T5.setTop (mkF m 95 #[.val (.int p0), .val (.int p1), .val (.int p2), .val (.int p3), .val (.int p4), .val (.int p5), .val (.int (if p4 = (0 : Int32) then (1 : Int32) else p4)), .val (.int (if (p5 &&& (1 : Int32)) = (0 : Int32) then (0 : Int32) else (if p4 = (0 : Int32) then (1 : Int32) else p4))), .val (.int (if (p5 &&& (2 : Int32)) = (0 : Int32) then (0 : Int32) else (if p4 = (0 : Int32) then (1 : Int32) else p4))), .val (.int (if (p5 &&& (4 : Int32)) = (0 : Int32) then (0 : Int32) else (if p4 = (0 : Int32) then (1 : Int32) else p4))), .val (.int (if (p5 &&& (8 : Int32)) = (0 : Int32) then (0 : Int32) else (if p4 = (0 : Int32) then (1 : Int32) else p4))), .val (.ref b1), .unset, .unset, .unset, .unset] [(.int (p0 ^^^ (if (p5 &&& (1 : Int32)) = (0 : Int32) then (0 : Int32) else (if p4 = (0 : Int32) then (1 : Int32) else p4)))), (.ref b5), (.ref b5)])) _
    refine XS.iloadN X5.here hx rfl (hb hby at_95) rfl ?_
    show Steps p.tables e below (T5.setTop (mkF m 96 #[.val (.int p0), .val (.int p1), .val (.int p2), .val (.int p3), .val (.int p4), .val (.int p5), .val (.int (if p4 = (0 : Int32) then (1 : Int32) else p4)), .val (.int (if (p5 &&& (1 : Int32)) = (0 : Int32) then (0 : Int32) else (if p4 = (0 : Int32) then (1 : Int32) else p4))), .val (.int (if (p5 &&& (2 : Int32)) = (0 : Int32) then (0 : Int32) else (if p4 = (0 : Int32) then (1 : Int32) else p4))), .val (.int (if (p5 &&& (4 : Int32)) = (0 : Int32) then (0 : Int32) else (if p4 = (0 : Int32) then (1 : Int32) else p4))), .val (.int (if (p5 &&& (8 : Int32)) = (0 : Int32) then (0 : Int32) else (if p4 = (0 : Int32) then (1 : Int32) else p4))), .val (.ref b1), .unset, .unset, .unset, .unset] [(.int p1), (.int (p0 ^^^ (if (p5 &&& (1 : Int32)) = (0 : Int32) then (0 : Int32) else (if p4 = (0 : Int32) then (1 : Int32) else p4)))), (.ref b5), (.ref b5)])) _
    refine XS.iload X5.here hx rfl (hb hby at_96) rfl ?_
    show Steps p.tables e below (T5.setTop (mkF m 98 #[.val (.int p0), .val (.int p1), .val (.int p2), .val (.int p3), .val (.int p4), .val (.int p5), .val (.int (if p4 = (0 : Int32) then (1 : Int32) else p4)), .val (.int (if (p5 &&& (1 : Int32)) = (0 : Int32) then (0 : Int32) else (if p4 = (0 : Int32) then (1 : Int32) else p4))), .val (.int (if (p5 &&& (2 : Int32)) = (0 : Int32) then (0 : Int32) else (if p4 = (0 : Int32) then (1 : Int32) else p4))), .val (.int (if (p5 &&& (4 : Int32)) = (0 : Int32) then (0 : Int32) else (if p4 = (0 : Int32) then (1 : Int32) else p4))), .val (.int (if (p5 &&& (8 : Int32)) = (0 : Int32) then (0 : Int32) else (if p4 = (0 : Int32) then (1 : Int32) else p4))), .val (.ref b1), .unset, .unset, .unset, .unset] [(.int (if (p5 &&& (2 : Int32)) = (0 : Int32) then (0 : Int32) else (if p4 = (0 : Int32) then (1 : Int32) else p4))), (.int p1), (.int (p0 ^^^ (if (p5 &&& (1 : Int32)) = (0 : Int32) then (0 : Int32) else (if p4 = (0 : Int32) then (1 : Int32) else p4)))), (.ref b5), (.ref b5)])) _
    refine XS.ixor X5.here hx rfl (hb hby at_98) rfl ?_
    show Steps p.tables e below (T5.setTop (mkF m 99 #[.val (.int p0), .val (.int p1), .val (.int p2), .val (.int p3), .val (.int p4), .val (.int p5), .val (.int (if p4 = (0 : Int32) then (1 : Int32) else p4)), .val (.int (if (p5 &&& (1 : Int32)) = (0 : Int32) then (0 : Int32) else (if p4 = (0 : Int32) then (1 : Int32) else p4))), .val (.int (if (p5 &&& (2 : Int32)) = (0 : Int32) then (0 : Int32) else (if p4 = (0 : Int32) then (1 : Int32) else p4))), .val (.int (if (p5 &&& (4 : Int32)) = (0 : Int32) then (0 : Int32) else (if p4 = (0 : Int32) then (1 : Int32) else p4))), .val (.int (if (p5 &&& (8 : Int32)) = (0 : Int32) then (0 : Int32) else (if p4 = (0 : Int32) then (1 : Int32) else p4))), .val (.ref b1), .unset, .unset, .unset, .unset] [(.int (p1 ^^^ (if (p5 &&& (2 : Int32)) = (0 : Int32) then (0 : Int32) else (if p4 = (0 : Int32) then (1 : Int32) else p4)))), (.int (p0 ^^^ (if (p5 &&& (1 : Int32)) = (0 : Int32) then (0 : Int32) else (if p4 = (0 : Int32) then (1 : Int32) else p4)))), (.ref b5), (.ref b5)])) _
    refine XS.iloadN X5.here hx rfl (hb hby at_99) rfl ?_
    show Steps p.tables e below (T5.setTop (mkF m 100 #[.val (.int p0), .val (.int p1), .val (.int p2), .val (.int p3), .val (.int p4), .val (.int p5), .val (.int (if p4 = (0 : Int32) then (1 : Int32) else p4)), .val (.int (if (p5 &&& (1 : Int32)) = (0 : Int32) then (0 : Int32) else (if p4 = (0 : Int32) then (1 : Int32) else p4))), .val (.int (if (p5 &&& (2 : Int32)) = (0 : Int32) then (0 : Int32) else (if p4 = (0 : Int32) then (1 : Int32) else p4))), .val (.int (if (p5 &&& (4 : Int32)) = (0 : Int32) then (0 : Int32) else (if p4 = (0 : Int32) then (1 : Int32) else p4))), .val (.int (if (p5 &&& (8 : Int32)) = (0 : Int32) then (0 : Int32) else (if p4 = (0 : Int32) then (1 : Int32) else p4))), .val (.ref b1), .unset, .unset, .unset, .unset] [(.int p2), (.int (p1 ^^^ (if (p5 &&& (2 : Int32)) = (0 : Int32) then (0 : Int32) else (if p4 = (0 : Int32) then (1 : Int32) else p4)))), (.int (p0 ^^^ (if (p5 &&& (1 : Int32)) = (0 : Int32) then (0 : Int32) else (if p4 = (0 : Int32) then (1 : Int32) else p4)))), (.ref b5), (.ref b5)])) _
    refine XS.iload X5.here hx rfl (hb hby at_100) rfl ?_
    show Steps p.tables e below (T5.setTop (mkF m 102 #[.val (.int p0), .val (.int p1), .val (.int p2), .val (.int p3), .val (.int p4), .val (.int p5), .val (.int (if p4 = (0 : Int32) then (1 : Int32) else p4)), .val (.int (if (p5 &&& (1 : Int32)) = (0 : Int32) then (0 : Int32) else (if p4 = (0 : Int32) then (1 : Int32) else p4))), .val (.int (if (p5 &&& (2 : Int32)) = (0 : Int32) then (0 : Int32) else (if p4 = (0 : Int32) then (1 : Int32) else p4))), .val (.int (if (p5 &&& (4 : Int32)) = (0 : Int32) then (0 : Int32) else (if p4 = (0 : Int32) then (1 : Int32) else p4))), .val (.int (if (p5 &&& (8 : Int32)) = (0 : Int32) then (0 : Int32) else (if p4 = (0 : Int32) then (1 : Int32) else p4))), .val (.ref b1), .unset, .unset, .unset, .unset] [(.int (if (p5 &&& (4 : Int32)) = (0 : Int32) then (0 : Int32) else (if p4 = (0 : Int32) then (1 : Int32) else p4))), (.int p2), (.int (p1 ^^^ (if (p5 &&& (2 : Int32)) = (0 : Int32) then (0 : Int32) else (if p4 = (0 : Int32) then (1 : Int32) else p4)))), (.int (p0 ^^^ (if (p5 &&& (1 : Int32)) = (0 : Int32) then (0 : Int32) else (if p4 = (0 : Int32) then (1 : Int32) else p4)))), (.ref b5), (.ref b5)])) _
    refine XS.ixor X5.here hx rfl (hb hby at_102) rfl ?_
    show Steps p.tables e below (T5.setTop (mkF m 103 #[.val (.int p0), .val (.int p1), .val (.int p2), .val (.int p3), .val (.int p4), .val (.int p5), .val (.int (if p4 = (0 : Int32) then (1 : Int32) else p4)), .val (.int (if (p5 &&& (1 : Int32)) = (0 : Int32) then (0 : Int32) else (if p4 = (0 : Int32) then (1 : Int32) else p4))), .val (.int (if (p5 &&& (2 : Int32)) = (0 : Int32) then (0 : Int32) else (if p4 = (0 : Int32) then (1 : Int32) else p4))), .val (.int (if (p5 &&& (4 : Int32)) = (0 : Int32) then (0 : Int32) else (if p4 = (0 : Int32) then (1 : Int32) else p4))), .val (.int (if (p5 &&& (8 : Int32)) = (0 : Int32) then (0 : Int32) else (if p4 = (0 : Int32) then (1 : Int32) else p4))), .val (.ref b1), .unset, .unset, .unset, .unset] [(.int (p2 ^^^ (if (p5 &&& (4 : Int32)) = (0 : Int32) then (0 : Int32) else (if p4 = (0 : Int32) then (1 : Int32) else p4)))), (.int (p1 ^^^ (if (p5 &&& (2 : Int32)) = (0 : Int32) then (0 : Int32) else (if p4 = (0 : Int32) then (1 : Int32) else p4)))), (.int (p0 ^^^ (if (p5 &&& (1 : Int32)) = (0 : Int32) then (0 : Int32) else (if p4 = (0 : Int32) then (1 : Int32) else p4)))), (.ref b5), (.ref b5)])) _
    refine XS.iloadN X5.here hx rfl (hb hby at_103) rfl ?_
    show Steps p.tables e below (T5.setTop (mkF m 104 #[.val (.int p0), .val (.int p1), .val (.int p2), .val (.int p3), .val (.int p4), .val (.int p5), .val (.int (if p4 = (0 : Int32) then (1 : Int32) else p4)), .val (.int (if (p5 &&& (1 : Int32)) = (0 : Int32) then (0 : Int32) else (if p4 = (0 : Int32) then (1 : Int32) else p4))), .val (.int (if (p5 &&& (2 : Int32)) = (0 : Int32) then (0 : Int32) else (if p4 = (0 : Int32) then (1 : Int32) else p4))), .val (.int (if (p5 &&& (4 : Int32)) = (0 : Int32) then (0 : Int32) else (if p4 = (0 : Int32) then (1 : Int32) else p4))), .val (.int (if (p5 &&& (8 : Int32)) = (0 : Int32) then (0 : Int32) else (if p4 = (0 : Int32) then (1 : Int32) else p4))), .val (.ref b1), .unset, .unset, .unset, .unset] [(.int p3), (.int (p2 ^^^ (if (p5 &&& (4 : Int32)) = (0 : Int32) then (0 : Int32) else (if p4 = (0 : Int32) then (1 : Int32) else p4)))), (.int (p1 ^^^ (if (p5 &&& (2 : Int32)) = (0 : Int32) then (0 : Int32) else (if p4 = (0 : Int32) then (1 : Int32) else p4)))), (.int (p0 ^^^ (if (p5 &&& (1 : Int32)) = (0 : Int32) then (0 : Int32) else (if p4 = (0 : Int32) then (1 : Int32) else p4)))), (.ref b5), (.ref b5)])) _
    refine XS.iload X5.here hx rfl (hb hby at_104) rfl ?_
    show Steps p.tables e below (T5.setTop (mkF m 106 #[.val (.int p0), .val (.int p1), .val (.int p2), .val (.int p3), .val (.int p4), .val (.int p5), .val (.int (if p4 = (0 : Int32) then (1 : Int32) else p4)), .val (.int (if (p5 &&& (1 : Int32)) = (0 : Int32) then (0 : Int32) else (if p4 = (0 : Int32) then (1 : Int32) else p4))), .val (.int (if (p5 &&& (2 : Int32)) = (0 : Int32) then (0 : Int32) else (if p4 = (0 : Int32) then (1 : Int32) else p4))), .val (.int (if (p5 &&& (4 : Int32)) = (0 : Int32) then (0 : Int32) else (if p4 = (0 : Int32) then (1 : Int32) else p4))), .val (.int (if (p5 &&& (8 : Int32)) = (0 : Int32) then (0 : Int32) else (if p4 = (0 : Int32) then (1 : Int32) else p4))), .val (.ref b1), .unset, .unset, .unset, .unset] [(.int (if (p5 &&& (8 : Int32)) = (0 : Int32) then (0 : Int32) else (if p4 = (0 : Int32) then (1 : Int32) else p4))), (.int p3), (.int (p2 ^^^ (if (p5 &&& (4 : Int32)) = (0 : Int32) then (0 : Int32) else (if p4 = (0 : Int32) then (1 : Int32) else p4)))), (.int (p1 ^^^ (if (p5 &&& (2 : Int32)) = (0 : Int32) then (0 : Int32) else (if p4 = (0 : Int32) then (1 : Int32) else p4)))), (.int (p0 ^^^ (if (p5 &&& (1 : Int32)) = (0 : Int32) then (0 : Int32) else (if p4 = (0 : Int32) then (1 : Int32) else p4)))), (.ref b5), (.ref b5)])) _
    refine XS.ixor X5.here hx rfl (hb hby at_106) rfl ?_
    show Steps p.tables e below (T5.setTop (mkF m 107 #[.val (.int p0), .val (.int p1), .val (.int p2), .val (.int p3), .val (.int p4), .val (.int p5), .val (.int (if p4 = (0 : Int32) then (1 : Int32) else p4)), .val (.int (if (p5 &&& (1 : Int32)) = (0 : Int32) then (0 : Int32) else (if p4 = (0 : Int32) then (1 : Int32) else p4))), .val (.int (if (p5 &&& (2 : Int32)) = (0 : Int32) then (0 : Int32) else (if p4 = (0 : Int32) then (1 : Int32) else p4))), .val (.int (if (p5 &&& (4 : Int32)) = (0 : Int32) then (0 : Int32) else (if p4 = (0 : Int32) then (1 : Int32) else p4))), .val (.int (if (p5 &&& (8 : Int32)) = (0 : Int32) then (0 : Int32) else (if p4 = (0 : Int32) then (1 : Int32) else p4))), .val (.ref b1), .unset, .unset, .unset, .unset] [(.int (p3 ^^^ (if (p5 &&& (8 : Int32)) = (0 : Int32) then (0 : Int32) else (if p4 = (0 : Int32) then (1 : Int32) else p4)))), (.int (p2 ^^^ (if (p5 &&& (4 : Int32)) = (0 : Int32) then (0 : Int32) else (if p4 = (0 : Int32) then (1 : Int32) else p4)))), (.int (p1 ^^^ (if (p5 &&& (2 : Int32)) = (0 : Int32) then (0 : Int32) else (if p4 = (0 : Int32) then (1 : Int32) else p4)))), (.int (p0 ^^^ (if (p5 &&& (1 : Int32)) = (0 : Int32) then (0 : Int32) else (if p4 = (0 : Int32) then (1 : Int32) else p4)))), (.ref b5), (.ref b5)])) _
    exact kZ
  obtain ⟨_, _, ⟨T7, L7, k7, n7⟩, -, X7, ⟨Lc7, hQ7, l7, y7, z7⟩, st7⟩ := X5.specialBack hx (y := (⟨"com/example/ltlconv/ltlconv/ldba/RecurrenceParts$State", "<init>", "(IIII)V"⟩ : MethodName)) rfl hown (mvT hZ (hw _ (List.mem_of_getElem? (i := 3) rfl))) (mvT hZ (hw _ (List.mem_of_getElem? (i := 4) rfl))) (mvT hZ (hw _ (List.mem_of_getElem? (i := 5) rfl))) (by decide) (backOf (W := 1) (rm1 l Z a0 hw [] b5 (p0 ^^^ (if (p5 &&& (1 : Int32)) = (0 : Int32) then (0 : Int32) else (if p4 = (0 : Int32) then (1 : Int32) else p4))) (p1 ^^^ (if (p5 &&& (2 : Int32)) = (0 : Int32) then (0 : Int32) else (if p4 = (0 : Int32) then (1 : Int32) else p4))) (p2 ^^^ (if (p5 &&& (4 : Int32)) = (0 : Int32) then (0 : Int32) else (if p4 = (0 : Int32) then (1 : Int32) else p4))) (p3 ^^^ (if (p5 &&& (8 : Int32)) = (0 : Int32) then (0 : Int32) else (if p4 = (0 : Int32) then (1 : Int32) else p4))) (0 : Int32) (0 : Int32) (0 : Int32) (0 : Int32) h5 n0 Z5 A5 F5_safety F5_recurrences F5_awaited F5_progress g_b5) hZ (hw _ (List.mem_of_getElem? (i := 5) rfl)) (hw _ (List.mem_of_getElem? (i := 2) rfl)) (by decide) (by decide)) (g := (mkF m 107 #[.val (.int p0), .val (.int p1), .val (.int p2), .val (.int p3), .val (.int p4), .val (.int p5), .val (.int (if p4 = (0 : Int32) then (1 : Int32) else p4)), .val (.int (if (p5 &&& (1 : Int32)) = (0 : Int32) then (0 : Int32) else (if p4 = (0 : Int32) then (1 : Int32) else p4))), .val (.int (if (p5 &&& (2 : Int32)) = (0 : Int32) then (0 : Int32) else (if p4 = (0 : Int32) then (1 : Int32) else p4))), .val (.int (if (p5 &&& (4 : Int32)) = (0 : Int32) then (0 : Int32) else (if p4 = (0 : Int32) then (1 : Int32) else p4))), .val (.int (if (p5 &&& (8 : Int32)) = (0 : Int32) then (0 : Int32) else (if p4 = (0 : Int32) then (1 : Int32) else p4))), .val (.ref b1), .unset, .unset, .unset, .unset] [(.int (p3 ^^^ (if (p5 &&& (8 : Int32)) = (0 : Int32) then (0 : Int32) else (if p4 = (0 : Int32) then (1 : Int32) else p4)))), (.int (p2 ^^^ (if (p5 &&& (4 : Int32)) = (0 : Int32) then (0 : Int32) else (if p4 = (0 : Int32) then (1 : Int32) else p4)))), (.int (p1 ^^^ (if (p5 &&& (2 : Int32)) = (0 : Int32) then (0 : Int32) else (if p4 = (0 : Int32) then (1 : Int32) else p4)))), (.int (p0 ^^^ (if (p5 &&& (1 : Int32)) = (0 : Int32) then (0 : Int32) else (if p4 = (0 : Int32) then (1 : Int32) else p4)))), (.ref b5), (.ref b5)])) rfl (by rw [hml]; rfl) (Steps.refl _) (a := b5) (argsL := [(.int (p0 ^^^ (if (p5 &&& (1 : Int32)) = (0 : Int32) then (0 : Int32) else (if p4 = (0 : Int32) then (1 : Int32) else p4)))), (.int (p1 ^^^ (if (p5 &&& (2 : Int32)) = (0 : Int32) then (0 : Int32) else (if p4 = (0 : Int32) then (1 : Int32) else p4)))), (.int (p2 ^^^ (if (p5 &&& (4 : Int32)) = (0 : Int32) then (0 : Int32) else (if p4 = (0 : Int32) then (1 : Int32) else p4)))), (.int (p3 ^^^ (if (p5 &&& (8 : Int32)) = (0 : Int32) then (0 : Int32) else (if p4 = (0 : Int32) then (1 : Int32) else p4))))]) (rest := [(.ref b5)]) (lenOf pd_0 rfl) rfl (by show 2 * 0 + _ ≤ _; exact Nat.le_of_eq rfl) (hb hby at_107) (fun _ _ => ⟨rfl, e5, (by decide : 0 + 1 + 0 + 1 + 0 ≤ _), (by decide : 0 + 4 + 0 + 4 + 0 ≤ _)⟩)
  dsimp only [Pt.U, Pt.locs, Pt.cells, Pt.slots] at X7 l7 y7 z7 st7 hQ7
  subst l7 y7 z7
  obtain ⟨rfl, N7q, Kq7, f7_0, f7_1, f7_2, f7_3, f7_4⟩ := hQ7
  have c8_2 := c6_2.keep Kq7 (allS g_b5 all0)
  have c8_0 := ha0.ext c8_2.2
  have c8_1 := ha1.ext c8_2.2
  have c8_4 := c6_4.keep Kq7
  have c8_5 := c6_5.keep Kq7 (ninS ne_b1_b5 nin0)
  have c8_6 := c6_6.keep Kq7 (ninS ne_b1_b5 nin0)
  have c8_7 := c6_7.keep Kq7 (ninS ne_b1_b5 nin0)
  have c8_8 := c6_8.keep Kq7 (ninS ne_b1_b5 nin0)
  have K7 : Keep h0 T7.heap [] := K5.trans Kq7 (allS (Or.inr sz_b5) all0)
  have Z7 : n0 ≤ T7.heap.size := Nat.le_trans Z5 Kq7.1
  have N7 := Fr.app N3 N7q
  refine Go.via (fun t k => st7.trans k) ?_
  show Go p e below _ (T7.setTop (mkF m 110 #[.val (.int p0), .val (.int p1), .val (.int p2), .val (.int p3), .val (.int p4), .val (.int p5), .val (.int (if p4 = (0 : Int32) then (1 : Int32) else p4)), .val (.int (if (p5 &&& (1 : Int32)) = (0 : Int32) then (0 : Int32) else (if p4 = (0 : Int32) then (1 : Int32) else p4))), .val (.int (if (p5 &&& (2 : Int32)) = (0 : Int32) then (0 : Int32) else (if p4 = (0 : Int32) then (1 : Int32) else p4))), .val (.int (if (p5 &&& (4 : Int32)) = (0 : Int32) then (0 : Int32) else (if p4 = (0 : Int32) then (1 : Int32) else p4))), .val (.int (if (p5 &&& (8 : Int32)) = (0 : Int32) then (0 : Int32) else (if p4 = (0 : Int32) then (1 : Int32) else p4))), .val (.ref b1), .unset, .unset, .unset, .unset] [(.ref b5)]))
  refine Go.via (T' := T7.setTop (mkF m 131 #[.val (.int p0), .val (.int p1), .val (.int p2), .val (.int p3), .val (.int p4), .val (.int p5), .val (.int (if p4 = (0 : Int32) then (1 : Int32) else p4)), .val (.int (if (p5 &&& (1 : Int32)) = (0 : Int32) then (0 : Int32) else (if p4 = (0 : Int32) then (1 : Int32) else p4))), .val (.int (if (p5 &&& (2 : Int32)) = (0 : Int32) then (0 : Int32) else (if p4 = (0 : Int32) then (1 : Int32) else p4))), .val (.int (if (p5 &&& (4 : Int32)) = (0 : Int32) then (0 : Int32) else (if p4 = (0 : Int32) then (1 : Int32) else p4))), .val (.int (if (p5 &&& (8 : Int32)) = (0 : Int32) then (0 : Int32) else (if p4 = (0 : Int32) then (1 : Int32) else p4))), .val (.ref b1), .val (.ref b5), .val (.int (if (p5 &&& (15 : Int32)) = (0 : Int32) then (1 : Int32) else (0 : Int32))), .val .null, .unset] [(.int p0)])) (fun tZ kZ => ?_) ?_
  · show Steps p.tables e below (T7.setTop (mkF m 110 #[.val (.int p0), .val (.int p1), .val (.int p2), .val (.int p3), .val (.int p4), .val (.int p5), .val (.int (if p4 = (0 : Int32) then (1 : Int32) else p4)), .val (.int (if (p5 &&& (1 : Int32)) = (0 : Int32) then (0 : Int32) else (if p4 = (0 : Int32) then (1 : Int32) else p4))), .val (.int (if (p5 &&& (2 : Int32)) = (0 : Int32) then (0 : Int32) else (if p4 = (0 : Int32) then (1 : Int32) else p4))), .val (.int (if (p5 &&& (4 : Int32)) = (0 : Int32) then (0 : Int32) else (if p4 = (0 : Int32) then (1 : Int32) else p4))), .val (.int (if (p5 &&& (8 : Int32)) = (0 : Int32) then (0 : Int32) else (if p4 = (0 : Int32) then (1 : Int32) else p4))), .val (.ref b1), .unset, .unset, .unset, .unset] [(.ref b5)])) _
    refine XS.astore X7.here hx rfl (hb hby at_110) rfl rfl (l' := #[.val (.int p0), .val (.int p1), .val (.int p2), .val (.int p3), .val (.int p4), .val (.int p5), .val (.int (if p4 = (0 : Int32) then (1 : Int32) else p4)), .val (.int (if (p5 &&& (1 : Int32)) = (0 : Int32) then (0 : Int32) else (if p4 = (0 : Int32) then (1 : Int32) else p4))), .val (.int (if (p5 &&& (2 : Int32)) = (0 : Int32) then (0 : Int32) else (if p4 = (0 : Int32) then (1 : Int32) else p4))), .val (.int (if (p5 &&& (4 : Int32)) = (0 : Int32) then (0 : Int32) else (if p4 = (0 : Int32) then (1 : Int32) else p4))), .val (.int (if (p5 &&& (8 : Int32)) = (0 : Int32) then (0 : Int32) else (if p4 = (0 : Int32) then (1 : Int32) else p4))), .val (.ref b1), .val (.ref b5), .unset, .unset, .unset]) rfl ?_
    show Steps p.tables e below (T7.setTop (mkF m 112 #[.val (.int p0), .val (.int p1), .val (.int p2), .val (.int p3), .val (.int p4), .val (.int p5), .val (.int (if p4 = (0 : Int32) then (1 : Int32) else p4)), .val (.int (if (p5 &&& (1 : Int32)) = (0 : Int32) then (0 : Int32) else (if p4 = (0 : Int32) then (1 : Int32) else p4))), .val (.int (if (p5 &&& (2 : Int32)) = (0 : Int32) then (0 : Int32) else (if p4 = (0 : Int32) then (1 : Int32) else p4))), .val (.int (if (p5 &&& (4 : Int32)) = (0 : Int32) then (0 : Int32) else (if p4 = (0 : Int32) then (1 : Int32) else p4))), .val (.int (if (p5 &&& (8 : Int32)) = (0 : Int32) then (0 : Int32) else (if p4 = (0 : Int32) then (1 : Int32) else p4))), .val (.ref b1), .val (.ref b5), .unset, .unset, .unset] [])) _
    refine XS.iload X7.here hx rfl (hb hby at_112) rfl ?_
    show Steps p.tables e below (T7.setTop (mkF m 114 #[.val (.int p0), .val (.int p1), .val (.int p2), .val (.int p3), .val (.int p4), .val (.int p5), .val (.int (if p4 = (0 : Int32) then (1 : Int32) else p4)), .val (.int (if (p5 &&& (1 : Int32)) = (0 : Int32) then (0 : Int32) else (if p4 = (0 : Int32) then (1 : Int32) else p4))), .val (.int (if (p5 &&& (2 : Int32)) = (0 : Int32) then (0 : Int32) else (if p4 = (0 : Int32) then (1 : Int32) else p4))), .val (.int (if (p5 &&& (4 : Int32)) = (0 : Int32) then (0 : Int32) else (if p4 = (0 : Int32) then (1 : Int32) else p4))), .val (.int (if (p5 &&& (8 : Int32)) = (0 : Int32) then (0 : Int32) else (if p4 = (0 : Int32) then (1 : Int32) else p4))), .val (.ref b1), .val (.ref b5), .unset, .unset, .unset] [(.int p5)])) _
    refine XS.bipush X7.here hx rfl (hb hby at_114) ?_
    show Steps p.tables e below (T7.setTop (mkF m 116 #[.val (.int p0), .val (.int p1), .val (.int p2), .val (.int p3), .val (.int p4), .val (.int p5), .val (.int (if p4 = (0 : Int32) then (1 : Int32) else p4)), .val (.int (if (p5 &&& (1 : Int32)) = (0 : Int32) then (0 : Int32) else (if p4 = (0 : Int32) then (1 : Int32) else p4))), .val (.int (if (p5 &&& (2 : Int32)) = (0 : Int32) then (0 : Int32) else (if p4 = (0 : Int32) then (1 : Int32) else p4))), .val (.int (if (p5 &&& (4 : Int32)) = (0 : Int32) then (0 : Int32) else (if p4 = (0 : Int32) then (1 : Int32) else p4))), .val (.int (if (p5 &&& (8 : Int32)) = (0 : Int32) then (0 : Int32) else (if p4 = (0 : Int32) then (1 : Int32) else p4))), .val (.ref b1), .val (.ref b5), .unset, .unset, .unset] [(.int (15 : Int32)), (.int p5)])) _
    refine XS.iand X7.here hx rfl (hb hby at_116) rfl ?_
    show Steps p.tables e below (T7.setTop (mkF m 117 #[.val (.int p0), .val (.int p1), .val (.int p2), .val (.int p3), .val (.int p4), .val (.int p5), .val (.int (if p4 = (0 : Int32) then (1 : Int32) else p4)), .val (.int (if (p5 &&& (1 : Int32)) = (0 : Int32) then (0 : Int32) else (if p4 = (0 : Int32) then (1 : Int32) else p4))), .val (.int (if (p5 &&& (2 : Int32)) = (0 : Int32) then (0 : Int32) else (if p4 = (0 : Int32) then (1 : Int32) else p4))), .val (.int (if (p5 &&& (4 : Int32)) = (0 : Int32) then (0 : Int32) else (if p4 = (0 : Int32) then (1 : Int32) else p4))), .val (.int (if (p5 &&& (8 : Int32)) = (0 : Int32) then (0 : Int32) else (if p4 = (0 : Int32) then (1 : Int32) else p4))), .val (.ref b1), .val (.ref b5), .unset, .unset, .unset] [(.int (p5 &&& (15 : Int32)))])) _
    have sg117 : Steps p.tables e below (T7.setTop (mkF m 125 #[.val (.int p0), .val (.int p1), .val (.int p2), .val (.int p3), .val (.int p4), .val (.int p5), .val (.int (if p4 = (0 : Int32) then (1 : Int32) else p4)), .val (.int (if (p5 &&& (1 : Int32)) = (0 : Int32) then (0 : Int32) else (if p4 = (0 : Int32) then (1 : Int32) else p4))), .val (.int (if (p5 &&& (2 : Int32)) = (0 : Int32) then (0 : Int32) else (if p4 = (0 : Int32) then (1 : Int32) else p4))), .val (.int (if (p5 &&& (4 : Int32)) = (0 : Int32) then (0 : Int32) else (if p4 = (0 : Int32) then (1 : Int32) else p4))), .val (.int (if (p5 &&& (8 : Int32)) = (0 : Int32) then (0 : Int32) else (if p4 = (0 : Int32) then (1 : Int32) else p4))), .val (.ref b1), .val (.ref b5), .unset, .unset, .unset] [(.int (if (p5 &&& (15 : Int32)) = (0 : Int32) then (1 : Int32) else (0 : Int32)))])) tZ → Steps p.tables e below (T7.setTop (mkF m 117 #[.val (.int p0), .val (.int p1), .val (.int p2), .val (.int p3), .val (.int p4), .val (.int p5), .val (.int (if p4 = (0 : Int32) then (1 : Int32) else p4)), .val (.int (if (p5 &&& (1 : Int32)) = (0 : Int32) then (0 : Int32) else (if p4 = (0 : Int32) then (1 : Int32) else p4))), .val (.int (if (p5 &&& (2 : Int32)) = (0 : Int32) then (0 : Int32) else (if p4 = (0 : Int32) then (1 : Int32) else p4))), .val (.int (if (p5 &&& (4 : Int32)) = (0 : Int32) then (0 : Int32) else (if p4 = (0 : Int32) then (1 : Int32) else p4))), .val (.int (if (p5 &&& (8 : Int32)) = (0 : Int32) then (0 : Int32) else (if p4 = (0 : Int32) then (1 : Int32) else p4))), .val (.ref b1), .val (.ref b5), .unset, .unset, .unset] [(.int (p5 &&& (15 : Int32)))])) tZ := by
      intro kj
      by_cases hc117 : (p5 &&& (15 : Int32)) = (0 : Int32)
      · try simp only [if_pos hc117] at kj
        refine XS.ifNo X7.here hx rfl (hb hby at_117) rfl ((if0 _ _).trans (teq hc117).2) ?_
        show Steps p.tables e below (T7.setTop (mkF m 120 #[.val (.int p0), .val (.int p1), .val (.int p2), .val (.int p3), .val (.int p4), .val (.int p5), .val (.int (if p4 = (0 : Int32) then (1 : Int32) else p4)), .val (.int (if (p5 &&& (1 : Int32)) = (0 : Int32) then (0 : Int32) else (if p4 = (0 : Int32) then (1 : Int32) else p4))), .val (.int (if (p5 &&& (2 : Int32)) = (0 : Int32) then (0 : Int32) else (if p4 = (0 : Int32) then (1 : Int32) else p4))), .val (.int (if (p5 &&& (4 : Int32)) = (0 : Int32) then (0 : Int32) else (if p4 = (0 : Int32) then (1 : Int32) else p4))), .val (.int (if (p5 &&& (8 : Int32)) = (0 : Int32) then (0 : Int32) else (if p4 = (0 : Int32) then (1 : Int32) else p4))), .val (.ref b1), .val (.ref b5), .unset, .unset, .unset] [])) _
        refine XS.iconst X7.here hx rfl (hb hby at_120) ?_
        show Steps p.tables e below (T7.setTop (mkF m 121 #[.val (.int p0), .val (.int p1), .val (.int p2), .val (.int p3), .val (.int p4), .val (.int p5), .val (.int (if p4 = (0 : Int32) then (1 : Int32) else p4)), .val (.int (if (p5 &&& (1 : Int32)) = (0 : Int32) then (0 : Int32) else (if p4 = (0 : Int32) then (1 : Int32) else p4))), .val (.int (if (p5 &&& (2 : Int32)) = (0 : Int32) then (0 : Int32) else (if p4 = (0 : Int32) then (1 : Int32) else p4))), .val (.int (if (p5 &&& (4 : Int32)) = (0 : Int32) then (0 : Int32) else (if p4 = (0 : Int32) then (1 : Int32) else p4))), .val (.int (if (p5 &&& (8 : Int32)) = (0 : Int32) then (0 : Int32) else (if p4 = (0 : Int32) then (1 : Int32) else p4))), .val (.ref b1), .val (.ref b5), .unset, .unset, .unset] [(.int (1 : Int32))])) _
        refine XS.goto X7.here hx rfl (pc0 := 121) (pc' := 125) rfl (hb hby at_121) (by decide) (by decide) ?_
        show Steps p.tables e below (T7.setTop (mkF m 125 #[.val (.int p0), .val (.int p1), .val (.int p2), .val (.int p3), .val (.int p4), .val (.int p5), .val (.int (if p4 = (0 : Int32) then (1 : Int32) else p4)), .val (.int (if (p5 &&& (1 : Int32)) = (0 : Int32) then (0 : Int32) else (if p4 = (0 : Int32) then (1 : Int32) else p4))), .val (.int (if (p5 &&& (2 : Int32)) = (0 : Int32) then (0 : Int32) else (if p4 = (0 : Int32) then (1 : Int32) else p4))), .val (.int (if (p5 &&& (4 : Int32)) = (0 : Int32) then (0 : Int32) else (if p4 = (0 : Int32) then (1 : Int32) else p4))), .val (.int (if (p5 &&& (8 : Int32)) = (0 : Int32) then (0 : Int32) else (if p4 = (0 : Int32) then (1 : Int32) else p4))), .val (.ref b1), .val (.ref b5), .unset, .unset, .unset] [(.int (1 : Int32))])) _
        exact kj
      · try simp only [if_neg hc117] at kj
        refine XS.ifYes X7.here hx rfl (pc0 := 117) (pc' := 124) rfl (hb hby at_117) rfl ((if0 _ _).trans (feq hc117).2) (by decide) (by decide) ?_
        show Steps p.tables e below (T7.setTop (mkF m 124 #[.val (.int p0), .val (.int p1), .val (.int p2), .val (.int p3), .val (.int p4), .val (.int p5), .val (.int (if p4 = (0 : Int32) then (1 : Int32) else p4)), .val (.int (if (p5 &&& (1 : Int32)) = (0 : Int32) then (0 : Int32) else (if p4 = (0 : Int32) then (1 : Int32) else p4))), .val (.int (if (p5 &&& (2 : Int32)) = (0 : Int32) then (0 : Int32) else (if p4 = (0 : Int32) then (1 : Int32) else p4))), .val (.int (if (p5 &&& (4 : Int32)) = (0 : Int32) then (0 : Int32) else (if p4 = (0 : Int32) then (1 : Int32) else p4))), .val (.int (if (p5 &&& (8 : Int32)) = (0 : Int32) then (0 : Int32) else (if p4 = (0 : Int32) then (1 : Int32) else p4))), .val (.ref b1), .val (.ref b5), .unset, .unset, .unset] [])) _
        refine XS.iconst X7.here hx rfl (hb hby at_124) ?_
        show Steps p.tables e below (T7.setTop (mkF m 125 #[.val (.int p0), .val (.int p1), .val (.int p2), .val (.int p3), .val (.int p4), .val (.int p5), .val (.int (if p4 = (0 : Int32) then (1 : Int32) else p4)), .val (.int (if (p5 &&& (1 : Int32)) = (0 : Int32) then (0 : Int32) else (if p4 = (0 : Int32) then (1 : Int32) else p4))), .val (.int (if (p5 &&& (2 : Int32)) = (0 : Int32) then (0 : Int32) else (if p4 = (0 : Int32) then (1 : Int32) else p4))), .val (.int (if (p5 &&& (4 : Int32)) = (0 : Int32) then (0 : Int32) else (if p4 = (0 : Int32) then (1 : Int32) else p4))), .val (.int (if (p5 &&& (8 : Int32)) = (0 : Int32) then (0 : Int32) else (if p4 = (0 : Int32) then (1 : Int32) else p4))), .val (.ref b1), .val (.ref b5), .unset, .unset, .unset] [(.int (0 : Int32))])) _
        exact kj
    refine sg117 ?_
    show Steps p.tables e below (T7.setTop (mkF m 125 #[.val (.int p0), .val (.int p1), .val (.int p2), .val (.int p3), .val (.int p4), .val (.int p5), .val (.int (if p4 = (0 : Int32) then (1 : Int32) else p4)), .val (.int (if (p5 &&& (1 : Int32)) = (0 : Int32) then (0 : Int32) else (if p4 = (0 : Int32) then (1 : Int32) else p4))), .val (.int (if (p5 &&& (2 : Int32)) = (0 : Int32) then (0 : Int32) else (if p4 = (0 : Int32) then (1 : Int32) else p4))), .val (.int (if (p5 &&& (4 : Int32)) = (0 : Int32) then (0 : Int32) else (if p4 = (0 : Int32) then (1 : Int32) else p4))), .val (.int (if (p5 &&& (8 : Int32)) = (0 : Int32) then (0 : Int32) else (if p4 = (0 : Int32) then (1 : Int32) else p4))), .val (.ref b1), .val (.ref b5), .unset, .unset, .unset] [(.int (if (p5 &&& (15 : Int32)) = (0 : Int32) then (1 : Int32) else (0 : Int32)))])) _
    refine XS.istore X7.here hx rfl (hb hby at_125) rfl (l' := #[.val (.int p0), .val (.int p1), .val (.int p2), .val (.int p3), .val (.int p4), .val (.int p5), .val (.int (if p4 = (0 : Int32) then (1 : Int32) else p4)), .val (.int (if (p5 &&& (1 : Int32)) = (0 : Int32) then (0 : Int32) else (if p4 = (0 : Int32) then (1 : Int32) else p4))), .val (.int (if (p5 &&& (2 : Int32)) = (0 : Int32) then (0 : Int32) else (if p4 = (0 : Int32) then (1 : Int32) else p4))), .val (.int (if (p5 &&& (4 : Int32)) = (0 : Int32) then (0 : Int32) else (if p4 = (0 : Int32) then (1 : Int32) else p4))), .val (.int (if (p5 &&& (8 : Int32)) = (0 : Int32) then (0 : Int32) else (if p4 = (0 : Int32) then (1 : Int32) else p4))), .val (.ref b1), .val (.ref b5), .val (.int (if (p5 &&& (15 : Int32)) = (0 : Int32) then (1 : Int32) else (0 : Int32))), .unset, .unset]) rfl ?_
    show Steps p.tables e below (T7.setTop (mkF m 127 #[.val (.int p0), .val (.int p1), .val (.int p2), .val (.int p3), .val (.int p4), .val (.int p5), .val (.int (if p4 = (0 : Int32) then (1 : Int32) else p4)), .val (.int (if (p5 &&& (1 : Int32)) = (0 : Int32) then (0 : Int32) else (if p4 = (0 : Int32) then (1 : Int32) else p4))), .val (.int (if (p5 &&& (2 : Int32)) = (0 : Int32) then (0 : Int32) else (if p4 = (0 : Int32) then (1 : Int32) else p4))), .val (.int (if (p5 &&& (4 : Int32)) = (0 : Int32) then (0 : Int32) else (if p4 = (0 : Int32) then (1 : Int32) else p4))), .val (.int (if (p5 &&& (8 : Int32)) = (0 : Int32) then (0 : Int32) else (if p4 = (0 : Int32) then (1 : Int32) else p4))), .val (.ref b1), .val (.ref b5), .val (.int (if (p5 &&& (15 : Int32)) = (0 : Int32) then (1 : Int32) else (0 : Int32))), .unset, .unset] [])) _
    refine XS.aconstNull X7.here hx rfl (hb hby at_127) ?_
    show Steps p.tables e below (T7.setTop (mkF m 128 #[.val (.int p0), .val (.int p1), .val (.int p2), .val (.int p3), .val (.int p4), .val (.int p5), .val (.int (if p4 = (0 : Int32) then (1 : Int32) else p4)), .val (.int (if (p5 &&& (1 : Int32)) = (0 : Int32) then (0 : Int32) else (if p4 = (0 : Int32) then (1 : Int32) else p4))), .val (.int (if (p5 &&& (2 : Int32)) = (0 : Int32) then (0 : Int32) else (if p4 = (0 : Int32) then (1 : Int32) else p4))), .val (.int (if (p5 &&& (4 : Int32)) = (0 : Int32) then (0 : Int32) else (if p4 = (0 : Int32) then (1 : Int32) else p4))), .val (.int (if (p5 &&& (8 : Int32)) = (0 : Int32) then (0 : Int32) else (if p4 = (0 : Int32) then (1 : Int32) else p4))), .val (.ref b1), .val (.ref b5), .val (.int (if (p5 &&& (15 : Int32)) = (0 : Int32) then (1 : Int32) else (0 : Int32))), .unset, .unset] [.null])) _
    refine XS.astore X7.here hx rfl (hb hby at_128) rfl rfl (l' := #[.val (.int p0), .val (.int p1), .val (.int p2), .val (.int p3), .val (.int p4), .val (.int p5), .val (.int (if p4 = (0 : Int32) then (1 : Int32) else p4)), .val (.int (if (p5 &&& (1 : Int32)) = (0 : Int32) then (0 : Int32) else (if p4 = (0 : Int32) then (1 : Int32) else p4))), .val (.int (if (p5 &&& (2 : Int32)) = (0 : Int32) then (0 : Int32) else (if p4 = (0 : Int32) then (1 : Int32) else p4))), .val (.int (if (p5 &&& (4 : Int32)) = (0 : Int32) then (0 : Int32) else (if p4 = (0 : Int32) then (1 : Int32) else p4))), .val (.int (if (p5 &&& (8 : Int32)) = (0 : Int32) then (0 : Int32) else (if p4 = (0 : Int32) then (1 : Int32) else p4))), .val (.ref b1), .val (.ref b5), .val (.int (if (p5 &&& (15 : Int32)) = (0 : Int32) then (1 : Int32) else (0 : Int32))), .val .null, .unset]) rfl ?_
    show Steps p.tables e below (T7.setTop (mkF m 130 #[.val (.int p0), .val (.int p1), .val (.int p2), .val (.int p3), .val (.int p4), .val (.int p5), .val (.int (if p4 = (0 : Int32) then (1 : Int32) else p4)), .val (.int (if (p5 &&& (1 : Int32)) = (0 : Int32) then (0 : Int32) else (if p4 = (0 : Int32) then (1 : Int32) else p4))), .val (.int (if (p5 &&& (2 : Int32)) = (0 : Int32) then (0 : Int32) else (if p4 = (0 : Int32) then (1 : Int32) else p4))), .val (.int (if (p5 &&& (4 : Int32)) = (0 : Int32) then (0 : Int32) else (if p4 = (0 : Int32) then (1 : Int32) else p4))), .val (.int (if (p5 &&& (8 : Int32)) = (0 : Int32) then (0 : Int32) else (if p4 = (0 : Int32) then (1 : Int32) else p4))), .val (.ref b1), .val (.ref b5), .val (.int (if (p5 &&& (15 : Int32)) = (0 : Int32) then (1 : Int32) else (0 : Int32))), .val .null, .unset] [])) _
    refine XS.iloadN X7.here hx rfl (hb hby at_130) rfl ?_
    show Steps p.tables e below (T7.setTop (mkF m 131 #[.val (.int p0), .val (.int p1), .val (.int p2), .val (.int p3), .val (.int p4), .val (.int p5), .val (.int (if p4 = (0 : Int32) then (1 : Int32) else p4)), .val (.int (if (p5 &&& (1 : Int32)) = (0 : Int32) then (0 : Int32) else (if p4 = (0 : Int32) then (1 : Int32) else p4))), .val (.int (if (p5 &&& (2 : Int32)) = (0 : Int32) then (0 : Int32) else (if p4 = (0 : Int32) then (1 : Int32) else p4))), .val (.int (if (p5 &&& (4 : Int32)) = (0 : Int32) then (0 : Int32) else (if p4 = (0 : Int32) then (1 : Int32) else p4))), .val (.int (if (p5 &&& (8 : Int32)) = (0 : Int32) then (0 : Int32) else (if p4 = (0 : Int32) then (1 : Int32) else p4))), .val (.ref b1), .val (.ref b5), .val (.int (if (p5 &&& (15 : Int32)) = (0 : Int32) then (1 : Int32) else (0 : Int32))), .val .null, .unset] [(.int p0)])) _
    exact kZ
  obtain ⟨_, _, ⟨T9, L9, k9, n9⟩, -, X9, ⟨Lc9, hQ9, l9, y9, z9⟩, st9⟩ := Jvm.LawKit.callS X7 hx (y := (⟨"java/lang/Integer", "valueOf", "(I)Ljava/lang/Integer;"⟩ : MethodName)) hown (mvT hZ (hw _ (List.mem_of_getElem? (i := 17) rfl))) (mvT hZ (hw _ (List.mem_of_getElem? (i := 18) rfl))) (mvT hZ (hw _ (List.mem_of_getElem? (i := 19) rfl))) (mvT hZ (hw _ (List.mem_of_getElem? (i := 20) rfl))) (by decide) (backOf (W := 0) (rm3 l Z a0 hw [] p0 aK cK val T7.heap n0 Z7 c8_0 c8_1 c8_2 hBx) hZ (hw _ (List.mem_of_getElem? (i := 20) rfl)) (hw _ (List.mem_of_getElem? (i := 19) rfl)) (by decide) (by decide)) (g := (mkF m 131 #[.val (.int p0), .val (.int p1), .val (.int p2), .val (.int p3), .val (.int p4), .val (.int p5), .val (.int (if p4 = (0 : Int32) then (1 : Int32) else p4)), .val (.int (if (p5 &&& (1 : Int32)) = (0 : Int32) then (0 : Int32) else (if p4 = (0 : Int32) then (1 : Int32) else p4))), .val (.int (if (p5 &&& (2 : Int32)) = (0 : Int32) then (0 : Int32) else (if p4 = (0 : Int32) then (1 : Int32) else p4))), .val (.int (if (p5 &&& (4 : Int32)) = (0 : Int32) then (0 : Int32) else (if p4 = (0 : Int32) then (1 : Int32) else p4))), .val (.int (if (p5 &&& (8 : Int32)) = (0 : Int32) then (0 : Int32) else (if p4 = (0 : Int32) then (1 : Int32) else p4))), .val (.ref b1), .val (.ref b5), .val (.int (if (p5 &&& (15 : Int32)) = (0 : Int32) then (1 : Int32) else (0 : Int32))), .val .null, .unset] [(.int p0)])) rfl (by rw [hml]; rfl) (argsL := [(.int p0)]) (rest := []) (lenOf pd_2 rfl) rfl (by show 2 * 0 + _ ≤ _; exact Nat.le_of_eq rfl) (hb hby at_131) (fun _ _ => ⟨rfl, rfl, (by decide : 0 + 1 + 0 + 1 + 0 + 1 ≤ _), (by decide : 0 + 4 + 0 + 4 + 0 + 1 ≤ _)⟩)
  dsimp only [Pt.U, Pt.locs, Pt.cells, Pt.slots] at X9 l9 y9 z9 st9 hQ9
  subst l9 y9 z9
  obtain ⟨bi9, rfl, N9q, Kq9, Ei9⟩ := hQ9
  have c10_2 := c8_2.keep Kq9 all0
  have c10_0 := ha0.ext c10_2.2
  have c10_1 := ha1.ext c10_2.2
  have c10_4 := c8_4.keep Kq9
  have c10_5 := c8_5.keep Kq9 nin0
  have c10_6 := c8_6.keep Kq9 nin0
  have c10_7 := c8_7.keep Kq9 nin0
  have c10_8 := c8_8.keep Kq9 nin0
  have c10_10 := f7_0.keep Kq9
  have c10_11 := f7_1.keep Kq9 nin0
  have c10_12 := f7_2.keep Kq9 nin0
  have c10_13 := f7_3.keep Kq9 nin0
  have c10_14 := f7_4.keep Kq9 nin0
  have K9 : Keep h0 T9.heap [] := K7.trans Kq9 all0
  have Z9 : n0 ≤ T9.heap.size := Nat.le_trans Z7 Kq9.1
  have N9 := Fr.app N7 N9q
  refine Go.via st9 ?_
  show Go p e below _ (T9.setTop (mkF m 134 #[.val (.int p0), .val (.int p1), .val (.int p2), .val (.int p3), .val (.int p4), .val (.int p5), .val (.int (if p4 = (0 : Int32) then (1 : Int32) else p4)), .val (.int (if (p5 &&& (1 : Int32)) = (0 : Int32) then (0 : Int32) else (if p4 = (0 : Int32) then (1 : Int32) else p4))), .val (.int (if (p5 &&& (2 : Int32)) = (0 : Int32) then (0 : Int32) else (if p4 = (0 : Int32) then (1 : Int32) else p4))), .val (.int (if (p5 &&& (4 : Int32)) = (0 : Int32) then (0 : Int32) else (if p4 = (0 : Int32) then (1 : Int32) else p4))), .val (.int (if (p5 &&& (8 : Int32)) = (0 : Int32) then (0 : Int32) else (if p4 = (0 : Int32) then (1 : Int32) else p4))), .val (.ref b1), .val (.ref b5), .val (.int (if (p5 &&& (15 : Int32)) = (0 : Int32) then (1 : Int32) else (0 : Int32))), .val .null, .unset] [(.ref bi9)]))
  refine Go.via (T' := T9.setTop (mkF m 140 #[.val (.int p0), .val (.int p1), .val (.int p2), .val (.int p3), .val (.int p4), .val (.int p5), .val (.int (if p4 = (0 : Int32) then (1 : Int32) else p4)), .val (.int (if (p5 &&& (1 : Int32)) = (0 : Int32) then (0 : Int32) else (if p4 = (0 : Int32) then (1 : Int32) else p4))), .val (.int (if (p5 &&& (2 : Int32)) = (0 : Int32) then (0 : Int32) else (if p4 = (0 : Int32) then (1 : Int32) else p4))), .val (.int (if (p5 &&& (4 : Int32)) = (0 : Int32) then (0 : Int32) else (if p4 = (0 : Int32) then (1 : Int32) else p4))), .val (.int (if (p5 &&& (8 : Int32)) = (0 : Int32) then (0 : Int32) else (if p4 = (0 : Int32) then (1 : Int32) else p4))), .val (.ref b1), .val (.ref b5), .val (.int (if (p5 &&& (15 : Int32)) = (0 : Int32) then (1 : Int32) else (0 : Int32))), .val .null, .val (.ref bi9)] [(.ref b5), (.ref b1)])) (fun tZ kZ => ?_) ?_
  · show Steps p.tables e below (T9.setTop (mkF m 134 #[.val (.int p0), .val (.int p1), .val (.int p2), .val (.int p3), .val (.int p4), .val (.int p5), .val (.int (if p4 = (0 : Int32) then (1 : Int32) else p4)), .val (.int (if (p5 &&& (1 : Int32)) = (0 : Int32) then (0 : Int32) else (if p4 = (0 : Int32) then (1 : Int32) else p4))), .val (.int (if (p5 &&& (2 : Int32)) = (0 : Int32) then (0 : Int32) else (if p4 = (0 : Int32) then (1 : Int32) else p4))), .val (.int (if (p5 &&& (4 : Int32)) = (0 : Int32) then (0 : Int32) else (if p4 = (0 : Int32) then (1 : Int32) else p4))), .val (.int (if (p5 &&& (8 : Int32)) = (0 : Int32) then (0 : Int32) else (if p4 = (0 : Int32) then (1 : Int32) else p4))), .val (.ref b1), .val (.ref b5), .val (.int (if (p5 &&& (15 : Int32)) = (0 : Int32) then (1 : Int32) else (0 : Int32))), .val .null, .unset] [(.ref bi9)])) _
    refine XS.astore X9.here hx rfl (hb hby at_134) rfl rfl (l' := #[.val (.int p0), .val (.int p1), .val (.int p2), .val (.int p3), .val (.int p4), .val (.int p5), .val (.int (if p4 = (0 : Int32) then (1 : Int32) else p4)), .val (.int (if (p5 &&& (1 : Int32)) = (0 : Int32) then (0 : Int32) else (if p4 = (0 : Int32) then (1 : Int32) else p4))), .val (.int (if (p5 &&& (2 : Int32)) = (0 : Int32) then (0 : Int32) else (if p4 = (0 : Int32) then (1 : Int32) else p4))), .val (.int (if (p5 &&& (4 : Int32)) = (0 : Int32) then (0 : Int32) else (if p4 = (0 : Int32) then (1 : Int32) else p4))), .val (.int (if (p5 &&& (8 : Int32)) = (0 : Int32) then (0 : Int32) else (if p4 = (0 : Int32) then (1 : Int32) else p4))), .val (.ref b1), .val (.ref b5), .val (.int (if (p5 &&& (15 : Int32)) = (0 : Int32) then (1 : Int32) else (0 : Int32))), .val .null, .val (.ref bi9)]) rfl ?_
    show Steps p.tables e below (T9.setTop (mkF m 136 #[.val (.int p0), .val (.int p1), .val (.int p2), .val (.int p3), .val (.int p4), .val (.int p5), .val (.int (if p4 = (0 : Int32) then (1 : Int32) else p4)), .val (.int (if (p5 &&& (1 : Int32)) = (0 : Int32) then (0 : Int32) else (if p4 = (0 : Int32) then (1 : Int32) else p4))), .val (.int (if (p5 &&& (2 : Int32)) = (0 : Int32) then (0 : Int32) else (if p4 = (0 : Int32) then (1 : Int32) else p4))), .val (.int (if (p5 &&& (4 : Int32)) = (0 : Int32) then (0 : Int32) else (if p4 = (0 : Int32) then (1 : Int32) else p4))), .val (.int (if (p5 &&& (8 : Int32)) = (0 : Int32) then (0 : Int32) else (if p4 = (0 : Int32) then (1 : Int32) else p4))), .val (.ref b1), .val (.ref b5), .val (.int (if (p5 &&& (15 : Int32)) = (0 : Int32) then (1 : Int32) else (0 : Int32))), .val .null, .val (.ref bi9)] [])) _
    refine XS.aload X9.here hx rfl (hb hby at_136) rfl rfl ?_
    show Steps p.tables e below (T9.setTop (mkF m 138 #[.val (.int p0), .val (.int p1), .val (.int p2), .val (.int p3), .val (.int p4), .val (.int p5), .val (.int (if p4 = (0 : Int32) then (1 : Int32) else p4)), .val (.int (if (p5 &&& (1 : Int32)) = (0 : Int32) then (0 : Int32) else (if p4 = (0 : Int32) then (1 : Int32) else p4))), .val (.int (if (p5 &&& (2 : Int32)) = (0 : Int32) then (0 : Int32) else (if p4 = (0 : Int32) then (1 : Int32) else p4))), .val (.int (if (p5 &&& (4 : Int32)) = (0 : Int32) then (0 : Int32) else (if p4 = (0 : Int32) then (1 : Int32) else p4))), .val (.int (if (p5 &&& (8 : Int32)) = (0 : Int32) then (0 : Int32) else (if p4 = (0 : Int32) then (1 : Int32) else p4))), .val (.ref b1), .val (.ref b5), .val (.int (if (p5 &&& (15 : Int32)) = (0 : Int32) then (1 : Int32) else (0 : Int32))), .val .null, .val (.ref bi9)] [(.ref b1)])) _
    refine XS.aload X9.here hx rfl (hb hby at_138) rfl rfl ?_
    show Steps p.tables e below (T9.setTop (mkF m 140 #[.val (.int p0), .val (.int p1), .val (.int p2), .val (.int p3), .val (.int p4), .val (.int p5), .val (.int (if p4 = (0 : Int32) then (1 : Int32) else p4)), .val (.int (if (p5 &&& (1 : Int32)) = (0 : Int32) then (0 : Int32) else (if p4 = (0 : Int32) then (1 : Int32) else p4))), .val (.int (if (p5 &&& (2 : Int32)) = (0 : Int32) then (0 : Int32) else (if p4 = (0 : Int32) then (1 : Int32) else p4))), .val (.int (if (p5 &&& (4 : Int32)) = (0 : Int32) then (0 : Int32) else (if p4 = (0 : Int32) then (1 : Int32) else p4))), .val (.int (if (p5 &&& (8 : Int32)) = (0 : Int32) then (0 : Int32) else (if p4 = (0 : Int32) then (1 : Int32) else p4))), .val (.ref b1), .val (.ref b5), .val (.int (if (p5 &&& (15 : Int32)) = (0 : Int32) then (1 : Int32) else (0 : Int32))), .val .null, .val (.ref bi9)] [(.ref b5), (.ref b1)])) _
    exact kZ
  obtain ⟨cq11, kq11, q11a, q11b, q11c⟩ := isOf hZ rfl c10_4
  obtain ⟨_, _, ⟨T11, L11, k11, n11⟩, -, X11, ⟨Lc11, hQ11, l11, y11, z11⟩, st11⟩ := X9.virtualBack hx (y := (⟨"com/example/ltlconv/ltlconv/ldba/RecurrenceParts$State", "equals", "(Ljava/lang/Object;)Z"⟩ : MethodName)) (z := (⟨"com/example/ltlconv/ltlconv/ldba/RecurrenceParts$State", "equals", "(Ljava/lang/Object;)Z"⟩ : MethodName)) hown (mvT hZ (hw _ (List.mem_of_getElem? (i := 24) rfl))) (mvT hZ (hw _ (List.mem_of_getElem? (i := 25) rfl))) (notFace_of_selects (args := #[]) (mvT hZ (hw _ (List.mem_of_getElem? (i := 27) rfl)))) (mvT hZ (hw _ (List.mem_of_getElem? (i := 27) rfl))) (mvT hZ (hw _ (List.mem_of_getElem? (i := 26) rfl))) (by decide) (backOf (W := 0) (rm4 l Z a0 hw [] b1 b5 p0 p1 p2 p3 (p0 ^^^ (if (p5 &&& (1 : Int32)) = (0 : Int32) then (0 : Int32) else (if p4 = (0 : Int32) then (1 : Int32) else p4))) (p1 ^^^ (if (p5 &&& (2 : Int32)) = (0 : Int32) then (0 : Int32) else (if p4 = (0 : Int32) then (1 : Int32) else p4))) (p2 ^^^ (if (p5 &&& (4 : Int32)) = (0 : Int32) then (0 : Int32) else (if p4 = (0 : Int32) then (1 : Int32) else p4))) (p3 ^^^ (if (p5 &&& (8 : Int32)) = (0 : Int32) then (0 : Int32) else (if p4 = (0 : Int32) then (1 : Int32) else p4))) T9.heap n0 Z9 c10_10 c10_5 c10_6 c10_7 c10_8 c10_11 c10_12 c10_13 c10_14) hZ (hw _ (List.mem_of_getElem? (i := 28) rfl)) (hw _ (List.mem_of_getElem? (i := 2) rfl)) (by decide) (by decide)) q11a q11c (g := (mkF m 140 #[.val (.int p0), .val (.int p1), .val (.int p2), .val (.int p3), .val (.int p4), .val (.int p5), .val (.int (if p4 = (0 : Int32) then (1 : Int32) else p4)), .val (.int (if (p5 &&& (1 : Int32)) = (0 : Int32) then (0 : Int32) else (if p4 = (0 : Int32) then (1 : Int32) else p4))), .val (.int (if (p5 &&& (2 : Int32)) = (0 : Int32) then (0 : Int32) else (if p4 = (0 : Int32) then (1 : Int32) else p4))), .val (.int (if (p5 &&& (4 : Int32)) = (0 : Int32) then (0 : Int32) else (if p4 = (0 : Int32) then (1 : Int32) else p4))), .val (.int (if (p5 &&& (8 : Int32)) = (0 : Int32) then (0 : Int32) else (if p4 = (0 : Int32) then (1 : Int32) else p4))), .val (.ref b1), .val (.ref b5), .val (.int (if (p5 &&& (15 : Int32)) = (0 : Int32) then (1 : Int32) else (0 : Int32))), .val .null, .val (.ref bi9)] [(.ref b5), (.ref b1)])) rfl (by rw [hml]; rfl) (Steps.refl _) (argsL := [(.ref b5)]) (rest := []) (lenOf pd_3 rfl) rfl (by show 2 * 0 + _ ≤ _; exact Nat.le_of_eq rfl) (hb hby at_140) (fun _ _ => ⟨rfl, rfl, (by decide : 0 + 1 + 0 + 1 + 0 + 1 + 0 ≤ _), (by decide : 0 + 4 + 0 + 4 + 0 + 1 + 0 ≤ _)⟩)
  dsimp only [Pt.U, Pt.locs, Pt.cells, Pt.slots] at X11 l11 y11 z11 st11 hQ11
  subst l11 y11 z11
  obtain ⟨rfl, N11q, e11⟩ := hQ11
  have N11 := Fr.app N9 N11q
  refine Go.via (fun t k => st11.trans k) ?_
  show Go p e below _ (T11.setTop (mkF m 143 #[.val (.int p0), .val (.int p1), .val (.int p2), .val (.int p3), .val (.int p4), .val (.int p5), .val (.int (if p4 = (0 : Int32) then (1 : Int32) else p4)), .val (.int (if (p5 &&& (1 : Int32)) = (0 : Int32) then (0 : Int32) else (if p4 = (0 : Int32) then (1 : Int32) else p4))), .val (.int (if (p5 &&& (2 : Int32)) = (0 : Int32) then (0 : Int32) else (if p4 = (0 : Int32) then (1 : Int32) else p4))), .val (.int (if (p5 &&& (4 : Int32)) = (0 : Int32) then (0 : Int32) else (if p4 = (0 : Int32) then (1 : Int32) else p4))), .val (.int (if (p5 &&& (8 : Int32)) = (0 : Int32) then (0 : Int32) else (if p4 = (0 : Int32) then (1 : Int32) else p4))), .val (.ref b1), .val (.ref b5), .val (.int (if (p5 &&& (15 : Int32)) = (0 : Int32) then (1 : Int32) else (0 : Int32))), .val .null, .val (.ref bi9)] [(.int (f4 b1 b5 p0 p1 p2 p3 (p0 ^^^ (if (p5 &&& (1 : Int32)) = (0 : Int32) then (0 : Int32) else (if p4 = (0 : Int32) then (1 : Int32) else p4))) (p1 ^^^ (if (p5 &&& (2 : Int32)) = (0 : Int32) then (0 : Int32) else (if p4 = (0 : Int32) then (1 : Int32) else p4))) (p2 ^^^ (if (p5 &&& (4 : Int32)) = (0 : Int32) then (0 : Int32) else (if p4 = (0 : Int32) then (1 : Int32) else p4))) (p3 ^^^ (if (p5 &&& (8 : Int32)) = (0 : Int32) then (0 : Int32) else (if p4 = (0 : Int32) then (1 : Int32) else p4)))))]))
  refine Go.via (T' := T11.setTop (mkF m 152 #[.val (.int p0), .val (.int p1), .val (.int p2), .val (.int p3), .val (.int p4), .val (.int p5), .val (.int (if p4 = (0 : Int32) then (1 : Int32) else p4)), .val (.int (if (p5 &&& (1 : Int32)) = (0 : Int32) then (0 : Int32) else (if p4 = (0 : Int32) then (1 : Int32) else p4))), .val (.int (if (p5 &&& (2 : Int32)) = (0 : Int32) then (0 : Int32) else (if p4 = (0 : Int32) then (1 : Int32) else p4))), .val (.int (if (p5 &&& (4 : Int32)) = (0 : Int32) then (0 : Int32) else (if p4 = (0 : Int32) then (1 : Int32) else p4))), .val (.int (if (p5 &&& (8 : Int32)) = (0 : Int32) then (0 : Int32) else (if p4 = (0 : Int32) then (1 : Int32) else p4))), .val (.ref b1), .val (.ref b5), .val (.int (if (p5 &&& (15 : Int32)) = (0 : Int32) then (1 : Int32) else (0 : Int32))), .val .null, .val (.ref bi9)] [(.ref b1), (.ref b5)])) (fun tZ kZ => ?_) ?_
  · show Steps p.tables e below (T11.setTop (mkF m 143 #[.val (.int p0), .val (.int p1), .val (.int p2), .val (.int p3), .val (.int p4), .val (.int p5), .val (.int (if p4 = (0 : Int32) then (1 : Int32) else p4)), .val (.int (if (p5 &&& (1 : Int32)) = (0 : Int32) then (0 : Int32) else (if p4 = (0 : Int32) then (1 : Int32) else p4))), .val (.int (if (p5 &&& (2 : Int32)) = (0 : Int32) then (0 : Int32) else (if p4 = (0 : Int32) then (1 : Int32) else p4))), .val (.int (if (p5 &&& (4 : Int32)) = (0 : Int32) then (0 : Int32) else (if p4 = (0 : Int32) then (1 : Int32) else p4))), .val (.int (if (p5 &&& (8 : Int32)) = (0 : Int32) then (0 : Int32) else (if p4 = (0 : Int32) then (1 : Int32) else p4))), .val (.ref b1), .val (.ref b5), .val (.int (if (p5 &&& (15 : Int32)) = (0 : Int32) then (1 : Int32) else (0 : Int32))), .val .null, .val (.ref bi9)] [(.int (f4 b1 b5 p0 p1 p2 p3 (p0 ^^^ (if (p5 &&& (1 : Int32)) = (0 : Int32) then (0 : Int32) else (if p4 = (0 : Int32) then (1 : Int32) else p4))) (p1 ^^^ (if (p5 &&& (2 : Int32)) = (0 : Int32) then (0 : Int32) else (if p4 = (0 : Int32) then (1 : Int32) else p4))) (p2 ^^^ (if (p5 &&& (4 : Int32)) = (0 : Int32) then (0 : Int32) else (if p4 = (0 : Int32) then (1 : Int32) else p4))) (p3 ^^^ (if (p5 &&& (8 : Int32)) = (0 : Int32) then (0 : Int32) else (if p4 = (0 : Int32) then (1 : Int32) else p4)))))])) _
    refine XS.iload X11.here hx rfl (hb hby at_143) rfl ?_
    show Steps p.tables e below (T11.setTop (mkF m 145 #[.val (.int p0), .val (.int p1), .val (.int p2), .val (.int p3), .val (.int p4), .val (.int p5), .val (.int (if p4 = (0 : Int32) then (1 : Int32) else p4)), .val (.int (if (p5 &&& (1 : Int32)) = (0 : Int32) then (0 : Int32) else (if p4 = (0 : Int32) then (1 : Int32) else p4))), .val (.int (if (p5 &&& (2 : Int32)) = (0 : Int32) then (0 : Int32) else (if p4 = (0 : Int32) then (1 : Int32) else p4))), .val (.int (if (p5 &&& (4 : Int32)) = (0 : Int32) then (0 : Int32) else (if p4 = (0 : Int32) then (1 : Int32) else p4))), .val (.int (if (p5 &&& (8 : Int32)) = (0 : Int32) then (0 : Int32) else (if p4 = (0 : Int32) then (1 : Int32) else p4))), .val (.ref b1), .val (.ref b5), .val (.int (if (p5 &&& (15 : Int32)) = (0 : Int32) then (1 : Int32) else (0 : Int32))), .val .null, .val (.ref bi9)] [(.int (if (p5 &&& (15 : Int32)) = (0 : Int32) then (1 : Int32) else (0 : Int32))), (.int (f4 b1 b5 p0 p1 p2 p3 (p0 ^^^ (if (p5 &&& (1 : Int32)) = (0 : Int32) then (0 : Int32) else (if p4 = (0 : Int32) then (1 : Int32) else p4))) (p1 ^^^ (if (p5 &&& (2 : Int32)) = (0 : Int32) then (0 : Int32) else (if p4 = (0 : Int32) then (1 : Int32) else p4))) (p2 ^^^ (if (p5 &&& (4 : Int32)) = (0 : Int32) then (0 : Int32) else (if p4 = (0 : Int32) then (1 : Int32) else p4))) (p3 ^^^ (if (p5 &&& (8 : Int32)) = (0 : Int32) then (0 : Int32) else (if p4 = (0 : Int32) then (1 : Int32) else p4)))))])) _
    refine XS.icmpNo X11.here hx rfl (hb hby at_145) rfl (teq (own_m _ _ _ _ _ _ _ _)).2 ?_
    show Steps p.tables e below (T11.setTop (mkF m 148 #[.val (.int p0), .val (.int p1), .val (.int p2), .val (.int p3), .val (.int p4), .val (.int p5), .val (.int (if p4 = (0 : Int32) then (1 : Int32) else p4)), .val (.int (if (p5 &&& (1 : Int32)) = (0 : Int32) then (0 : Int32) else (if p4 = (0 : Int32) then (1 : Int32) else p4))), .val (.int (if (p5 &&& (2 : Int32)) = (0 : Int32) then (0 : Int32) else (if p4 = (0 : Int32) then (1 : Int32) else p4))), .val (.int (if (p5 &&& (4 : Int32)) = (0 : Int32) then (0 : Int32) else (if p4 = (0 : Int32) then (1 : Int32) else p4))), .val (.int (if (p5 &&& (8 : Int32)) = (0 : Int32) then (0 : Int32) else (if p4 = (0 : Int32) then (1 : Int32) else p4))), .val (.ref b1), .val (.ref b5), .val (.int (if (p5 &&& (15 : Int32)) = (0 : Int32) then (1 : Int32) else (0 : Int32))), .val .null, .val (.ref bi9)] [])) _
    refine XS.aload X11.here hx rfl (hb hby at_148) rfl rfl ?_
    show Steps p.tables e below (T11.setTop (mkF m 150 #[.val (.int p0), .val (.int p1), .val (.int p2), .val (.int p3), .val (.int p4), .val (.int p5), .val (.int (if p4 = (0 : Int32) then (1 : Int32) else p4)), .val (.int (if (p5 &&& (1 : Int32)) = (0 : Int32) then (0 : Int32) else (if p4 = (0 : Int32) then (1 : Int32) else p4))), .val (.int (if (p5 &&& (2 : Int32)) = (0 : Int32) then (0 : Int32) else (if p4 = (0 : Int32) then (1 : Int32) else p4))), .val (.int (if (p5 &&& (4 : Int32)) = (0 : Int32) then (0 : Int32) else (if p4 = (0 : Int32) then (1 : Int32) else p4))), .val (.int (if (p5 &&& (8 : Int32)) = (0 : Int32) then (0 : Int32) else (if p4 = (0 : Int32) then (1 : Int32) else p4))), .val (.ref b1), .val (.ref b5), .val (.int (if (p5 &&& (15 : Int32)) = (0 : Int32) then (1 : Int32) else (0 : Int32))), .val .null, .val (.ref bi9)] [(.ref b5)])) _
    refine XS.aload X11.here hx rfl (hb hby at_150) rfl rfl ?_
    show Steps p.tables e below (T11.setTop (mkF m 152 #[.val (.int p0), .val (.int p1), .val (.int p2), .val (.int p3), .val (.int p4), .val (.int p5), .val (.int (if p4 = (0 : Int32) then (1 : Int32) else p4)), .val (.int (if (p5 &&& (1 : Int32)) = (0 : Int32) then (0 : Int32) else (if p4 = (0 : Int32) then (1 : Int32) else p4))), .val (.int (if (p5 &&& (2 : Int32)) = (0 : Int32) then (0 : Int32) else (if p4 = (0 : Int32) then (1 : Int32) else p4))), .val (.int (if (p5 &&& (4 : Int32)) = (0 : Int32) then (0 : Int32) else (if p4 = (0 : Int32) then (1 : Int32) else p4))), .val (.int (if (p5 &&& (8 : Int32)) = (0 : Int32) then (0 : Int32) else (if p4 = (0 : Int32) then (1 : Int32) else p4))), .val (.ref b1), .val (.ref b5), .val (.int (if (p5 &&& (15 : Int32)) = (0 : Int32) then (1 : Int32) else (0 : Int32))), .val .null, .val (.ref bi9)] [(.ref b1), (.ref b5)])) _
    exact kZ
  obtain ⟨cq12, kq12, q12a, q12b, q12c⟩ := isOf hZ e11 c10_10
  obtain ⟨_, _, ⟨T12, L12, k12, n12⟩, -, X12, ⟨Lc12, hQ12, l12, y12, z12⟩, st12⟩ := X11.virtualBack hx (y := (⟨"com/example/ltlconv/ltlconv/ldba/RecurrenceParts$State", "equals", "(Ljava/lang/Object;)Z"⟩ : MethodName)) (z := (⟨"com/example/ltlconv/ltlconv/ldba/RecurrenceParts$State", "equals", "(Ljava/lang/Object;)Z"⟩ : MethodName)) hown (mvT hZ (hw _ (List.mem_of_getElem? (i := 24) rfl))) (mvT hZ (hw _ (List.mem_of_getElem? (i := 25) rfl))) (notFace_of_selects (args := #[]) (mvT hZ (hw _ (List.mem_of_getElem? (i := 27) rfl)))) (mvT hZ (hw _ (List.mem_of_getElem? (i := 27) rfl))) (mvT hZ (hw _ (List.mem_of_getElem? (i := 26) rfl))) (by decide) (backOf (W := 0) (rm4 l Z a0 hw [] b5 b1 (p0 ^^^ (if (p5 &&& (1 : Int32)) = (0 : Int32) then (0 : Int32) else (if p4 = (0 : Int32) then (1 : Int32) else p4))) (p1 ^^^ (if (p5 &&& (2 : Int32)) = (0 : Int32) then (0 : Int32) else (if p4 = (0 : Int32) then (1 : Int32) else p4))) (p2 ^^^ (if (p5 &&& (4 : Int32)) = (0 : Int32) then (0 : Int32) else (if p4 = (0 : Int32) then (1 : Int32) else p4))) (p3 ^^^ (if (p5 &&& (8 : Int32)) = (0 : Int32) then (0 : Int32) else (if p4 = (0 : Int32) then (1 : Int32) else p4))) p0 p1 p2 p3 T9.heap n0 Z9 c10_4 c10_11 c10_12 c10_13 c10_14 c10_5 c10_6 c10_7 c10_8) hZ (hw _ (List.mem_of_getElem? (i := 28) rfl)) (hw _ (List.mem_of_getElem? (i := 2) rfl)) (by decide) (by decide)) q12a q12c (g := (mkF m 152 #[.val (.int p0), .val (.int p1), .val (.int p2), .val (.int p3), .val (.int p4), .val (.int p5), .val (.int (if p4 = (0 : Int32) then (1 : Int32) else p4)), .val (.int (if (p5 &&& (1 : Int32)) = (0 : Int32) then (0 : Int32) else (if p4 = (0 : Int32) then (1 : Int32) else p4))), .val (.int (if (p5 &&& (2 : Int32)) = (0 : Int32) then (0 : Int32) else (if p4 = (0 : Int32) then (1 : Int32) else p4))), .val (.int (if (p5 &&& (4 : Int32)) = (0 : Int32) then (0 : Int32) else (if p4 = (0 : Int32) then (1 : Int32) else p4))), .val (.int (if (p5 &&& (8 : Int32)) = (0 : Int32) then (0 : Int32) else (if p4 = (0 : Int32) then (1 : Int32) else p4))), .val (.ref b1), .val (.ref b5), .val (.int (if (p5 &&& (15 : Int32)) = (0 : Int32) then (1 : Int32) else (0 : Int32))), .val .null, .val (.ref bi9)] [(.ref b1), (.ref b5)])) rfl (by rw [hml]; rfl) (Steps.refl _) (argsL := [(.ref b1)]) (rest := []) (lenOf pd_3 rfl) rfl (by show 2 * 0 + _ ≤ _; exact Nat.le_of_eq rfl) (hb hby at_152) (fun _ _ => ⟨rfl, e11, (by decide : 0 + 1 + 0 + 1 + 0 + 1 + 0 + 0 ≤ _), (by decide : 0 + 4 + 0 + 4 + 0 + 1 + 0 + 0 ≤ _)⟩)
  dsimp only [Pt.U, Pt.locs, Pt.cells, Pt.slots] at X12 l12 y12 z12 st12 hQ12
  subst l12 y12 z12
  obtain ⟨rfl, N12q, e12⟩ := hQ12
  have N12 := Fr.app N11 N12q
  refine Go.via (fun t k => st12.trans k) ?_
  show Go p e below _ (T12.setTop (mkF m 155 #[.val (.int p0), .val (.int p1), .val (.int p2), .val (.int p3), .val (.int p4), .val (.int p5), .val (.int (if p4 = (0 : Int32) then (1 : Int32) else p4)), .val (.int (if (p5 &&& (1 : Int32)) = (0 : Int32) then (0 : Int32) else (if p4 = (0 : Int32) then (1 : Int32) else p4))), .val (.int (if (p5 &&& (2 : Int32)) = (0 : Int32) then (0 : Int32) else (if p4 = (0 : Int32) then (1 : Int32) else p4))), .val (.int (if (p5 &&& (4 : Int32)) = (0 : Int32) then (0 : Int32) else (if p4 = (0 : Int32) then (1 : Int32) else p4))), .val (.int (if (p5 &&& (8 : Int32)) = (0 : Int32) then (0 : Int32) else (if p4 = (0 : Int32) then (1 : Int32) else p4))), .val (.ref b1), .val (.ref b5), .val (.int (if (p5 &&& (15 : Int32)) = (0 : Int32) then (1 : Int32) else (0 : Int32))), .val .null, .val (.ref bi9)] [(.int (f4 b5 b1 (p0 ^^^ (if (p5 &&& (1 : Int32)) = (0 : Int32) then (0 : Int32) else (if p4 = (0 : Int32) then (1 : Int32) else p4))) (p1 ^^^ (if (p5 &&& (2 : Int32)) = (0 : Int32) then (0 : Int32) else (if p4 = (0 : Int32) then (1 : Int32) else p4))) (p2 ^^^ (if (p5 &&& (4 : Int32)) = (0 : Int32) then (0 : Int32) else (if p4 = (0 : Int32) then (1 : Int32) else p4))) (p3 ^^^ (if (p5 &&& (8 : Int32)) = (0 : Int32) then (0 : Int32) else (if p4 = (0 : Int32) then (1 : Int32) else p4))) p0 p1 p2 p3))]))
  refine Go.via (T' := T12.setTop (mkF m 164 #[.val (.int p0), .val (.int p1), .val (.int p2), .val (.int p3), .val (.int p4), .val (.int p5), .val (.int (if p4 = (0 : Int32) then (1 : Int32) else p4)), .val (.int (if (p5 &&& (1 : Int32)) = (0 : Int32) then (0 : Int32) else (if p4 = (0 : Int32) then (1 : Int32) else p4))), .val (.int (if (p5 &&& (2 : Int32)) = (0 : Int32) then (0 : Int32) else (if p4 = (0 : Int32) then (1 : Int32) else p4))), .val (.int (if (p5 &&& (4 : Int32)) = (0 : Int32) then (0 : Int32) else (if p4 = (0 : Int32) then (1 : Int32) else p4))), .val (.int (if (p5 &&& (8 : Int32)) = (0 : Int32) then (0 : Int32) else (if p4 = (0 : Int32) then (1 : Int32) else p4))), .val (.ref b1), .val (.ref b5), .val (.int (if (p5 &&& (15 : Int32)) = (0 : Int32) then (1 : Int32) else (0 : Int32))), .val .null, .val (.ref bi9)] [(.ref b1), (.ref b1)])) (fun tZ kZ => ?_) ?_
  · show Steps p.tables e below (T12.setTop (mkF m 155 #[.val (.int p0), .val (.int p1), .val (.int p2), .val (.int p3), .val (.int p4), .val (.int p5), .val (.int (if p4 = (0 : Int32) then (1 : Int32) else p4)), .val (.int (if (p5 &&& (1 : Int32)) = (0 : Int32) then (0 : Int32) else (if p4 = (0 : Int32) then (1 : Int32) else p4))), .val (.int (if (p5 &&& (2 : Int32)) = (0 : Int32) then (0 : Int32) else (if p4 = (0 : Int32) then (1 : Int32) else p4))), .val (.int (if (p5 &&& (4 : Int32)) = (0 : Int32) then (0 : Int32) else (if p4 = (0 : Int32) then (1 : Int32) else p4))), .val (.int (if (p5 &&& (8 : Int32)) = (0 : Int32) then (0 : Int32) else (if p4 = (0 : Int32) then (1 : Int32) else p4))), .val (.ref b1), .val (.ref b5), .val (.int (if (p5 &&& (15 : Int32)) = (0 : Int32) then (1 : Int32) else (0 : Int32))), .val .null, .val (.ref bi9)] [(.int (f4 b5 b1 (p0 ^^^ (if (p5 &&& (1 : Int32)) = (0 : Int32) then (0 : Int32) else (if p4 = (0 : Int32) then (1 : Int32) else p4))) (p1 ^^^ (if (p5 &&& (2 : Int32)) = (0 : Int32) then (0 : Int32) else (if p4 = (0 : Int32) then (1 : Int32) else p4))) (p2 ^^^ (if (p5 &&& (4 : Int32)) = (0 : Int32) then (0 : Int32) else (if p4 = (0 : Int32) then (1 : Int32) else p4))) (p3 ^^^ (if (p5 &&& (8 : Int32)) = (0 : Int32) then (0 : Int32) else (if p4 = (0 : Int32) then (1 : Int32) else p4))) p0 p1 p2 p3))])) _
    refine XS.iload X12.here hx rfl (hb hby at_155) rfl ?_
    show Steps p.tables e below (T12.setTop (mkF m 157 #[.val (.int p0), .val (.int p1), .val (.int p2), .val (.int p3), .val (.int p4), .val (.int p5), .val (.int (if p4 = (0 : Int32) then (1 : Int32) else p4)), .val (.int (if (p5 &&& (1 : Int32)) = (0 : Int32) then (0 : Int32) else (if p4 = (0 : Int32) then (1 : Int32) else p4))), .val (.int (if (p5 &&& (2 : Int32)) = (0 : Int32) then (0 : Int32) else (if p4 = (0 : Int32) then (1 : Int32) else p4))), .val (.int (if (p5 &&& (4 : Int32)) = (0 : Int32) then (0 : Int32) else (if p4 = (0 : Int32) then (1 : Int32) else p4))), .val (.int (if (p5 &&& (8 : Int32)) = (0 : Int32) then (0 : Int32) else (if p4 = (0 : Int32) then (1 : Int32) else p4))), .val (.ref b1), .val (.ref b5), .val (.int (if (p5 &&& (15 : Int32)) = (0 : Int32) then (1 : Int32) else (0 : Int32))), .val .null, .val (.ref bi9)] [(.int (if (p5 &&& (15 : Int32)) = (0 : Int32) then (1 : Int32) else (0 : Int32))), (.int (f4 b5 b1 (p0 ^^^ (if (p5 &&& (1 : Int32)) = (0 : Int32) then (0 : Int32) else (if p4 = (0 : Int32) then (1 : Int32) else p4))) (p1 ^^^ (if (p5 &&& (2 : Int32)) = (0 : Int32) then (0 : Int32) else (if p4 = (0 : Int32) then (1 : Int32) else p4))) (p2 ^^^ (if (p5 &&& (4 : Int32)) = (0 : Int32) then (0 : Int32) else (if p4 = (0 : Int32) then (1 : Int32) else p4))) (p3 ^^^ (if (p5 &&& (8 : Int32)) = (0 : Int32) then (0 : Int32) else (if p4 = (0 : Int32) then (1 : Int32) else p4))) p0 p1 p2 p3))])) _
    refine XS.icmpNo X12.here hx rfl (hb hby at_157) rfl (teq (own_m' _ _ _ _ _ _ _ _)).2 ?_
    show Steps p.tables e below (T12.setTop (mkF m 160 #[.val (.int p0), .val (.int p1), .val (.int p2), .val (.int p3), .val (.int p4), .val (.int p5), .val (.int (if p4 = (0 : Int32) then (1 : Int32) else p4)), .val (.int (if (p5 &&& (1 : Int32)) = (0 : Int32) then (0 : Int32) else (if p4 = (0 : Int32) then (1 : Int32) else p4))), .val (.int (if (p5 &&& (2 : Int32)) = (0 : Int32) then (0 : Int32) else (if p4 = (0 : Int32) then (1 : Int32) else p4))), .val (.int (if (p5 &&& (4 : Int32)) = (0 : Int32) then (0 : Int32) else (if p4 = (0 : Int32) then (1 : Int32) else p4))), .val (.int (if (p5 &&& (8 : Int32)) = (0 : Int32) then (0 : Int32) else (if p4 = (0 : Int32) then (1 : Int32) else p4))), .val (.ref b1), .val (.ref b5), .val (.int (if (p5 &&& (15 : Int32)) = (0 : Int32) then (1 : Int32) else (0 : Int32))), .val .null, .val (.ref bi9)] [])) _
    refine XS.aload X12.here hx rfl (hb hby at_160) rfl rfl ?_
    show Steps p.tables e below (T12.setTop (mkF m 162 #[.val (.int p0), .val (.int p1), .val (.int p2), .val (.int p3), .val (.int p4), .val (.int p5), .val (.int (if p4 = (0 : Int32) then (1 : Int32) else p4)), .val (.int (if (p5 &&& (1 : Int32)) = (0 : Int32) then (0 : Int32) else (if p4 = (0 : Int32) then (1 : Int32) else p4))), .val (.int (if (p5 &&& (2 : Int32)) = (0 : Int32) then (0 : Int32) else (if p4 = (0 : Int32) then (1 : Int32) else p4))), .val (.int (if (p5 &&& (4 : Int32)) = (0 : Int32) then (0 : Int32) else (if p4 = (0 : Int32) then (1 : Int32) else p4))), .val (.int (if (p5 &&& (8 : Int32)) = (0 : Int32) then (0 : Int32) else (if p4 = (0 : Int32) then (1 : Int32) else p4))), .val (.ref b1), .val (.ref b5), .val (.int (if (p5 &&& (15 : Int32)) = (0 : Int32) then (1 : Int32) else (0 : Int32))), .val .null, .val (.ref bi9)] [(.ref b1)])) _
    refine XS.aload X12.here hx rfl (hb hby at_162) rfl rfl ?_
    show Steps p.tables e below (T12.setTop (mkF m 164 #[.val (.int p0), .val (.int p1), .val (.int p2), .val (.int p3), .val (.int p4), .val (.int p5), .val (.int (if p4 = (0 : Int32) then (1 : Int32) else p4)), .val (.int (if (p5 &&& (1 : Int32)) = (0 : Int32) then (0 : Int32) else (if p4 = (0 : Int32) then (1 : Int32) else p4))), .val (.int (if (p5 &&& (2 : Int32)) = (0 : Int32) then (0 : Int32) else (if p4 = (0 : Int32) then (1 : Int32) else p4))), .val (.int (if (p5 &&& (4 : Int32)) = (0 : Int32) then (0 : Int32) else (if p4 = (0 : Int32) then (1 : Int32) else p4))), .val (.int (if (p5 &&& (8 : Int32)) = (0 : Int32) then (0 : Int32) else (if p4 = (0 : Int32) then (1 : Int32) else p4))), .val (.ref b1), .val (.ref b5), .val (.int (if (p5 &&& (15 : Int32)) = (0 : Int32) then (1 : Int32) else (0 : Int32))), .val .null, .val (.ref bi9)] [(.ref b1), (.ref b1)])) _
    exact kZ
  obtain ⟨cq13, kq13, q13a, q13b, q13c⟩ := isOf hZ e12 c10_4
  obtain ⟨_, _, ⟨T13, L13, k13, n13⟩, -, X13, ⟨Lc13, hQ13, l13, y13, z13⟩, st13⟩ := X12.virtualBack hx (y := (⟨"com/example/ltlconv/ltlconv/ldba/RecurrenceParts$State", "equals", "(Ljava/lang/Object;)Z"⟩ : MethodName)) (z := (⟨"com/example/ltlconv/ltlconv/ldba/RecurrenceParts$State", "equals", "(Ljava/lang/Object;)Z"⟩ : MethodName)) hown (mvT hZ (hw _ (List.mem_of_getElem? (i := 24) rfl))) (mvT hZ (hw _ (List.mem_of_getElem? (i := 25) rfl))) (notFace_of_selects (args := #[]) (mvT hZ (hw _ (List.mem_of_getElem? (i := 27) rfl)))) (mvT hZ (hw _ (List.mem_of_getElem? (i := 27) rfl))) (mvT hZ (hw _ (List.mem_of_getElem? (i := 26) rfl))) (by decide) (backOf (W := 0) (rm4 l Z a0 hw [] b1 b1 p0 p1 p2 p3 p0 p1 p2 p3 T9.heap n0 Z9 c10_4 c10_5 c10_6 c10_7 c10_8 c10_5 c10_6 c10_7 c10_8) hZ (hw _ (List.mem_of_getElem? (i := 28) rfl)) (hw _ (List.mem_of_getElem? (i := 2) rfl)) (by decide) (by decide)) q13a q13c (g := (mkF m 164 #[.val (.int p0), .val (.int p1), .val (.int p2), .val (.int p3), .val (.int p4), .val (.int p5), .val (.int (if p4 = (0 : Int32) then (1 : Int32) else p4)), .val (.int (if (p5 &&& (1 : Int32)) = (0 : Int32) then (0 : Int32) else (if p4 = (0 : Int32) then (1 : Int32) else p4))), .val (.int (if (p5 &&& (2 : Int32)) = (0 : Int32) then (0 : Int32) else (if p4 = (0 : Int32) then (1 : Int32) else p4))), .val (.int (if (p5 &&& (4 : Int32)) = (0 : Int32) then (0 : Int32) else (if p4 = (0 : Int32) then (1 : Int32) else p4))), .val (.int (if (p5 &&& (8 : Int32)) = (0 : Int32) then (0 : Int32) else (if p4 = (0 : Int32) then (1 : Int32) else p4))), .val (.ref b1), .val (.ref b5), .val (.int (if (p5 &&& (15 : Int32)) = (0 : Int32) then (1 : Int32) else (0 : Int32))), .val .null, .val (.ref bi9)] [(.ref b1), (.ref b1)])) rfl (by rw [hml]; rfl) (Steps.refl _) (argsL := [(.ref b1)]) (rest := []) (lenOf pd_3 rfl) rfl (by show 2 * 0 + _ ≤ _; exact Nat.le_of_eq rfl) (hb hby at_164) (fun _ _ => ⟨rfl, e12, (by decide : 0 + 1 + 0 + 1 + 0 + 1 + 0 + 0 + 0 ≤ _), (by decide : 0 + 4 + 0 + 4 + 0 + 1 + 0 + 0 + 0 ≤ _)⟩)
  dsimp only [Pt.U, Pt.locs, Pt.cells, Pt.slots] at X13 l13 y13 z13 st13 hQ13
  subst l13 y13 z13
  obtain ⟨rfl, N13q, e13⟩ := hQ13
  have N13 := Fr.app N12 N13q
  refine Go.via (fun t k => st13.trans k) ?_
  show Go p e below _ (T13.setTop (mkF m 167 #[.val (.int p0), .val (.int p1), .val (.int p2), .val (.int p3), .val (.int p4), .val (.int p5), .val (.int (if p4 = (0 : Int32) then (1 : Int32) else p4)), .val (.int (if (p5 &&& (1 : Int32)) = (0 : Int32) then (0 : Int32) else (if p4 = (0 : Int32) then (1 : Int32) else p4))), .val (.int (if (p5 &&& (2 : Int32)) = (0 : Int32) then (0 : Int32) else (if p4 = (0 : Int32) then (1 : Int32) else p4))), .val (.int (if (p5 &&& (4 : Int32)) = (0 : Int32) then (0 : Int32) else (if p4 = (0 : Int32) then (1 : Int32) else p4))), .val (.int (if (p5 &&& (8 : Int32)) = (0 : Int32) then (0 : Int32) else (if p4 = (0 : Int32) then (1 : Int32) else p4))), .val (.ref b1), .val (.ref b5), .val (.int (if (p5 &&& (15 : Int32)) = (0 : Int32) then (1 : Int32) else (0 : Int32))), .val .null, .val (.ref bi9)] [(.int (f4 b1 b1 p0 p1 p2 p3 p0 p1 p2 p3))]))
  refine Go.via (T' := T13.setTop (mkF m 174 #[.val (.int p0), .val (.int p1), .val (.int p2), .val (.int p3), .val (.int p4), .val (.int p5), .val (.int (if p4 = (0 : Int32) then (1 : Int32) else p4)), .val (.int (if (p5 &&& (1 : Int32)) = (0 : Int32) then (0 : Int32) else (if p4 = (0 : Int32) then (1 : Int32) else p4))), .val (.int (if (p5 &&& (2 : Int32)) = (0 : Int32) then (0 : Int32) else (if p4 = (0 : Int32) then (1 : Int32) else p4))), .val (.int (if (p5 &&& (4 : Int32)) = (0 : Int32) then (0 : Int32) else (if p4 = (0 : Int32) then (1 : Int32) else p4))), .val (.int (if (p5 &&& (8 : Int32)) = (0 : Int32) then (0 : Int32) else (if p4 = (0 : Int32) then (1 : Int32) else p4))), .val (.ref b1), .val (.ref b5), .val (.int (if (p5 &&& (15 : Int32)) = (0 : Int32) then (1 : Int32) else (0 : Int32))), .val .null, .val (.ref bi9)] [.null, (.ref b1)])) (fun tZ kZ => ?_) ?_
  · show Steps p.tables e below (T13.setTop (mkF m 167 #[.val (.int p0), .val (.int p1), .val (.int p2), .val (.int p3), .val (.int p4), .val (.int p5), .val (.int (if p4 = (0 : Int32) then (1 : Int32) else p4)), .val (.int (if (p5 &&& (1 : Int32)) = (0 : Int32) then (0 : Int32) else (if p4 = (0 : Int32) then (1 : Int32) else p4))), .val (.int (if (p5 &&& (2 : Int32)) = (0 : Int32) then (0 : Int32) else (if p4 = (0 : Int32) then (1 : Int32) else p4))), .val (.int (if (p5 &&& (4 : Int32)) = (0 : Int32) then (0 : Int32) else (if p4 = (0 : Int32) then (1 : Int32) else p4))), .val (.int (if (p5 &&& (8 : Int32)) = (0 : Int32) then (0 : Int32) else (if p4 = (0 : Int32) then (1 : Int32) else p4))), .val (.ref b1), .val (.ref b5), .val (.int (if (p5 &&& (15 : Int32)) = (0 : Int32) then (1 : Int32) else (0 : Int32))), .val .null, .val (.ref bi9)] [(.int (f4 b1 b1 p0 p1 p2 p3 p0 p1 p2 p3))])) _
    refine XS.ifNo X13.here hx rfl (hb hby at_167) rfl ((if0 _ _).trans (feq (own_rf _ _ _ _ _ _)).1) ?_
    show Steps p.tables e below (T13.setTop (mkF m 170 #[.val (.int p0), .val (.int p1), .val (.int p2), .val (.int p3), .val (.int p4), .val (.int p5), .val (.int (if p4 = (0 : Int32) then (1 : Int32) else p4)), .val (.int (if (p5 &&& (1 : Int32)) = (0 : Int32) then (0 : Int32) else (if p4 = (0 : Int32) then (1 : Int32) else p4))), .val (.int (if (p5 &&& (2 : Int32)) = (0 : Int32) then (0 : Int32) else (if p4 = (0 : Int32) then (1 : Int32) else p4))), .val (.int (if (p5 &&& (4 : Int32)) = (0 : Int32) then (0 : Int32) else (if p4 = (0 : Int32) then (1 : Int32) else p4))), .val (.int (if (p5 &&& (8 : Int32)) = (0 : Int32) then (0 : Int32) else (if p4 = (0 : Int32) then (1 : Int32) else p4))), .val (.ref b1), .val (.ref b5), .val (.int (if (p5 &&& (15 : Int32)) = (0 : Int32) then (1 : Int32) else (0 : Int32))), .val .null, .val (.ref bi9)] [])) _
    refine XS.aload X13.here hx rfl (hb hby at_170) rfl rfl ?_
    show Steps p.tables e below (T13.setTop (mkF m 172 #[.val (.int p0), .val (.int p1), .val (.int p2), .val (.int p3), .val (.int p4), .val (.int p5), .val (.int (if p4 = (0 : Int32) then (1 : Int32) else p4)), .val (.int (if (p5 &&& (1 : Int32)) = (0 : Int32) then (0 : Int32) else (if p4 = (0 : Int32) then (1 : Int32) else p4))), .val (.int (if (p5 &&& (2 : Int32)) = (0 : Int32) then (0 : Int32) else (if p4 = (0 : Int32) then (1 : Int32) else p4))), .val (.int (if (p5 &&& (4 : Int32)) = (0 : Int32) then (0 : Int32) else (if p4 = (0 : Int32) then (1 : Int32) else p4))), .val (.int (if (p5 &&& (8 : Int32)) = (0 : Int32) then (0 : Int32) else (if p4 = (0 : Int32) then (1 : Int32) else p4))), .val (.ref b1), .val (.ref b5), .val (.int (if (p5 &&& (15 : Int32)) = (0 : Int32) then (1 : Int32) else (0 : Int32))), .val .null, .val (.ref bi9)] [(.ref b1)])) _
    refine XS.aload X13.here hx rfl (hb hby at_172) rfl rfl ?_
    show Steps p.tables e below (T13.setTop (mkF m 174 #[.val (.int p0), .val (.int p1), .val (.int p2), .val (.int p3), .val (.int p4), .val (.int p5), .val (.int (if p4 = (0 : Int32) then (1 : Int32) else p4)), .val (.int (if (p5 &&& (1 : Int32)) = (0 : Int32) then (0 : Int32) else (if p4 = (0 : Int32) then (1 : Int32) else p4))), .val (.int (if (p5 &&& (2 : Int32)) = (0 : Int32) then (0 : Int32) else (if p4 = (0 : Int32) then (1 : Int32) else p4))), .val (.int (if (p5 &&& (4 : Int32)) = (0 : Int32) then (0 : Int32) else (if p4 = (0 : Int32) then (1 : Int32) else p4))), .val (.int (if (p5 &&& (8 : Int32)) = (0 : Int32) then (0 : Int32) else (if p4 = (0 : Int32) then (1 : Int32) else p4))), .val (.ref b1), .val (.ref b5), .val (.int (if (p5 &&& (15 : Int32)) = (0 : Int32) then (1 : Int32) else (0 : Int32))), .val .null, .val (.ref bi9)] [.null, (.ref b1)])) _
    exact kZ
  obtain ⟨cq14, kq14, q14a, q14b, q14c⟩ := isOf hZ e13 c10_4
  obtain ⟨_, _, ⟨T14, L14, k14, n14⟩, -, X14, ⟨Lc14, hQ14, l14, y14, z14⟩, st14⟩ := X13.virtualBack hx (y := (⟨"com/example/ltlconv/ltlconv/ldba/RecurrenceParts$State", "equals", "(Ljava/lang/Object;)Z"⟩ : MethodName)) (z := (⟨"com/example/ltlconv/ltlconv/ldba/RecurrenceParts$State", "equals", "(Ljava/lang/Object;)Z"⟩ : MethodName)) hown (mvT hZ (hw _ (List.mem_of_getElem? (i := 24) rfl))) (mvT hZ (hw _ (List.mem_of_getElem? (i := 25) rfl))) (notFace_of_selects (args := #[]) (mvT hZ (hw _ (List.mem_of_getElem? (i := 27) rfl)))) (mvT hZ (hw _ (List.mem_of_getElem? (i := 27) rfl))) (mvT hZ (hw _ (List.mem_of_getElem? (i := 26) rfl))) (by decide) (backOf (W := 0) (rm4n l Z a0 hw [] b1 T9.heap n0 Z9 ) hZ (hw _ (List.mem_of_getElem? (i := 28) rfl)) (hw _ (List.mem_of_getElem? (i := 2) rfl)) (by decide) (by decide)) q14a q14c (g := (mkF m 174 #[.val (.int p0), .val (.int p1), .val (.int p2), .val (.int p3), .val (.int p4), .val (.int p5), .val (.int (if p4 = (0 : Int32) then (1 : Int32) else p4)), .val (.int (if (p5 &&& (1 : Int32)) = (0 : Int32) then (0 : Int32) else (if p4 = (0 : Int32) then (1 : Int32) else p4))), .val (.int (if (p5 &&& (2 : Int32)) = (0 : Int32) then (0 : Int32) else (if p4 = (0 : Int32) then (1 : Int32) else p4))), .val (.int (if (p5 &&& (4 : Int32)) = (0 : Int32) then (0 : Int32) else (if p4 = (0 : Int32) then (1 : Int32) else p4))), .val (.int (if (p5 &&& (8 : Int32)) = (0 : Int32) then (0 : Int32) else (if p4 = (0 : Int32) then (1 : Int32) else p4))), .val (.ref b1), .val (.ref b5), .val (.int (if (p5 &&& (15 : Int32)) = (0 : Int32) then (1 : Int32) else (0 : Int32))), .val .null, .val (.ref bi9)] [.null, (.ref b1)])) rfl (by rw [hml]; rfl) (Steps.refl _) (argsL := [.null]) (rest := []) (lenOf pd_3 rfl) rfl (by show 2 * 0 + _ ≤ _; exact Nat.le_of_eq rfl) (hb hby at_174) (fun _ _ => ⟨rfl, e13, (by decide : 0 + 1 + 0 + 1 + 0 + 1 + 0 + 0 + 0 + 0 ≤ _), (by decide : 0 + 4 + 0 + 4 + 0 + 1 + 0 + 0 + 0 + 0 ≤ _)⟩)
  dsimp only [Pt.U, Pt.locs, Pt.cells, Pt.slots] at X14 l14 y14 z14 st14 hQ14
  subst l14 y14 z14
  obtain ⟨rfl, N14q, e14⟩ := hQ14
  have N14 := Fr.app N13 N14q
  refine Go.via (fun t k => st14.trans k) ?_
  show Go p e below _ (T14.setTop (mkF m 177 #[.val (.int p0), .val (.int p1), .val (.int p2), .val (.int p3), .val (.int p4), .val (.int p5), .val (.int (if p4 = (0 : Int32) then (1 : Int32) else p4)), .val (.int (if (p5 &&& (1 : Int32)) = (0 : Int32) then (0 : Int32) else (if p4 = (0 : Int32) then (1 : Int32) else p4))), .val (.int (if (p5 &&& (2 : Int32)) = (0 : Int32) then (0 : Int32) else (if p4 = (0 : Int32) then (1 : Int32) else p4))), .val (.int (if (p5 &&& (4 : Int32)) = (0 : Int32) then (0 : Int32) else (if p4 = (0 : Int32) then (1 : Int32) else p4))), .val (.int (if (p5 &&& (8 : Int32)) = (0 : Int32) then (0 : Int32) else (if p4 = (0 : Int32) then (1 : Int32) else p4))), .val (.ref b1), .val (.ref b5), .val (.int (if (p5 &&& (15 : Int32)) = (0 : Int32) then (1 : Int32) else (0 : Int32))), .val .null, .val (.ref bi9)] [(.int (0 : Int32))]))
  refine Go.via (T' := T14.setTop (mkF m 184 #[.val (.int p0), .val (.int p1), .val (.int p2), .val (.int p3), .val (.int p4), .val (.int p5), .val (.int (if p4 = (0 : Int32) then (1 : Int32) else p4)), .val (.int (if (p5 &&& (1 : Int32)) = (0 : Int32) then (0 : Int32) else (if p4 = (0 : Int32) then (1 : Int32) else p4))), .val (.int (if (p5 &&& (2 : Int32)) = (0 : Int32) then (0 : Int32) else (if p4 = (0 : Int32) then (1 : Int32) else p4))), .val (.int (if (p5 &&& (4 : Int32)) = (0 : Int32) then (0 : Int32) else (if p4 = (0 : Int32) then (1 : Int32) else p4))), .val (.int (if (p5 &&& (8 : Int32)) = (0 : Int32) then (0 : Int32) else (if p4 = (0 : Int32) then (1 : Int32) else p4))), .val (.ref b1), .val (.ref b5), .val (.int (if (p5 &&& (15 : Int32)) = (0 : Int32) then (1 : Int32) else (0 : Int32))), .val .null, .val (.ref bi9)] [(.ref bi9), (.ref b1)])) (fun tZ kZ => ?_) ?_
  · show Steps p.tables e below (T14.setTop (mkF m 177 #[.val (.int p0), .val (.int p1), .val (.int p2), .val (.int p3), .val (.int p4), .val (.int p5), .val (.int (if p4 = (0 : Int32) then (1 : Int32) else p4)), .val (.int (if (p5 &&& (1 : Int32)) = (0 : Int32) then (0 : Int32) else (if p4 = (0 : Int32) then (1 : Int32) else p4))), .val (.int (if (p5 &&& (2 : Int32)) = (0 : Int32) then (0 : Int32) else (if p4 = (0 : Int32) then (1 : Int32) else p4))), .val (.int (if (p5 &&& (4 : Int32)) = (0 : Int32) then (0 : Int32) else (if p4 = (0 : Int32) then (1 : Int32) else p4))), .val (.int (if (p5 &&& (8 : Int32)) = (0 : Int32) then (0 : Int32) else (if p4 = (0 : Int32) then (1 : Int32) else p4))), .val (.ref b1), .val (.ref b5), .val (.int (if (p5 &&& (15 : Int32)) = (0 : Int32) then (1 : Int32) else (0 : Int32))), .val .null, .val (.ref bi9)] [(.int (0 : Int32))])) _
    refine XS.ifNo X14.here hx rfl (hb hby at_177) rfl ((if0 _ _).trans (teq (by decide)).2) ?_
    show Steps p.tables e below (T14.setTop (mkF m 180 #[.val (.int p0), .val (.int p1), .val (.int p2), .val (.int p3), .val (.int p4), .val (.int p5), .val (.int (if p4 = (0 : Int32) then (1 : Int32) else p4)), .val (.int (if (p5 &&& (1 : Int32)) = (0 : Int32) then (0 : Int32) else (if p4 = (0 : Int32) then (1 : Int32) else p4))), .val (.int (if (p5 &&& (2 : Int32)) = (0 : Int32) then (0 : Int32) else (if p4 = (0 : Int32) then (1 : Int32) else p4))), .val (.int (if (p5 &&& (4 : Int32)) = (0 : Int32) then (0 : Int32) else (if p4 = (0 : Int32) then (1 : Int32) else p4))), .val (.int (if (p5 &&& (8 : Int32)) = (0 : Int32) then (0 : Int32) else (if p4 = (0 : Int32) then (1 : Int32) else p4))), .val (.ref b1), .val (.ref b5), .val (.int (if (p5 &&& (15 : Int32)) = (0 : Int32) then (1 : Int32) else (0 : Int32))), .val .null, .val (.ref bi9)] [])) _
    refine XS.aload X14.here hx rfl (hb hby at_180) rfl rfl ?_
    show Steps p.tables e below (T14.setTop (mkF m 182 #[.val (.int p0), .val (.int p1), .val (.int p2), .val (.int p3), .val (.int p4), .val (.int p5), .val (.int (if p4 = (0 : Int32) then (1 : Int32) else p4)), .val (.int (if (p5 &&& (1 : Int32)) = (0 : Int32) then (0 : Int32) else (if p4 = (0 : Int32) then (1 : Int32) else p4))), .val (.int (if (p5 &&& (2 : Int32)) = (0 : Int32) then (0 : Int32) else (if p4 = (0 : Int32) then (1 : Int32) else p4))), .val (.int (if (p5 &&& (4 : Int32)) = (0 : Int32) then (0 : Int32) else (if p4 = (0 : Int32) then (1 : Int32) else p4))), .val (.int (if (p5 &&& (8 : Int32)) = (0 : Int32) then (0 : Int32) else (if p4 = (0 : Int32) then (1 : Int32) else p4))), .val (.ref b1), .val (.ref b5), .val (.int (if (p5 &&& (15 : Int32)) = (0 : Int32) then (1 : Int32) else (0 : Int32))), .val .null, .val (.ref bi9)] [(.ref b1)])) _
    refine XS.aload X14.here hx rfl (hb hby at_182) rfl rfl ?_
    show Steps p.tables e below (T14.setTop (mkF m 184 #[.val (.int p0), .val (.int p1), .val (.int p2), .val (.int p3), .val (.int p4), .val (.int p5), .val (.int (if p4 = (0 : Int32) then (1 : Int32) else p4)), .val (.int (if (p5 &&& (1 : Int32)) = (0 : Int32) then (0 : Int32) else (if p4 = (0 : Int32) then (1 : Int32) else p4))), .val (.int (if (p5 &&& (2 : Int32)) = (0 : Int32) then (0 : Int32) else (if p4 = (0 : Int32) then (1 : Int32) else p4))), .val (.int (if (p5 &&& (4 : Int32)) = (0 : Int32) then (0 : Int32) else (if p4 = (0 : Int32) then (1 : Int32) else p4))), .val (.int (if (p5 &&& (8 : Int32)) = (0 : Int32) then (0 : Int32) else (if p4 = (0 : Int32) then (1 : Int32) else p4))), .val (.ref b1), .val (.ref b5), .val (.int (if (p5 &&& (15 : Int32)) = (0 : Int32) then (1 : Int32) else (0 : Int32))), .val .null, .val (.ref bi9)] [(.ref bi9), (.ref b1)])) _
    exact kZ
  obtain ⟨cq15, kq15, q15a, q15b, q15c⟩ := isOf hZ e14 c10_4
  obtain ⟨_, _, ⟨T15, L15, k15, n15⟩, -, X15, ⟨Lc15, hQ15, l15, y15, z15⟩, st15⟩ := X14.virtualBack hx (y := (⟨"com/example/ltlconv/ltlconv/ldba/RecurrenceParts$State", "equals", "(Ljava/lang/Object;)Z"⟩ : MethodName)) (z := (⟨"com/example/ltlconv/ltlconv/ldba/RecurrenceParts$State", "equals", "(Ljava/lang/Object;)Z"⟩ : MethodName)) hown (mvT hZ (hw _ (List.mem_of_getElem? (i := 24) rfl))) (mvT hZ (hw _ (List.mem_of_getElem? (i := 25) rfl))) (notFace_of_selects (args := #[]) (mvT hZ (hw _ (List.mem_of_getElem? (i := 27) rfl)))) (mvT hZ (hw _ (List.mem_of_getElem? (i := 27) rfl))) (mvT hZ (hw _ (List.mem_of_getElem? (i := 26) rfl))) (by decide) (backOf (W := 0) (rm4i l Z a0 hw [] b1 bi9 T9.heap n0 Z9 Ei9) hZ (hw _ (List.mem_of_getElem? (i := 28) rfl)) (hw _ (List.mem_of_getElem? (i := 2) rfl)) (by decide) (by decide)) q15a q15c (g := (mkF m 184 #[.val (.int p0), .val (.int p1), .val (.int p2), .val (.int p3), .val (.int p4), .val (.int p5), .val (.int (if p4 = (0 : Int32) then (1 : Int32) else p4)), .val (.int (if (p5 &&& (1 : Int32)) = (0 : Int32) then (0 : Int32) else (if p4 = (0 : Int32) then (1 : Int32) else p4))), .val (.int (if (p5 &&& (2 : Int32)) = (0 : Int32) then (0 : Int32) else (if p4 = (0 : Int32) then (1 : Int32) else p4))), .val (.int (if (p5 &&& (4 : Int32)) = (0 : Int32) then (0 : Int32) else (if p4 = (0 : Int32) then (1 : Int32) else p4))), .val (.int (if (p5 &&& (8 : Int32)) = (0 : Int32) then (0 : Int32) else (if p4 = (0 : Int32) then (1 : Int32) else p4))), .val (.ref b1), .val (.ref b5), .val (.int (if (p5 &&& (15 : Int32)) = (0 : Int32) then (1 : Int32) else (0 : Int32))), .val .null, .val (.ref bi9)] [(.ref bi9), (.ref b1)])) rfl (by rw [hml]; rfl) (Steps.refl _) (argsL := [(.ref bi9)]) (rest := []) (lenOf pd_3 rfl) rfl (by show 2 * 0 + _ ≤ _; exact Nat.le_of_eq rfl) (hb hby at_184) (fun _ _ => ⟨rfl, e14, (by decide : 0 + 1 + 0 + 1 + 0 + 1 + 0 + 0 + 0 + 0 + 0 ≤ _), (by decide : 0 + 4 + 0 + 4 + 0 + 1 + 0 + 0 + 0 + 0 + 0 ≤ _)⟩)
  dsimp only [Pt.U, Pt.locs, Pt.cells, Pt.slots] at X15 l15 y15 z15 st15 hQ15
  subst l15 y15 z15
  obtain ⟨rfl, N15q, e15⟩ := hQ15
  have N15 := Fr.app N14 N15q
  refine Go.via (fun t k => st15.trans k) ?_
  show Go p e below _ (T15.setTop (mkF m 187 #[.val (.int p0), .val (.int p1), .val (.int p2), .val (.int p3), .val (.int p4), .val (.int p5), .val (.int (if p4 = (0 : Int32) then (1 : Int32) else p4)), .val (.int (if (p5 &&& (1 : Int32)) = (0 : Int32) then (0 : Int32) else (if p4 = (0 : Int32) then (1 : Int32) else p4))), .val (.int (if (p5 &&& (2 : Int32)) = (0 : Int32) then (0 : Int32) else (if p4 = (0 : Int32) then (1 : Int32) else p4))), .val (.int (if (p5 &&& (4 : Int32)) = (0 : Int32) then (0 : Int32) else (if p4 = (0 : Int32) then (1 : Int32) else p4))), .val (.int (if (p5 &&& (8 : Int32)) = (0 : Int32) then (0 : Int32) else (if p4 = (0 : Int32) then (1 : Int32) else p4))), .val (.ref b1), .val (.ref b5), .val (.int (if (p5 &&& (15 : Int32)) = (0 : Int32) then (1 : Int32) else (0 : Int32))), .val .null, .val (.ref bi9)] [(.int (0 : Int32))]))
  refine Go.via (T' := T15.setTop (mkF m 195 #[.val (.int p0), .val (.int p1), .val (.int p2), .val (.int p3), .val (.int p4), .val (.int p5), .val (.int (if p4 = (0 : Int32) then (1 : Int32) else p4)), .val (.int (if (p5 &&& (1 : Int32)) = (0 : Int32) then (0 : Int32) else (if p4 = (0 : Int32) then (1 : Int32) else p4))), .val (.int (if (p5 &&& (2 : Int32)) = (0 : Int32) then (0 : Int32) else (if p4 = (0 : Int32) then (1 : Int32) else p4))), .val (.int (if (p5 &&& (4 : Int32)) = (0 : Int32) then (0 : Int32) else (if p4 = (0 : Int32) then (1 : Int32) else p4))), .val (.int (if (p5 &&& (8 : Int32)) = (0 : Int32) then (0 : Int32) else (if p4 = (0 : Int32) then (1 : Int32) else p4))), .val (.ref b1), .val (.ref b5), .val (.int (if (p5 &&& (15 : Int32)) = (0 : Int32) then (1 : Int32) else (0 : Int32))), .val .null, .val (.ref bi9)] [(.int (1 : Int32))])) (fun tZ kZ => ?_) ?_
  · show Steps p.tables e below (T15.setTop (mkF m 187 #[.val (.int p0), .val (.int p1), .val (.int p2), .val (.int p3), .val (.int p4), .val (.int p5), .val (.int (if p4 = (0 : Int32) then (1 : Int32) else p4)), .val (.int (if (p5 &&& (1 : Int32)) = (0 : Int32) then (0 : Int32) else (if p4 = (0 : Int32) then (1 : Int32) else p4))), .val (.int (if (p5 &&& (2 : Int32)) = (0 : Int32) then (0 : Int32) else (if p4 = (0 : Int32) then (1 : Int32) else p4))), .val (.int (if (p5 &&& (4 : Int32)) = (0 : Int32) then (0 : Int32) else (if p4 = (0 : Int32) then (1 : Int32) else p4))), .val (.int (if (p5 &&& (8 : Int32)) = (0 : Int32) then (0 : Int32) else (if p4 = (0 : Int32) then (1 : Int32) else p4))), .val (.ref b1), .val (.ref b5), .val (.int (if (p5 &&& (15 : Int32)) = (0 : Int32) then (1 : Int32) else (0 : Int32))), .val .null, .val (.ref bi9)] [(.int (0 : Int32))])) _
    refine XS.ifNo X15.here hx rfl (hb hby at_187) rfl ((if0 _ _).trans (teq (by decide)).2) ?_
    show Steps p.tables e below (T15.setTop (mkF m 190 #[.val (.int p0), .val (.int p1), .val (.int p2), .val (.int p3), .val (.int p4), .val (.int p5), .val (.int (if p4 = (0 : Int32) then (1 : Int32) else p4)), .val (.int (if (p5 &&& (1 : Int32)) = (0 : Int32) then (0 : Int32) else (if p4 = (0 : Int32) then (1 : Int32) else p4))), .val (.int (if (p5 &&& (2 : Int32)) = (0 : Int32) then (0 : Int32) else (if p4 = (0 : Int32) then (1 : Int32) else p4))), .val (.int (if (p5 &&& (4 : Int32)) = (0 : Int32) then (0 : Int32) else (if p4 = (0 : Int32) then (1 : Int32) else p4))), .val (.int (if (p5 &&& (8 : Int32)) = (0 : Int32) then (0 : Int32) else (if p4 = (0 : Int32) then (1 : Int32) else p4))), .val (.ref b1), .val (.ref b5), .val (.int (if (p5 &&& (15 : Int32)) = (0 : Int32) then (1 : Int32) else (0 : Int32))), .val .null, .val (.ref bi9)] [])) _
    refine XS.iconst X15.here hx rfl (hb hby at_190) ?_
    show Steps p.tables e below (T15.setTop (mkF m 191 #[.val (.int p0), .val (.int p1), .val (.int p2), .val (.int p3), .val (.int p4), .val (.int p5), .val (.int (if p4 = (0 : Int32) then (1 : Int32) else p4)), .val (.int (if (p5 &&& (1 : Int32)) = (0 : Int32) then (0 : Int32) else (if p4 = (0 : Int32) then (1 : Int32) else p4))), .val (.int (if (p5 &&& (2 : Int32)) = (0 : Int32) then (0 : Int32) else (if p4 = (0 : Int32) then (1 : Int32) else p4))), .val (.int (if (p5 &&& (4 : Int32)) = (0 : Int32) then (0 : Int32) else (if p4 = (0 : Int32) then (1 : Int32) else p4))), .val (.int (if (p5 &&& (8 : Int32)) = (0 : Int32) then (0 : Int32) else (if p4 = (0 : Int32) then (1 : Int32) else p4))), .val (.ref b1), .val (.ref b5), .val (.int (if (p5 &&& (15 : Int32)) = (0 : Int32) then (1 : Int32) else (0 : Int32))), .val .null, .val (.ref bi9)] [(.int (1 : Int32))])) _
    refine XS.goto X15.here hx rfl (pc0 := 191) (pc' := 195) rfl (hb hby at_191) (by decide) (by decide) ?_
    show Steps p.tables e below (T15.setTop (mkF m 195 #[.val (.int p0), .val (.int p1), .val (.int p2), .val (.int p3), .val (.int p4), .val (.int p5), .val (.int (if p4 = (0 : Int32) then (1 : Int32) else p4)), .val (.int (if (p5 &&& (1 : Int32)) = (0 : Int32) then (0 : Int32) else (if p4 = (0 : Int32) then (1 : Int32) else p4))), .val (.int (if (p5 &&& (2 : Int32)) = (0 : Int32) then (0 : Int32) else (if p4 = (0 : Int32) then (1 : Int32) else p4))), .val (.int (if (p5 &&& (4 : Int32)) = (0 : Int32) then (0 : Int32) else (if p4 = (0 : Int32) then (1 : Int32) else p4))), .val (.int (if (p5 &&& (8 : Int32)) = (0 : Int32) then (0 : Int32) else (if p4 = (0 : Int32) then (1 : Int32) else p4))), .val (.ref b1), .val (.ref b5), .val (.int (if (p5 &&& (15 : Int32)) = (0 : Int32) then (1 : Int32) else (0 : Int32))), .val .null, .val (.ref bi9)] [(.int (1 : Int32))])) _
    exact kZ
  refine Go.retN X15 hx Bd.notSynchronized (t := .boolean) Bd.returns (by simp) (hb hby at_195) (by decide) (by decide) ?_
  exact ⟨rfl, N15⟩
set_option maxRecDepth 65536 in
set_option maxHeartbeats 40000000 in
theorem comes_1 {Post : Tables → Env → Array Value → State → Outcome → State → Prop} (hpost : ∀ tb e args s v u, (limb_1_1.after args s (.returned v) u = true ∧ limb_1_2.after args s (.returned v) u = true ∧ True) → FrameEnd s (.returned v) u (Jvm.fieldLocs frame_1_writes args s ++ Jvm.arrayLocs frame_1_arrays args s ++ Jvm.staticLocs frame_1_statics s) 16 128 → Post tb e args s (.returned v) u) :
    ArmFor flags0 classFile x code maxLocals ret World_1 tables_1 room_1 Calls_1 rest_1 Pre_1 Post := by
  intro l hfl _ _ p e ha hc hk s m args below hf hA hF happ hP
  obtain ⟨hcalls, hrest, hpre⟩ := hP
  obtain ⟨-, -, -, hnamed, -, -, -, hat⟩ := (Spec.applies_iff hf).mp happ
  obtain ⟨hg, hn⟩ := and_e (Cond.before_iff.mp (show (Jvm.Cond.and given_1 narrow_1).before args s = true from hpre))
  obtain ⟨g1, g2⟩ := and_e hg
  obtain ⟨g3, g4⟩ := and_e g2
  obtain ⟨g5, g6⟩ := and_e g4
  obtain ⟨g7, g8⟩ := and_e g6
  obtain ⟨g9, g10⟩ := and_e g8
  obtain ⟨g11, g12⟩ := and_e g10
  obtain ⟨w0, w1, w2, w3, w4, w5, rfl⟩ : ∃ w0 w1 w2 w3 w4 w5 : Value, args = #[w0, w1, w2, w3, w4, w5] := by
    have hs : args.size = 6 := by simpa [Cond.value, given_1] using g1
    obtain ⟨L⟩ := args
    match L, hs with
    | [w0, w1, w2, w3, w4, w5], _ => exact ⟨w0, w1, w2, w3, w4, w5, rfl⟩
  have hw := fun d (hd : d ∈ tables_1) => atoms_spec (ws := Jvm.Cond.code x code maxLocals ret :: tables_1) hat d (List.mem_cons_of_mem _ hd)
  have hfit : Fit s := fun {y c} hc i hi => by
    obtain ⟨ha, rfl⟩ := Array.getElem?_eq_some_iff.mp hc
    have q := List.all_eq_true.mp ((Array.all_eq_true_iff_forall_mem.mp hF) _ (Array.getElem_mem ha)) i (List.mem_range.mpr hi)
    simpa [Array.getElem?_eq_getElem hi] using q
  obtain ⟨hsets, hown0⟩ := atoms_of _ (rest_1_c_eq ▸ (show rest_1_c.before _ s = true from hrest))
  have hr0 := Cond.before_iff.mp hown0
  obtain ⟨i0, ei0⟩ := is_v g3
  obtain rfl : w0 = (.int i0) := Option.some.inj ei0
  obtain ⟨i1, ei1⟩ := is_v g5
  obtain rfl : w1 = (.int i1) := Option.some.inj ei1
  obtain ⟨i2, ei2⟩ := is_v g7
  obtain rfl : w2 = (.int i2) := Option.some.inj ei2
  obtain ⟨i3, ei3⟩ := is_v g9
  obtain rfl : w3 = (.int i3) := Option.some.inj ei3
  obtain ⟨i4, ei4⟩ := is_v g11
  obtain rfl : w4 = (.int i4) := Option.some.inj ei4
  obtain ⟨i5, ei5⟩ := is_v g12
  obtain rfl : w5 = (.int i5) := Option.some.inj ei5
  have evH : (Term.static "java/lang/Integer$IntegerCache" "high" "I").eval #[.int i0, .int i1, .int i2, .int i3, .int i4, .int i5] s none [] s = some (.int 127) := own_eqi (Cond.before_iff.mp (hsets _ (List.mem_of_getElem? (i := 3) rfl)))
  have SH : Sta s s.heap "java/lang/Integer$IntegerCache" "high" "I" (.int (127 : Int32)) := Sta.start evH (Or.inl (hsets _ (List.mem_of_getElem? (i := 1) rfl)))
  obtain ⟨aK, evK⟩ := exa_v (Cond.before_iff.mp (hsets _ (List.mem_of_getElem? (i := 5) rfl)))
  have SC : Sta s s.heap "java/lang/Integer$IntegerCache" "cache" "[Ljava/lang/Integer;" (.ref aK) := Sta.start evK (Or.inr ⟨(hw _ (List.mem_of_getElem? (i := 22) rfl)), (hsets _ (List.mem_of_getElem? (i := 2) rfl))⟩)
  obtain ⟨cK, A_K⟩ := Arr.start evK (Cond.before_iff.mp (hsets _ (List.mem_of_getElem? (i := 4) rfl)))
  have evL := own_eqi (Cond.before_iff.mp (hsets _ (List.mem_of_getElem? (i := 6) rfl)))
  obtain ⟨szK, lenK⟩ := own_len31 evK A_K evL
  obtain ⟨val, hBx⟩ : ∃ val, Bxs s aK cK "java/lang/Integer" "I" (256 : Int32) val := ⟨fun j => .int (j - 128), Bxs.start (fun idx => evK) A_K szK lenK (by decide) (Cond.before_iff.mp (hsets _ (List.mem_of_getElem? (i := 7) rfl))) (fun X j hj h => eqv_i (own_sub128 j hj) h)⟩
  obtain ⟨n, o, h1, h2, h3, _, L, rfl, ⟨rfl, N⟩, hq⟩ := rm0 l s _ hw tables_1 i0 i1 i2 i3 i4 i5 aK cK val s.heap s.heap.size (Nat.le_refl _) SH SC (Old.start s) hBx p e ha hc hk s m _ below hf ((Spec.applies_iff_loose hf).mp happ).1 ⟨rfl, State.Warmed39.refl s, rfl⟩ trivial
  refine ⟨n, _, h1, h2, h3, hpost _ _ _ _ _ _ ⟨Cond.after_iff.mpr rfl, Cond.after_iff.mpr (eq_i res_at (Term.int_eval (1)) rfl), trivial⟩ ⟨hq.1, hq.2.1, (hq.2.2.sift fun y hy => Or.inr (N y hy)).mono (by decide) (by decide)⟩⟩
theorem main_1_1 : Claimed_1_1 := comes_1 fun _ _ _ _ _ _ h hF => ⟨h.1, hF⟩
theorem main_1_2 : Claimed_1_2 := comes_1 fun _ _ _ _ _ _ h hF => ⟨h.2.1, hF⟩
end Jvm.Pilot.@@N@@
namespace Jvm.Pilot.@@N@@
open Jvm Jvm.ClassFile Sem Op Lib Jvm.Free Jvm.Stand Jvm.Pilot.@@N@@.Jvm.D
/-! MADE BY PROGRAM (witnessworld.py) out of the Statement's table words and the real class files: 16 classes; the members and pool entries that the words name. The judged class is class 1, her method 1. -/
namespace start1
open Jvm.ClassFile
def u (s : String) : CpInfo := .utf8 (stringToUtf16 s)
/-- a pool by its gaps: so many unusable entries, then the entry; so many at the end -/
def gap : Nat → List CpInfo → List CpInfo
  | 0, r => r
  | n + 1, r => .unusable :: gap n r
def poolList (es : List (Nat × CpInfo)) (last : Nat) : List CpInfo := es.foldr (fun e r => gap e.1 (e.2 :: r)) (gap last [])
def pool (es : List (Nat × CpInfo)) (last : Nat) : Array CpInfo := ⟨poolList es last⟩
def fileOf (pool : Array CpInfo) (this : Nat) (attrs : Array Attribute := #[]) (ms : Array MethodInfo := #[]) (fl : Nat := 33) (sup : Nat := 0) (ifs : Array Nat := #[]) (fds : Array FieldInfo := #[]) : ClassFile where
  minorVersion := 0
  majorVersion := 65
  constantPool := pool
  accessFlags := fl
  thisClass := this
  superClass := sup
  interfaces := ifs
  fields := fds
  methods := ms
  attributes := attrs
def plain (name : String) (sup : Option ClassId) : Class where
  name := name
  kind := .ordinary
  loader := none
  accessFlags := 33
  super := sup
  interfaces := #[]
  cf := none
  fields := #[]
  methods := #[]
  instanceTypes := #[]
  staticTypes := #[]
  resolved := #[]
  callSites := []
  init := .initialized
  statics := none
  mirror := none

def pool0 : Array CpInfo := pool [(5, u "<init>"), (0, u "()V"), (1, .class_ 10), (1, u "java/lang/Object")] 113

def k0c0 : Code := { maxStack := 0, maxLocals := 1, code := object_method_1_code, exceptionTable := #[], attributes := #[] }
def k0m0 : Method := { name := "<init>", desc := "()V", sig := { parameters := [], returnType := none }, accessFlags := 1, code := some k0c0 }
/-- java/lang/Object -/
def k0 : Class := { plain "java/lang/Object" none with
  accessFlags := 33
  interfaces := #[]
  cf := some (fileOf pool0 8 #[] #[{ accessFlags := 1, nameIndex := 5, descriptorIndex := 6, attributes := #[] }] 33 0 #[] #[])
  fields := #[]
  methods := #[k0m0]
  instanceTypes := #[]
  staticTypes := #[]
  resolved := Array.replicate 124 none
  statics := none }

def pool1 : Array CpInfo := pool [(2, .class_ 4), (1, u "java/lang/Object"), (0, u "<init>"), (0, u "()V"), (0, .class_ 8), (0, u "com/example/ltlconv/ltlconv/ldba/RecurrenceParts$State"), (0, .methodref 7 10), (0, .nameAndType 5 11), (0, u "(IIII)V"), (0, .methodref 13 14), (0, .class_ 15), (0, .nameAndType 16 17), (0, u "java/lang/Integer"), (0, u "valueOf"), (0, u "(I)Ljava/lang/Integer;"), (0, .methodref 7 19), (0, .nameAndType 20 21), (0, u "equals"), (0, u "(Ljava/lang/Object;)Z"), (0, .class_ 23), (0, u "com/example/ltlconv/ltlconv/ldba/StateEqualsPinLaw"), (2, u "law"), (0, u "(IIIIII)Z")] 7

def k1m0 : Method := { name := "<init>", desc := "()V", sig := { parameters := [], returnType := none }, accessFlags := 1, code := none }
def k1c1 : Code := { maxStack := 7, maxLocals := 16, code := code, exceptionTable := #[], attributes := #[] }
def k1m1 : Method := { name := "law", desc := "(IIIIII)Z", sig := { parameters := [.int, .int, .int, .int, .int, .int], returnType := some .boolean }, accessFlags := 9, code := some k1c1 }
/-- com/example/ltlconv/ltlconv/ldba/StateEqualsPinLaw -/
def k1 : Class := { plain "com/example/ltlconv/ltlconv/ldba/StateEqualsPinLaw" (some 0) with
  accessFlags := 49
  interfaces := #[]
  cf := some (fileOf pool1 22 #[] #[{ accessFlags := 1, nameIndex := 5, descriptorIndex := 6, attributes := #[] }, { accessFlags := 9, nameIndex := 26, descriptorIndex := 27, attributes := #[] }] 49 2 #[] #[])
  fields := #[]
  methods := #[k1m0, k1m1]
  instanceTypes := #[]
  staticTypes := #[]
  resolved := Array.replicate 35 none
  statics := none }

def pool2 : Array CpInfo := pool [(1, .methodref 2 3), (0, .class_ 4), (0, .nameAndType 5 6), (0, u "java/lang/Object"), (0, u "<init>"), (0, u "()V"), (0, .fieldref 8 9), (0, .class_ 10), (0, .nameAndType 11 12), (0, u "com/example/ltlconv/ltlconv/ldba/RecurrenceParts$State"), (0, u "safety"), (0, u "I"), (0, .fieldref 8 14), (0, .nameAndType 15 12), (0, u "recurrences"), (0, .fieldref 8 17), (0, .nameAndType 18 12), (0, u "awaited"), (0, .fieldref 8 20), (0, .nameAndType 21 12), (0, u "progress"), (6, u "(IIII)V"), (2, u "equals"), (0, u "(Ljava/lang/Object;)Z"), (5, .class_ 39), (0, u "com/example/ltlconv/ltlconv/ldba/RecurrenceParts")] 2

def k2c0 : Code := { maxStack := 2, maxLocals := 5, code := prog_94_method_1_code, exceptionTable := #[], attributes := #[] }
def k2m0 : Method := { name := "<init>", desc := "(IIII)V", sig := { parameters := [.int, .int, .int, .int], returnType := none }, accessFlags := 0, code := some k2c0 }
def k2c1 : Code := { maxStack := 2, maxLocals := 3, code := prog_94_method_2_code, exceptionTable := #[], attributes := #[] }
def k2m1 : Method := { name := "equals", desc := "(Ljava/lang/Object;)Z", sig := { parameters := [(.object "java/lang/Object")], returnType := some .boolean }, accessFlags := 1, code := some k2c1 }
/-- com/example/ltlconv/ltlconv/ldba/RecurrenceParts$State -/
def k2 : Class := { plain "com/example/ltlconv/ltlconv/ldba/RecurrenceParts$State" (some 0) with
  accessFlags := 48
  interfaces := #[]
  cf := some (fileOf pool2 8 #[.nestHost 38] #[{ accessFlags := 0, nameIndex := 5, descriptorIndex := 28, attributes := #[] }, { accessFlags := 1, nameIndex := 31, descriptorIndex := 32, attributes := #[] }] 48 2 #[] #[{ accessFlags := 18, nameIndex := 11, descriptorIndex := 12, attributes := #[] }, { accessFlags := 18, nameIndex := 15, descriptorIndex := 12, attributes := #[] }, { accessFlags := 18, nameIndex := 18, descriptorIndex := 12, attributes := #[] }, { accessFlags := 18, nameIndex := 21, descriptorIndex := 12, attributes := #[] }])
  fields := #[{ name := "safety", type := .int, accessFlags := 18, slot := 0, constantValue := 0 }, { name := "recurrences", type := .int, accessFlags := 18, slot := 1, constantValue := 0 }, { name := "awaited", type := .int, accessFlags := 18, slot := 2, constantValue := 0 }, { name := "progress", type := .int, accessFlags := 18, slot := 3, constantValue := 0 }]
  methods := #[k2m0, k2m1]
  instanceTypes := #[.int, .int, .int, .int]
  staticTypes := #[]
  resolved := Array.replicate 42 none
  statics := none }

def pool3 : Array CpInfo := pool [(1, .class_ 2), (0, u "java/io/Serializable"), (0, .class_ 4), (0, u "java/lang/Object")] 2

/-- java/io/Serializable -/
def k3 : Class := { plain "java/io/Serializable" (some 0) with
  accessFlags := 1537
  interfaces := #[]
  cf := some (fileOf pool3 1 #[] #[] 1537 3 #[] #[])
  fields := #[]
  methods := #[]
  instanceTypes := #[]
  staticTypes := #[]
  resolved := Array.replicate 7 none
  statics := none }

def pool4 : Array CpInfo := pool [(1, .methodref 2 3), (0, .class_ 4), (0, .nameAndType 5 6), (0, u "java/lang/Object"), (0, u "<init>"), (0, u "()V"), (1, .class_ 10), (1, u "java/lang/Number"), (2, .class_ 14), (0, u "java/io/Serializable"), (0, u "serialVersionUID"), (0, u "J")] 20

def k4c0 : Code := { maxStack := 1, maxLocals := 1, code := jdk_18_method_1_code, exceptionTable := #[], attributes := #[] }
def k4m0 : Method := { name := "<init>", desc := "()V", sig := { parameters := [], returnType := none }, accessFlags := 1, code := some k4c0 }
/-- java/lang/Number -/
def k4 : Class := { plain "java/lang/Number" (some 0) with
  accessFlags := 1057
  interfaces := #[3]
  cf := some (fileOf pool4 8 #[] #[{ accessFlags := 1, nameIndex := 5, descriptorIndex := 6, attributes := #[] }] 1057 2 #[13] #[{ accessFlags := 26, nameIndex := 15, descriptorIndex := 16, attributes := #[] }])
  fields := #[{ name := "serialVersionUID", type := .long, accessFlags := 26, slot := 0, constantValue := 0 }]
  methods := #[k4m0]
  instanceTypes := #[]
  staticTypes := #[.long]
  resolved := Array.replicate 37 none
  statics := none }

def pool5 : Array CpInfo := pool [(1, .class_ 2), (0, u "java/lang/Comparable"), (0, .class_ 4), (0, u "java/lang/Object")] 7

/-- java/lang/Comparable -/
def k5 : Class := { plain "java/lang/Comparable" (some 0) with
  accessFlags := 1537
  interfaces := #[]
  cf := some (fileOf pool5 1 #[] #[] 1537 3 #[] #[])
  fields := #[]
  methods := #[]
  instanceTypes := #[]
  staticTypes := #[]
  resolved := Array.replicate 12 none
  statics := none }

def pool6 : Array CpInfo := pool [(1, .class_ 2), (0, u "java/lang/constant/Constable"), (0, .class_ 4), (0, u "java/lang/Object")] 6

/-- java/lang/constant/Constable -/
def k6 : Class := { plain "java/lang/constant/Constable" (some 0) with
  accessFlags := 1537
  interfaces := #[]
  cf := some (fileOf pool6 1 #[] #[] 1537 3 #[] #[])
  fields := #[]
  methods := #[]
  instanceTypes := #[]
  staticTypes := #[]
  resolved := Array.replicate 11 none
  statics := none }

def pool7 : Array CpInfo := pool [(1, .class_ 2), (0, u "java/lang/constant/ConstantDesc"), (0, .class_ 4), (0, u "java/lang/Object")] 32

/-- java/lang/constant/ConstantDesc -/
def k7 : Class := { plain "java/lang/constant/ConstantDesc" (some 0) with
  accessFlags := 1537
  interfaces := #[]
  cf := some (fileOf pool7 1 #[] #[] 1537 3 #[] #[])
  fields := #[]
  methods := #[]
  instanceTypes := #[]
  staticTypes := #[]
  resolved := Array.replicate 37 none
  statics := none }

def pool8 : Array CpInfo := pool [(1, .class_ 2), (0, u "java/lang/Integer"), (16, u "digits"), (0, u "[C"), (46, u "<init>"), (17, u "DigitOnes"), (0, u "[B"), (2, u "DigitTens"), (10, .nameAndType 67 101), (0, u "()V"), (85, u "valueOf"), (0, u "(I)Ljava/lang/Integer;"), (0, .class_ 190), (0, u "java/lang/Integer$IntegerCache"), (0, .fieldref 189 192), (0, .nameAndType 193 194), (0, u "high"), (0, u "I"), (0, .fieldref 189 196), (0, .nameAndType 197 198), (0, u "cache"), (0, u "[Ljava/lang/Integer;"), (0, .methodref 1 200), (0, .nameAndType 67 201), (0, u "(I)V"), (0, .methodref 203 100), (0, .class_ 204), (0, u "java/lang/Number"), (0, .fieldref 1 206), (0, .nameAndType 207 194), (0, u "value"), (94, u "TYPE"), (0, u "Ljava/lang/Class;"), (0, .class_ 305), (0, u "java/lang/Comparable"), (0, .class_ 307), (0, u "java/lang/constant/Constable"), (0, .class_ 309), (0, u "java/lang/constant/ConstantDesc"), (0, u "MIN_VALUE"), (1, u "MAX_VALUE"), (3, u "SIZE"), (1, u "BYTES"), (1, u "serialVersionUID"), (0, u "J")] 131

def k8c0 : Code := { maxStack := 3, maxLocals := 1, code := jdk_33_method_22_code, exceptionTable := #[], attributes := #[] }
def k8m0 : Method := { name := "valueOf", desc := "(I)Ljava/lang/Integer;", sig := { parameters := [.int], returnType := some (.object "java/lang/Integer") }, accessFlags := 9, code := some k8c0 }
def k8c1 : Code := { maxStack := 2, maxLocals := 2, code := jdk_33_method_23_code, exceptionTable := #[], attributes := #[] }
def k8m1 : Method := { name := "<init>", desc := "(I)V", sig := { parameters := [.int], returnType := none }, accessFlags := 1, code := some k8c1 }
/-- java/lang/Integer -/
def k8 : Class := { plain "java/lang/Integer" (some 4) with
  accessFlags := 49
  interfaces := #[5, 6, 7]
  cf := some (fileOf pool8 1 #[.nestMembers #[189]] #[{ accessFlags := 9, nameIndex := 187, descriptorIndex := 188, attributes := #[] }, { accessFlags := 1, nameIndex := 67, descriptorIndex := 201, attributes := #[] }] 49 203 #[304, 306, 308] #[{ accessFlags := 25, nameIndex := 310, descriptorIndex := 194, attributes := #[] }, { accessFlags := 25, nameIndex := 312, descriptorIndex := 194, attributes := #[] }, { accessFlags := 25, nameIndex := 302, descriptorIndex := 303, attributes := #[] }, { accessFlags := 24, nameIndex := 19, descriptorIndex := 20, attributes := #[] }, { accessFlags := 24, nameIndex := 89, descriptorIndex := 86, attributes := #[] }, { accessFlags := 24, nameIndex := 85, descriptorIndex := 86, attributes := #[] }, { accessFlags := 18, nameIndex := 207, descriptorIndex := 194, attributes := #[] }, { accessFlags := 25, nameIndex := 316, descriptorIndex := 194, attributes := #[] }, { accessFlags := 25, nameIndex := 318, descriptorIndex := 194, attributes := #[] }, { accessFlags := 26, nameIndex := 320, descriptorIndex := 321, attributes := #[] }])
  fields := #[{ name := "MIN_VALUE", type := .int, accessFlags := 25, slot := 0, constantValue := 0 }, { name := "MAX_VALUE", type := .int, accessFlags := 25, slot := 1, constantValue := 0 }, { name := "TYPE", type := (.object "java/lang/Class"), accessFlags := 25, slot := 2, constantValue := 0 }, { name := "digits", type := (.array .char), accessFlags := 24, slot := 3, constantValue := 0 }, { name := "DigitTens", type := (.array .byte), accessFlags := 24, slot := 4, constantValue := 0 }, { name := "DigitOnes", type := (.array .byte), accessFlags := 24, slot := 5, constantValue := 0 }, { name := "value", type := .int, accessFlags := 18, slot := 0, constantValue := 0 }, { name := "SIZE", type := .int, accessFlags := 25, slot := 6, constantValue := 0 }, { name := "BYTES", type := .int, accessFlags := 25, slot := 7, constantValue := 0 }, { name := "serialVersionUID", type := .long, accessFlags := 26, slot := 8, constantValue := 0 }]
  methods := #[k8m0, k8m1]
  instanceTypes := #[.int]
  staticTypes := #[.int, .int, (.object "java/lang/Class"), (.array .char), (.array .byte), (.array .byte), .int, .int, .long]
  resolved := Array.replicate 453 none
  statics := none }

def pool9 : Array CpInfo := pool [(2, .class_ 4), (1, u "java/lang/Object"), (0, u "<init>"), (0, u "()V"), (0, .class_ 8), (0, u "java/lang/Integer"), (7, .class_ 18), (1, u "java/lang/Integer$IntegerCache"), (0, u "$assertionsDisabled"), (0, u "Z"), (26, u "high"), (0, u "I"), (8, u "archivedCache"), (0, u "[Ljava/lang/Integer;"), (12, u "cache"), (0, u "low")] 27

def k9m0 : Method := { name := "<init>", desc := "()V", sig := { parameters := [], returnType := none }, accessFlags := 2, code := none }
/-- java/lang/Integer$IntegerCache -/
def k9 : Class := { plain "java/lang/Integer$IntegerCache" (some 0) with
  accessFlags := 48
  interfaces := #[]
  cf := some (fileOf pool9 16 #[.nestHost 7] #[{ accessFlags := 2, nameIndex := 5, descriptorIndex := 6, attributes := #[] }] 48 2 #[] #[{ accessFlags := 24, nameIndex := 72, descriptorIndex := 48, attributes := #[] }, { accessFlags := 24, nameIndex := 47, descriptorIndex := 48, attributes := #[] }, { accessFlags := 24, nameIndex := 71, descriptorIndex := 58, attributes := #[] }, { accessFlags := 8, nameIndex := 57, descriptorIndex := 58, attributes := #[] }, { accessFlags := 4120, nameIndex := 19, descriptorIndex := 20, attributes := #[] }])
  fields := #[{ name := "low", type := .int, accessFlags := 24, slot := 0, constantValue := 0 }, { name := "high", type := .int, accessFlags := 24, slot := 1, constantValue := 0 }, { name := "cache", type := (.array (.object "java/lang/Integer")), accessFlags := 24, slot := 2, constantValue := 0 }, { name := "archivedCache", type := (.array (.object "java/lang/Integer")), accessFlags := 8, slot := 3, constantValue := 0 }, { name := "$assertionsDisabled", type := .boolean, accessFlags := 4120, slot := 4, constantValue := 0 }]
  methods := #[k9m0]
  instanceTypes := #[]
  staticTypes := #[.int, .int, (.array (.object "java/lang/Integer")), (.array (.object "java/lang/Integer")), .boolean]
  resolved := Array.replicate 100 none
  statics := some 0 }

def pool10 : Array CpInfo := pool [(1, u "java/lang/Cloneable"), (0, .class_ 1), (0, u "java/lang/Object"), (0, .class_ 3)] 3

/-- java/lang/Cloneable -/
def k10 : Class := { plain "java/lang/Cloneable" (some 0) with
  accessFlags := 1537
  interfaces := #[]
  cf := some (fileOf pool10 2 #[] #[] 1537 4 #[] #[])
  fields := #[]
  methods := #[]
  instanceTypes := #[]
  staticTypes := #[]
  resolved := Array.replicate 8 none
  statics := none }

/-- the primitive byte -/
def k11 : Class := { plain "byte" none with kind := .primitive 'B', accessFlags := 0x411 }
/-- [B -/
def k12 : Class := { plain "[B" (some 0) with kind := .array 11 .byte, interfaces := #[10, 3], accessFlags := 1041 }

/-- the primitive int -/
def k13 : Class := { plain "int" none with kind := .primitive 'I', accessFlags := 0x411 }
/-- [I -/
def k14 : Class := { plain "[I" (some 0) with kind := .array 13 .int, interfaces := #[10, 3], accessFlags := 1041 }

/-- [Ljava/lang/Integer; -/
def k15 : Class := { plain "[Ljava/lang/Integer;" (some 0) with kind := .array 8 (.object "java/lang/Integer"), interfaces := #[10, 3], accessFlags := 1041 }

def heap : Heap := #[{ cls := 9, slots := #[.int 0, .int 127, .ref 1, .null, .int 0], vm := .statics 9 },
  { cls := 15, slots := #[.ref 2, .ref 3, .ref 4, .ref 5, .ref 6, .ref 7, .ref 8, .ref 9, .ref 10, .ref 11, .ref 12, .ref 13, .ref 14, .ref 15, .ref 16, .ref 17, .ref 18, .ref 19, .ref 20, .ref 21, .ref 22, .ref 23, .ref 24, .ref 25, .ref 26, .ref 27, .ref 28, .ref 29, .ref 30, .ref 31, .ref 32, .ref 33, .ref 34, .ref 35, .ref 36, .ref 37, .ref 38, .ref 39, .ref 40, .ref 41, .ref 42, .ref 43, .ref 44, .ref 45, .ref 46, .ref 47, .ref 48, .ref 49, .ref 50, .ref 51, .ref 52, .ref 53, .ref 54, .ref 55, .ref 56, .ref 57, .ref 58, .ref 59, .ref 60, .ref 61, .ref 62, .ref 63, .ref 64, .ref 65, .ref 66, .ref 67, .ref 68, .ref 69, .ref 70, .ref 71, .ref 72, .ref 73, .ref 74, .ref 75, .ref 76, .ref 77, .ref 78, .ref 79, .ref 80, .ref 81, .ref 82, .ref 83, .ref 84, .ref 85, .ref 86, .ref 87, .ref 88, .ref 89, .ref 90, .ref 91, .ref 92, .ref 93, .ref 94, .ref 95, .ref 96, .ref 97, .ref 98, .ref 99, .ref 100, .ref 101, .ref 102, .ref 103, .ref 104, .ref 105, .ref 106, .ref 107, .ref 108, .ref 109, .ref 110, .ref 111, .ref 112, .ref 113, .ref 114, .ref 115, .ref 116, .ref 117, .ref 118, .ref 119, .ref 120, .ref 121, .ref 122, .ref 123, .ref 124, .ref 125, .ref 126, .ref 127, .ref 128, .ref 129, .ref 130, .ref 131, .ref 132, .ref 133, .ref 134, .ref 135, .ref 136, .ref 137, .ref 138, .ref 139, .ref 140, .ref 141, .ref 142, .ref 143, .ref 144, .ref 145, .ref 146, .ref 147, .ref 148, .ref 149, .ref 150, .ref 151, .ref 152, .ref 153, .ref 154, .ref 155, .ref 156, .ref 157, .ref 158, .ref 159, .ref 160, .ref 161, .ref 162, .ref 163, .ref 164, .ref 165, .ref 166, .ref 167, .ref 168, .ref 169, .ref 170, .ref 171, .ref 172, .ref 173, .ref 174, .ref 175, .ref 176, .ref 177, .ref 178, .ref 179, .ref 180, .ref 181, .ref 182, .ref 183, .ref 184, .ref 185, .ref 186, .ref 187, .ref 188, .ref 189, .ref 190, .ref 191, .ref 192, .ref 193, .ref 194, .ref 195, .ref 196, .ref 197, .ref 198, .ref 199, .ref 200, .ref 201, .ref 202, .ref 203, .ref 204, .ref 205, .ref 206, .ref 207, .ref 208, .ref 209, .ref 210, .ref 211, .ref 212, .ref 213, .ref 214, .ref 215, .ref 216, .ref 217, .ref 218, .ref 219, .ref 220, .ref 221, .ref 222, .ref 223, .ref 224, .ref 225, .ref 226, .ref 227, .ref 228, .ref 229, .ref 230, .ref 231, .ref 232, .ref 233, .ref 234, .ref 235, .ref 236, .ref 237, .ref 238, .ref 239, .ref 240, .ref 241, .ref 242, .ref 243, .ref 244, .ref 245, .ref 246, .ref 247, .ref 248, .ref 249, .ref 250, .ref 251, .ref 252, .ref 253, .ref 254, .ref 255, .ref 256, .ref 257], vm := .none },
  { cls := 8, slots := #[.int (-128)], vm := .none },
  { cls := 8, slots := #[.int (-127)], vm := .none },
  { cls := 8, slots := #[.int (-126)], vm := .none },
  { cls := 8, slots := #[.int (-125)], vm := .none },
  { cls := 8, slots := #[.int (-124)], vm := .none },
  { cls := 8, slots := #[.int (-123)], vm := .none },
  { cls := 8, slots := #[.int (-122)], vm := .none },
  { cls := 8, slots := #[.int (-121)], vm := .none },
  { cls := 8, slots := #[.int (-120)], vm := .none },
  { cls := 8, slots := #[.int (-119)], vm := .none },
  { cls := 8, slots := #[.int (-118)], vm := .none },
  { cls := 8, slots := #[.int (-117)], vm := .none },
  { cls := 8, slots := #[.int (-116)], vm := .none },
  { cls := 8, slots := #[.int (-115)], vm := .none },
  { cls := 8, slots := #[.int (-114)], vm := .none },
  { cls := 8, slots := #[.int (-113)], vm := .none },
  { cls := 8, slots := #[.int (-112)], vm := .none },
  { cls := 8, slots := #[.int (-111)], vm := .none },
  { cls := 8, slots := #[.int (-110)], vm := .none },
  { cls := 8, slots := #[.int (-109)], vm := .none },
  { cls := 8, slots := #[.int (-108)], vm := .none },
  { cls := 8, slots := #[.int (-107)], vm := .none },
  { cls := 8, slots := #[.int (-106)], vm := .none },
  { cls := 8, slots := #[.int (-105)], vm := .none },
  { cls := 8, slots := #[.int (-104)], vm := .none },
  { cls := 8, slots := #[.int (-103)], vm := .none },
  { cls := 8, slots := #[.int (-102)], vm := .none },
  { cls := 8, slots := #[.int (-101)], vm := .none },
  { cls := 8, slots := #[.int (-100)], vm := .none },
  { cls := 8, slots := #[.int (-99)], vm := .none },
  { cls := 8, slots := #[.int (-98)], vm := .none },
  { cls := 8, slots := #[.int (-97)], vm := .none },
  { cls := 8, slots := #[.int (-96)], vm := .none },
  { cls := 8, slots := #[.int (-95)], vm := .none },
  { cls := 8, slots := #[.int (-94)], vm := .none },
  { cls := 8, slots := #[.int (-93)], vm := .none },
  { cls := 8, slots := #[.int (-92)], vm := .none },
  { cls := 8, slots := #[.int (-91)], vm := .none },
  { cls := 8, slots := #[.int (-90)], vm := .none },
  { cls := 8, slots := #[.int (-89)], vm := .none },
  { cls := 8, slots := #[.int (-88)], vm := .none },
  { cls := 8, slots := #[.int (-87)], vm := .none },
  { cls := 8, slots := #[.int (-86)], vm := .none },
  { cls := 8, slots := #[.int (-85)], vm := .none },
  { cls := 8, slots := #[.int (-84)], vm := .none },
  { cls := 8, slots := #[.int (-83)], vm := .none },
  { cls := 8, slots := #[.int (-82)], vm := .none },
  { cls := 8, slots := #[.int (-81)], vm := .none },
  { cls := 8, slots := #[.int (-80)], vm := .none },
  { cls := 8, slots := #[.int (-79)], vm := .none },
  { cls := 8, slots := #[.int (-78)], vm := .none },
  { cls := 8, slots := #[.int (-77)], vm := .none },
  { cls := 8, slots := #[.int (-76)], vm := .none },
  { cls := 8, slots := #[.int (-75)], vm := .none },
  { cls := 8, slots := #[.int (-74)], vm := .none },
  { cls := 8, slots := #[.int (-73)], vm := .none },
  { cls := 8, slots := #[.int (-72)], vm := .none },
  { cls := 8, slots := #[.int (-71)], vm := .none },
  { cls := 8, slots := #[.int (-70)], vm := .none },
  { cls := 8, slots := #[.int (-69)], vm := .none },
  { cls := 8, slots := #[.int (-68)], vm := .none },
  { cls := 8, slots := #[.int (-67)], vm := .none },
  { cls := 8, slots := #[.int (-66)], vm := .none },
  { cls := 8, slots := #[.int (-65)], vm := .none },
  { cls := 8, slots := #[.int (-64)], vm := .none },
  { cls := 8, slots := #[.int (-63)], vm := .none },
  { cls := 8, slots := #[.int (-62)], vm := .none },
  { cls := 8, slots := #[.int (-61)], vm := .none },
  { cls := 8, slots := #[.int (-60)], vm := .none },
  { cls := 8, slots := #[.int (-59)], vm := .none },
  { cls := 8, slots := #[.int (-58)], vm := .none },
  { cls := 8, slots := #[.int (-57)], vm := .none },
  { cls := 8, slots := #[.int (-56)], vm := .none },
  { cls := 8, slots := #[.int (-55)], vm := .none },
  { cls := 8, slots := #[.int (-54)], vm := .none },
  { cls := 8, slots := #[.int (-53)], vm := .none },
  { cls := 8, slots := #[.int (-52)], vm := .none },
  { cls := 8, slots := #[.int (-51)], vm := .none },
  { cls := 8, slots := #[.int (-50)], vm := .none },
  { cls := 8, slots := #[.int (-49)], vm := .none },
  { cls := 8, slots := #[.int (-48)], vm := .none },
  { cls := 8, slots := #[.int (-47)], vm := .none },
  { cls := 8, slots := #[.int (-46)], vm := .none },
  { cls := 8, slots := #[.int (-45)], vm := .none },
  { cls := 8, slots := #[.int (-44)], vm := .none },
  { cls := 8, slots := #[.int (-43)], vm := .none },
  { cls := 8, slots := #[.int (-42)], vm := .none },
  { cls := 8, slots := #[.int (-41)], vm := .none },
  { cls := 8, slots := #[.int (-40)], vm := .none },
  { cls := 8, slots := #[.int (-39)], vm := .none },
  { cls := 8, slots := #[.int (-38)], vm := .none },
  { cls := 8, slots := #[.int (-37)], vm := .none },
  { cls := 8, slots := #[.int (-36)], vm := .none },
  { cls := 8, slots := #[.int (-35)], vm := .none },
  { cls := 8, slots := #[.int (-34)], vm := .none },
  { cls := 8, slots := #[.int (-33)], vm := .none },
  { cls := 8, slots := #[.int (-32)], vm := .none },
  { cls := 8, slots := #[.int (-31)], vm := .none },
  { cls := 8, slots := #[.int (-30)], vm := .none },
  { cls := 8, slots := #[.int (-29)], vm := .none },
  { cls := 8, slots := #[.int (-28)], vm := .none },
  { cls := 8, slots := #[.int (-27)], vm := .none },
  { cls := 8, slots := #[.int (-26)], vm := .none },
  { cls := 8, slots := #[.int (-25)], vm := .none },
  { cls := 8, slots := #[.int (-24)], vm := .none },
  { cls := 8, slots := #[.int (-23)], vm := .none },
  { cls := 8, slots := #[.int (-22)], vm := .none },
  { cls := 8, slots := #[.int (-21)], vm := .none },
  { cls := 8, slots := #[.int (-20)], vm := .none },
  { cls := 8, slots := #[.int (-19)], vm := .none },
  { cls := 8, slots := #[.int (-18)], vm := .none },
  { cls := 8, slots := #[.int (-17)], vm := .none },
  { cls := 8, slots := #[.int (-16)], vm := .none },
  { cls := 8, slots := #[.int (-15)], vm := .none },
  { cls := 8, slots := #[.int (-14)], vm := .none },
  { cls := 8, slots := #[.int (-13)], vm := .none },
  { cls := 8, slots := #[.int (-12)], vm := .none },
  { cls := 8, slots := #[.int (-11)], vm := .none },
  { cls := 8, slots := #[.int (-10)], vm := .none },
  { cls := 8, slots := #[.int (-9)], vm := .none },
  { cls := 8, slots := #[.int (-8)], vm := .none },
  { cls := 8, slots := #[.int (-7)], vm := .none },
  { cls := 8, slots := #[.int (-6)], vm := .none },
  { cls := 8, slots := #[.int (-5)], vm := .none },
  { cls := 8, slots := #[.int (-4)], vm := .none },
  { cls := 8, slots := #[.int (-3)], vm := .none },
  { cls := 8, slots := #[.int (-2)], vm := .none },
  { cls := 8, slots := #[.int (-1)], vm := .none },
  { cls := 8, slots := #[.int (0)], vm := .none },
  { cls := 8, slots := #[.int (1)], vm := .none },
  { cls := 8, slots := #[.int (2)], vm := .none },
  { cls := 8, slots := #[.int (3)], vm := .none },
  { cls := 8, slots := #[.int (4)], vm := .none },
  { cls := 8, slots := #[.int (5)], vm := .none },
  { cls := 8, slots := #[.int (6)], vm := .none },
  { cls := 8, slots := #[.int (7)], vm := .none },
  { cls := 8, slots := #[.int (8)], vm := .none },
  { cls := 8, slots := #[.int (9)], vm := .none },
  { cls := 8, slots := #[.int (10)], vm := .none },
  { cls := 8, slots := #[.int (11)], vm := .none },
  { cls := 8, slots := #[.int (12)], vm := .none },
  { cls := 8, slots := #[.int (13)], vm := .none },
  { cls := 8, slots := #[.int (14)], vm := .none },
  { cls := 8, slots := #[.int (15)], vm := .none },
  { cls := 8, slots := #[.int (16)], vm := .none },
  { cls := 8, slots := #[.int (17)], vm := .none },
  { cls := 8, slots := #[.int (18)], vm := .none },
  { cls := 8, slots := #[.int (19)], vm := .none },
  { cls := 8, slots := #[.int (20)], vm := .none },
  { cls := 8, slots := #[.int (21)], vm := .none },
  { cls := 8, slots := #[.int (22)], vm := .none },
  { cls := 8, slots := #[.int (23)], vm := .none },
  { cls := 8, slots := #[.int (24)], vm := .none },
  { cls := 8, slots := #[.int (25)], vm := .none },
  { cls := 8, slots := #[.int (26)], vm := .none },
  { cls := 8, slots := #[.int (27)], vm := .none },
  { cls := 8, slots := #[.int (28)], vm := .none },
  { cls := 8, slots := #[.int (29)], vm := .none },
  { cls := 8, slots := #[.int (30)], vm := .none },
  { cls := 8, slots := #[.int (31)], vm := .none },
  { cls := 8, slots := #[.int (32)], vm := .none },
  { cls := 8, slots := #[.int (33)], vm := .none },
  { cls := 8, slots := #[.int (34)], vm := .none },
  { cls := 8, slots := #[.int (35)], vm := .none },
  { cls := 8, slots := #[.int (36)], vm := .none },
  { cls := 8, slots := #[.int (37)], vm := .none },
  { cls := 8, slots := #[.int (38)], vm := .none },
  { cls := 8, slots := #[.int (39)], vm := .none },
  { cls := 8, slots := #[.int (40)], vm := .none },
  { cls := 8, slots := #[.int (41)], vm := .none },
  { cls := 8, slots := #[.int (42)], vm := .none },
  { cls := 8, slots := #[.int (43)], vm := .none },
  { cls := 8, slots := #[.int (44)], vm := .none },
  { cls := 8, slots := #[.int (45)], vm := .none },
  { cls := 8, slots := #[.int (46)], vm := .none },
  { cls := 8, slots := #[.int (47)], vm := .none },
  { cls := 8, slots := #[.int (48)], vm := .none },
  { cls := 8, slots := #[.int (49)], vm := .none },
  { cls := 8, slots := #[.int (50)], vm := .none },
  { cls := 8, slots := #[.int (51)], vm := .none },
  { cls := 8, slots := #[.int (52)], vm := .none },
  { cls := 8, slots := #[.int (53)], vm := .none },
  { cls := 8, slots := #[.int (54)], vm := .none },
  { cls := 8, slots := #[.int (55)], vm := .none },
  { cls := 8, slots := #[.int (56)], vm := .none },
  { cls := 8, slots := #[.int (57)], vm := .none },
  { cls := 8, slots := #[.int (58)], vm := .none },
  { cls := 8, slots := #[.int (59)], vm := .none },
  { cls := 8, slots := #[.int (60)], vm := .none },
  { cls := 8, slots := #[.int (61)], vm := .none },
  { cls := 8, slots := #[.int (62)], vm := .none },
  { cls := 8, slots := #[.int (63)], vm := .none },
  { cls := 8, slots := #[.int (64)], vm := .none },
  { cls := 8, slots := #[.int (65)], vm := .none },
  { cls := 8, slots := #[.int (66)], vm := .none },
  { cls := 8, slots := #[.int (67)], vm := .none },
  { cls := 8, slots := #[.int (68)], vm := .none },
  { cls := 8, slots := #[.int (69)], vm := .none },
  { cls := 8, slots := #[.int (70)], vm := .none },
  { cls := 8, slots := #[.int (71)], vm := .none },
  { cls := 8, slots := #[.int (72)], vm := .none },
  { cls := 8, slots := #[.int (73)], vm := .none },
  { cls := 8, slots := #[.int (74)], vm := .none },
  { cls := 8, slots := #[.int (75)], vm := .none },
  { cls := 8, slots := #[.int (76)], vm := .none },
  { cls := 8, slots := #[.int (77)], vm := .none },
  { cls := 8, slots := #[.int (78)], vm := .none },
  { cls := 8, slots := #[.int (79)], vm := .none },
  { cls := 8, slots := #[.int (80)], vm := .none },
  { cls := 8, slots := #[.int (81)], vm := .none },
  { cls := 8, slots := #[.int (82)], vm := .none },
  { cls := 8, slots := #[.int (83)], vm := .none },
  { cls := 8, slots := #[.int (84)], vm := .none },
  { cls := 8, slots := #[.int (85)], vm := .none },
  { cls := 8, slots := #[.int (86)], vm := .none },
  { cls := 8, slots := #[.int (87)], vm := .none },
  { cls := 8, slots := #[.int (88)], vm := .none },
  { cls := 8, slots := #[.int (89)], vm := .none },
  { cls := 8, slots := #[.int (90)], vm := .none },
  { cls := 8, slots := #[.int (91)], vm := .none },
  { cls := 8, slots := #[.int (92)], vm := .none },
  { cls := 8, slots := #[.int (93)], vm := .none },
  { cls := 8, slots := #[.int (94)], vm := .none },
  { cls := 8, slots := #[.int (95)], vm := .none },
  { cls := 8, slots := #[.int (96)], vm := .none },
  { cls := 8, slots := #[.int (97)], vm := .none },
  { cls := 8, slots := #[.int (98)], vm := .none },
  { cls := 8, slots := #[.int (99)], vm := .none },
  { cls := 8, slots := #[.int (100)], vm := .none },
  { cls := 8, slots := #[.int (101)], vm := .none },
  { cls := 8, slots := #[.int (102)], vm := .none },
  { cls := 8, slots := #[.int (103)], vm := .none },
  { cls := 8, slots := #[.int (104)], vm := .none },
  { cls := 8, slots := #[.int (105)], vm := .none },
  { cls := 8, slots := #[.int (106)], vm := .none },
  { cls := 8, slots := #[.int (107)], vm := .none },
  { cls := 8, slots := #[.int (108)], vm := .none },
  { cls := 8, slots := #[.int (109)], vm := .none },
  { cls := 8, slots := #[.int (110)], vm := .none },
  { cls := 8, slots := #[.int (111)], vm := .none },
  { cls := 8, slots := #[.int (112)], vm := .none },
  { cls := 8, slots := #[.int (113)], vm := .none },
  { cls := 8, slots := #[.int (114)], vm := .none },
  { cls := 8, slots := #[.int (115)], vm := .none },
  { cls := 8, slots := #[.int (116)], vm := .none },
  { cls := 8, slots := #[.int (117)], vm := .none },
  { cls := 8, slots := #[.int (118)], vm := .none },
  { cls := 8, slots := #[.int (119)], vm := .none },
  { cls := 8, slots := #[.int (120)], vm := .none },
  { cls := 8, slots := #[.int (121)], vm := .none },
  { cls := 8, slots := #[.int (122)], vm := .none },
  { cls := 8, slots := #[.int (123)], vm := .none },
  { cls := 8, slots := #[.int (124)], vm := .none },
  { cls := 8, slots := #[.int (125)], vm := .none },
  { cls := 8, slots := #[.int (126)], vm := .none },
  { cls := 8, slots := #[.int (127)], vm := .none }]
def classes : Array Class := #[k0, k1, k2, k3, k4, k5, k6, k7, k8, k9, k10, k11, k12, k13, k14, k15]
def interned : List (Array UInt16 × Addr) := []
def slotsUsed : Nat := 517
def theMethod : MethodId := ⟨1, 1⟩
def args0 : Array Value := #[.int 1, .int 2, .int 3, .int 4, .int 5, .int 6]
def aboutOver (below : List Frame) : State where
  vm := { classes := classes, interned := interned.toArray }
  heap := heap
  slotsUsed := slotsUsed
  threads := #[{ frames := .invoking theMethod args0 :: below }]
def below0 : List Frame := [.native { method := ⟨0, 0⟩, args := #[] }]
def about1 : State := aboutOver below0
def p0 : Program := .bare "" "" ""
def e0 : Env := launch0.env 0 0 0
theorem w_frames : about1.frames = Frame.invoking theMethod args0 :: below0 := rfl
set_option maxRecDepth 65536 in
theorem w_args : argsFit about1.vm theMethod args0 = true := by decide +kernel
set_option maxRecDepth 65536 in
theorem w_heap : heapFits about1 = true := by decide +kernel
set_option maxRecDepth 65536 in
theorem w_runnable : about1.curStatus? = some .runnable := by decide +kernel
set_option maxRecDepth 65536 in
theorem w_alone : about1.alone = true := by decide +kernel
set_option maxRecDepth 65536 in
theorem w_named : about1.methodNamed? x = some theMethod := by decide +kernel
set_option maxRecDepth 65536 in
theorem w_hears : about1.hears theMethod below0 = true := by decide +kernel
set_option maxRecDepth 65536 in
theorem w_ripe : about1.ripe theMethod args0 below0 = true := by decide +kernel
theorem w_running : about1.status = .running := rfl
set_option maxRecDepth 65536 in
theorem w_room : about1.hasRoom e0.platform room_1 = true :=
  launch0.hasRoom_least _ room_1 (by decide +kernel) (by decide +kernel) (by decide +kernel) (by decide +kernel) (by decide +kernel) (by decide +kernel)
theorem allAtoms_all (ts : List Jvm.Cond) (a : Array Jvm.Value) (st : Jvm.State) : (allAtoms ts).before a st = ts.all (fun c => c.before a st) := by
  induction ts with
  | nil => rfl
  | cons c t ih =>
    show (Jvm.Cond.and c (allAtoms t)).before a st = _
    rw [Jvm.Cond.before_and, ih, List.all_cons]
def words1 : List Jvm.Cond := Jvm.Cond.code x code maxLocals ret :: tables_1
/-- a 'code' word, met by the world's own term for the bytes: nothing is compared byte by byte -/
theorem code_word {y : MethodName} {bytes : ByteArray} {mx : Nat} {rt : Option FieldType} {a : Array Value} {s : State} {m : MethodId} {meth : Method} {c : Code} (h1 : s.methodNamed? y = some m) (h2 : s.vm.method? m = some meth) (h3 : meth.code = some c) (h4 : c.code = bytes)
    (h5 : (c.maxLocals == mx && c.exceptionTable.isEmpty && decide (c.maxStack ≤ mostOperands) && decide (meth.sig.returnType = rt) && !meth.locks && decide (parseMethodDescriptor y.desc = some meth.sig)) = true) : (Jvm.Cond.code y bytes mx rt).before a s = true := by
  simp only [Bool.and_eq_true, beq_iff_eq, Bool.not_eq_true', decide_eq_true_eq] at h5
  obtain ⟨⟨⟨⟨⟨g1, g2⟩, g3⟩, g4⟩, g5⟩, g6⟩ := h5
  simp [Cond.before, Cond.holds, Cond.value, h1, h2, h3, h4, g1, g2, g3, g4, g5, g6]
def isCode : Jvm.Cond → Bool
  | .code _ _ _ _ => true
  | _ => false
theorem all_split {L : List Jvm.Cond} {P : Jvm.Cond → Bool} (h1 : L.all (fun c => isCode c || P c) = true) (h2 : ∀ c ∈ L.filter isCode, P c = true) : L.all P = true := by
  refine List.all_eq_true.mpr fun c hc => ?_
  have h := List.all_eq_true.mp h1 c hc
  rcases Bool.eq_false_or_eq_true (isCode c) with hi | hi
  · exact h2 c (List.mem_filter.mpr ⟨hc, hi⟩)
  · simpa [hi] using h
set_option maxRecDepth 65536 in
theorem w_c0 : (Jvm.Cond.code x code maxLocals ret).before args0 about1 = true := code_word (m := ⟨1, 1⟩) (meth := k1m1) (c := k1c1) (by decide +kernel) rfl rfl rfl (by decide +kernel)
set_option maxRecDepth 65536 in
theorem w_c1 : (Jvm.Cond.code ({ cls := "com/example/ltlconv/ltlconv/ldba/RecurrenceParts$State", name := "<init>", desc := "(IIII)V" } : Jvm.MethodName) prog_94_method_1_code (5 : Nat) (Option.none : Option Jvm.ClassFile.FieldType)).before args0 about1 = true := code_word (m := ⟨2, 0⟩) (meth := k2m0) (c := k2c0) (by decide +kernel) rfl rfl rfl (by decide +kernel)
set_option maxRecDepth 65536 in
theorem w_c2 : (Jvm.Cond.code ({ cls := "java/lang/Object", name := "<init>", desc := "()V" } : Jvm.MethodName) object_method_1_code (1 : Nat) (Option.none : Option Jvm.ClassFile.FieldType)).before args0 about1 = true := code_word (m := ⟨0, 0⟩) (meth := k0m0) (c := k0c0) (by decide +kernel) rfl rfl rfl (by decide +kernel)
set_option maxRecDepth 65536 in
theorem w_c3 : (Jvm.Cond.code ({ cls := "java/lang/Integer", name := "valueOf", desc := "(I)Ljava/lang/Integer;" } : Jvm.MethodName) jdk_33_method_22_code (1 : Nat) (Option.some (Jvm.ClassFile.FieldType.object "java/lang/Integer"))).before args0 about1 = true := code_word (m := ⟨8, 0⟩) (meth := k8m0) (c := k8c0) (by decide +kernel) rfl rfl rfl (by decide +kernel)
set_option maxRecDepth 65536 in
theorem w_c4 : (Jvm.Cond.code ({ cls := "com/example/ltlconv/ltlconv/ldba/RecurrenceParts$State", name := "equals", desc := "(Ljava/lang/Object;)Z" } : Jvm.MethodName) prog_94_method_2_code (3 : Nat) (Option.some Jvm.ClassFile.FieldType.boolean)).before args0 about1 = true := code_word (m := ⟨2, 1⟩) (meth := k2m1) (c := k2c1) (by decide +kernel) rfl rfl rfl (by decide +kernel)
set_option maxRecDepth 65536 in
theorem w_c5 : (Jvm.Cond.code ({ cls := "java/lang/Integer", name := "<init>", desc := "(I)V" } : Jvm.MethodName) jdk_33_method_23_code (2 : Nat) (Option.none : Option Jvm.ClassFile.FieldType)).before args0 about1 = true := code_word (m := ⟨8, 1⟩) (meth := k8m1) (c := k8c1) (by decide +kernel) rfl rfl rfl (by decide +kernel)
set_option maxRecDepth 65536 in
theorem w_c6 : (Jvm.Cond.code ({ cls := "java/lang/Number", name := "<init>", desc := "()V" } : Jvm.MethodName) jdk_18_method_1_code (1 : Nat) (Option.none : Option Jvm.ClassFile.FieldType)).before args0 about1 = true := code_word (m := ⟨4, 0⟩) (meth := k4m0) (c := k4c0) (by decide +kernel) rfl rfl rfl (by decide +kernel)
def codes1 : List Jvm.Cond := [Jvm.Cond.code x code maxLocals ret, Jvm.Cond.code ({ cls := "com/example/ltlconv/ltlconv/ldba/RecurrenceParts$State", name := "<init>", desc := "(IIII)V" } : Jvm.MethodName) prog_94_method_1_code (5 : Nat) (Option.none : Option Jvm.ClassFile.FieldType), Jvm.Cond.code ({ cls := "java/lang/Object", name := "<init>", desc := "()V" } : Jvm.MethodName) object_method_1_code (1 : Nat) (Option.none : Option Jvm.ClassFile.FieldType), Jvm.Cond.code ({ cls := "java/lang/Integer", name := "valueOf", desc := "(I)Ljava/lang/Integer;" } : Jvm.MethodName) jdk_33_method_22_code (1 : Nat) (Option.some (Jvm.ClassFile.FieldType.object "java/lang/Integer")), Jvm.Cond.code ({ cls := "com/example/ltlconv/ltlconv/ldba/RecurrenceParts$State", name := "equals", desc := "(Ljava/lang/Object;)Z" } : Jvm.MethodName) prog_94_method_2_code (3 : Nat) (Option.some Jvm.ClassFile.FieldType.boolean), Jvm.Cond.code ({ cls := "java/lang/Integer", name := "<init>", desc := "(I)V" } : Jvm.MethodName) jdk_33_method_23_code (2 : Nat) (Option.none : Option Jvm.ClassFile.FieldType), Jvm.Cond.code ({ cls := "java/lang/Number", name := "<init>", desc := "()V" } : Jvm.MethodName) jdk_18_method_1_code (1 : Nat) (Option.none : Option Jvm.ClassFile.FieldType)]
set_option maxRecDepth 65536 in
theorem codes_eq : words1.filter isCode = codes1 := rfl
theorem w_codes : ∀ c ∈ words1.filter isCode, c.before args0 about1 = true := by
  rw [codes_eq]
  intro c hc
  simp only [codes1, List.mem_cons, List.not_mem_nil, or_false] at hc
  rcases hc with rfl | rfl | rfl | rfl | rfl | rfl | rfl
  · exact w_c0
  · exact w_c1
  · exact w_c2
  · exact w_c3
  · exact w_c4
  · exact w_c5
  · exact w_c6
set_option maxRecDepth 65536 in
theorem w_t1 : (words1.take 24).all (fun c => isCode c || c.before args0 about1) = true := by decide +kernel
set_option maxRecDepth 65536 in
theorem w_t2 : ((words1.drop 24).take 24).all (fun c => isCode c || c.before args0 about1) = true := by decide +kernel
set_option maxRecDepth 65536 in
theorem w_t3 : ((words1.drop 24).drop 24).all (fun c => isCode c || c.before args0 about1) = true := by decide +kernel
theorem w_tables : (allAtoms (Jvm.Cond.code x code maxLocals ret :: tables_1)).before args0 about1 = true := by
  rw [allAtoms_all]
  show words1.all (fun c => c.before args0 about1) = true
  refine all_split ?_ w_codes
  rw [← List.take_append_drop 24 words1, List.all_append, w_t1, ← List.take_append_drop 24 (words1.drop 24), List.all_append, w_t2, w_t3]
  rfl
set_option maxRecDepth 65536 in
theorem w_rest : rest_1_c.before args0 about1 = true := by decide +kernel
set_option maxRecDepth 65536 in
theorem w_case : (Jvm.Cond.and given_1 narrow_1).before args0 about1 = true := by decide +kernel
theorem w_applies : (headSpec (Jvm.Cond.code x code maxLocals ret :: tables_1) room_1).applies x e0.platform about1 = true :=
  (Spec.applies_iff w_frames).mpr ⟨w_running, w_runnable, w_alone, w_named, w_hears, w_ripe, w_room, w_tables⟩
theorem atStart : AtStart classFile x code maxLocals ret World_1 tables_1 room_1 Calls_1 rest_1 Pre_1 launch0 p0 e0 about1 theMethod args0 below0 :=
  ⟨lists_1, trivial, launch0.admits_env _ _ _, launch0.least_env, fairChoices_fair.cas, fairChoices_fair.clock, w_frames, w_args, w_heap, w_applies, trivial, w_rest, w_case⟩
end start1
theorem witness_1 : WitnessClaimed_1 := ⟨start1.p0, start1.e0, start1.about1, start1.theMethod, start1.args0, start1.below0, start1.atStart⟩
end Jvm.Pilot.@@N@@
