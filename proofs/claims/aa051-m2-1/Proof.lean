import JvmDerived
import JvmDerived.Pilot.@@N@@Statement
import JvmDerived.Pilot.@@N@@Code
set_option linter.unusedVariables false
set_option linter.unusedSimpArgs false
@@BLOCK:NumsL.lean.txt@@
namespace Jvm.Pilot.@@N@@
open Jvm Jvm.ClassFile Sem Op Lib Jvm.Free Jvm.Stand Jvm.LawKit Jvm.RoadKit Bundle Jvm.Pilot.@@N@@.Jvm.D
/-- from T the run comes to an end of which P speaks -/
def Go (p : Program) (e : Env) (below : List Frame) (P : Outcome → State → Prop) (T : State) : Prop := ∃ s₂ o, Steps p.tables e below T s₂ ∧ s₂.status = .running ∧ Ended s₂ below o ∧ P o s₂
theorem Go.via {p : Program} {e : Env} {below : List Frame} {P : Outcome → State → Prop} {T T' : State} (h : ∀ t, Steps p.tables e below T' t → Steps p.tables e below T t) (g : Go p e below P T') : Go p e below P T := by
  obtain ⟨s₂, o, a, b⟩ := g
  exact ⟨s₂, o, h _ a, b⟩
theorem Go.into {p : Program} {e : Env} {below : List Frame} {P : Outcome → State → Prop} {T : State} {g g' : JFrame} (q : g = g') (h : Go p e below P (T.setTop g')) : ∃ s₂ o, Steps p.tables e below (T.setTop g) s₂ ∧ s₂.status = .running ∧ Ended s₂ below o ∧ P o s₂ := by
  subst q; exact h
section Ret
variable {p : Program} {l : Launch} {e : Env} {R : Room} {s : State} {m : MethodId} {args : Array Value} {below : List Frame} {meth : Method} {c : Code} {T : State} {locs : List Loc} {cells slots K N : Nat}
theorem Go.fin (X : Stand p l e R s m args below meth c T locs cells slots) (hlk : meth.locks = false) {v : Option Value} (hv : meth.sig.returnType = none → v = none) {Q : Option Value → Heap → List Loc → Prop} {g : JFrame}
    (st : ∀ fs, (∀ (f : JFrame) (acts : List Action), f.method = m → f.locked = none → f.entered = [] → (doReturn e (T.setTop f) acts v).1 = T.setFrames fs) → Steps p.tables e below (T.setTop g) (T.setFrames fs))
    (hk : cells ≤ K) (hn : slots ≤ N) (hq : Q v T.heap locs) : Go p e below (fun o u => ∃ v L, o = .returned v ∧ Q v u.heap L ∧ FrameEnd s o u L K N) (T.setTop g) := by
  obtain ⟨fs, hr, hrun, hended, hW, hsame⟩ := X.leave (v := v) hv
  exact ⟨_, _, st fs hr, hrun, hended, _, _, rfl, hq, ⟨_, rfl⟩, hW, hsame.mono hk hn⟩
theorem Go.retI (X : Stand p l e R s m args below meth c T locs cells slots) (hx : p.tables.exec = Jvm.exec) (hlk : meth.locks = false) {Q : Option Value → Heap → List Loc → Prop} {pc : Nat} {Ls : Array Slot} {z : Int32} {rest : List Value} (hret : meth.sig.returnType = some .int) (hd : decode c.code pc = .ok (.ireturn, 1))
    (hk : cells ≤ K) (hn : slots ≤ N) (hq : Q (some (.int z)) T.heap locs) : Go p e below (fun o u => ∃ v L, o = .returned v ∧ Q v u.heap L ∧ FrameEnd s o u L K N) (T.setTop (mkF m pc Ls (.int z :: rest))) :=
  Go.fin X hlk (v := some (.int z)) (fun h => by rw [hret] at h; cases h) (fun fs hr => retOut X hx hret rfl (Or.inl ⟨rfl, Or.inl rfl, _, rfl⟩) hd hr) hk hn hq
theorem Go.retN (X : Stand p l e R s m args below meth c T locs cells slots) (hx : p.tables.exec = Jvm.exec) (hlk : meth.locks = false) {Q : Option Value → Heap → List Loc → Prop} {pc : Nat} {Ls : Array Slot} {z : Int32} {rest : List Value} {t : FieldType} (hret : meth.sig.returnType = some t) (ht : t = .boolean ∨ t = .byte ∨ t = .char ∨ t = .short) (hd : decode c.code pc = .ok (.ireturn, 1))
    (hk : cells ≤ K) (hn : slots ≤ N) (hq : Q (some (.int (nar t z))) T.heap locs) : Go p e below (fun o u => ∃ v L, o = .returned v ∧ Q v u.heap L ∧ FrameEnd s o u L K N) (T.setTop (mkF m pc Ls (.int z :: rest))) :=
  Go.fin X hlk (v := some (.int (nar t z))) (fun h => by rw [hret] at h; cases h) (fun fs hr => Jvm.RoadKit.retN X hx hret ht hd hr) hk hn hq
theorem Go.retJ (X : Stand p l e R s m args below meth c T locs cells slots) (hx : p.tables.exec = Jvm.exec) (hlk : meth.locks = false) {Q : Option Value → Heap → List Loc → Prop} {pc : Nat} {Ls : Array Slot} {z : Int64} {rest : List Value} (hret : meth.sig.returnType = some .long) (hd : decode c.code pc = .ok (.lreturn, 1))
    (hk : cells ≤ K) (hn : slots ≤ N) (hq : Q (some (.long z)) T.heap locs) : Go p e below (fun o u => ∃ v L, o = .returned v ∧ Q v u.heap L ∧ FrameEnd s o u L K N) (T.setTop (mkF m pc Ls (.long z :: rest))) :=
  Go.fin X hlk (v := some (.long z)) (fun h => by rw [hret] at h; cases h) (fun fs hr => retOut X hx hret rfl (Or.inr (Or.inl ⟨rfl, rfl, _, rfl⟩)) hd hr) hk hn hq
theorem Go.retR (X : Stand p l e R s m args below meth c T locs cells slots) (hx : p.tables.exec = Jvm.exec) (hlk : meth.locks = false) {Q : Option Value → Heap → List Loc → Prop} {pc : Nat} {Ls : Array Slot} {w : Value} {rest : List Value} {t : FieldType} (hret : meth.sig.returnType = some t) (ht : t.isReference = true) (hw : w.isRef = true) (hd : decode c.code pc = .ok (.areturn, 1))
    (hk : cells ≤ K) (hn : slots ≤ N) (hq : Q (some w) T.heap locs) : Go p e below (fun o u => ∃ v L, o = .returned v ∧ Q v u.heap L ∧ FrameEnd s o u L K N) (T.setTop (mkF m pc Ls (w :: rest))) :=
  Go.fin X hlk (v := some w) (fun h => by rw [hret] at h; cases h) (fun fs hr => retOut X hx hret (by rcases ref_cases hw with rfl | ⟨z, rfl⟩ <;> cases t <;> rfl) (Or.inr (Or.inr (Or.inr (Or.inr ⟨rfl, ht, hw⟩)))) hd hr) hk hn hq
theorem Go.retV (X : Stand p l e R s m args below meth c T locs cells slots) (hx : p.tables.exec = Jvm.exec) (hlk : meth.locks = false) {Q : Option Value → Heap → List Loc → Prop} {pc : Nat} {Ls : Array Slot} (hret : meth.sig.returnType = none) (hd : decode c.code pc = .ok (.return_, 1))
    (hk : cells ≤ K) (hn : slots ≤ N) (hq : Q none T.heap locs) : Go p e below (fun o u => ∃ v L, o = .returned v ∧ Q v u.heap L ∧ FrameEnd s o u L K N) (T.setTop (mkF m pc Ls [])) :=
  Go.fin X hlk (v := none) (fun _ => rfl) (fun fs hr => X.returnOut hx hret hd hr) hk hn hq
theorem Go.retNW {vm₁ : Vm} (X : Stand p l e R (s.setVm vm₁) m args below meth c T locs cells slots) (hx : p.tables.exec = Jvm.exec) {n : Nat} (hS : s.Since vm₁ n) (hnn : n ≤ T.heap.size) (hlk : meth.locks = false) {Q : Option Value → Heap → List Loc → Prop} {pc : Nat} {Ls : Array Slot} {z : Int32} {rest : List Value} {t : FieldType} (hret : meth.sig.returnType = some t) (ht : t = .boolean ∨ t = .byte ∨ t = .char ∨ t = .short) (hd : decode c.code pc = .ok (.ireturn, 1))
    (hk : cells ≤ K) (hn : slots ≤ N) (hq : Q (some (.int (nar t z))) T.heap locs) : Go p e below (fun o u => ∃ v L, o = .returned v ∧ Q v u.heap L ∧ ReturnedEndW s o u L K N) (T.setTop (mkF m pc Ls (.int z :: rest))) := by
  obtain ⟨fs, hr, hrun, hended, h1, h2, h3, h4⟩ := X.leaveW hS hnn (v := some (.int (nar t z))) (fun h => by rw [hret] at h; cases h) hlk
  exact ⟨_, _, Jvm.RoadKit.retN X hx hret ht hd hr, hrun, hended, _, _, rfl, hq, h1, h2, h3, h4.mono hk hn⟩
end Ret
theorem own_pw : ∀ k : Fin 32, (1 : Int64) <<< ((Int32.ofNat k.val) &&& 0x3f).toInt64 = Int64.ofNat (2 ^ k.val) := by decide +kernel
theorem own_pw32 : ∀ k : Fin 31, (1 : Int32) <<< ((Int32.ofNat k.val) &&& 31) = Int32.ofNat (2 ^ k.val) := by decide +kernel
theorem own_km : ∀ k : Fin 32, Int32.ofNat (k.val + 1) - 1 = Int32.ofNat k.val := by decide +kernel
theorem own_kp : ∀ k : Fin 32, Int32.ofNat k.val + 1 = Int32.ofNat (k.val + 1) := by decide +kernel
theorem own_i32 {n : Nat} (h : n < 2 ^ 31) : (Int32.ofNat n).toInt = n := Int32.toInt_ofNat_of_lt h
theorem own_i64 {n : Nat} (h : n < 2 ^ 63) : (Int64.ofNat n).toInt = n := Int64.toInt_ofNat_of_lt h
theorem own_p31 {k : Nat} (h : k ≤ 31) : 2 ^ k ≤ 2 ^ 31 := Nat.pow_le_pow_right (by decide) h
/-- (1L << k) - 1 -/
theorem own_top {k : Nat} (h : k ≤ 31) : ((1 : Int64) <<< ((Int32.ofNat k) &&& 0x3f).toInt64 - 1).toInt = 2 ^ k - 1 := by
  have q := own_pw ⟨k, by omega⟩
  dsimp only at q
  have p := own_p31 h
  have p0 : 0 < 2 ^ k := Nat.pow_pos (by decide)
  rw [q, Int64.toInt_sub, own_i64 (by omega)]
  have e1 : (1 : Int64).toInt = 1 := rfl
  rw [e1, Int.bmod_def]
  have pc : ((2 ^ k : Nat) : Int) = 2 ^ k := by simp
  omega
theorem own_n64 {n : Nat} (h : n < 2 ^ 31) : (Int32.ofNat n).toInt64.toInt = n := by rw [Int32.toInt_toInt64, own_i32 h]
theorem own_sub {n k : Nat} (h : n < 2 ^ 31) (hk : k < 31) (h1 : 2 ^ k ≤ n) : Int32.ofNat n - ((1 : Int32) <<< ((Int32.ofNat (k + 1) - 1) &&& 31) - 1) = Int32.ofNat (n + 1 - 2 ^ k) := by
  have q := own_km ⟨k, by omega⟩
  have r := own_pw32 ⟨k, hk⟩
  dsimp only at q r
  have p0 : 0 < 2 ^ k := Nat.pow_pos (by decide)
  have e1 : (1 : Int32).toInt = 1 := rfl
  rw [q, r]
  apply Int32.toInt_inj.mp
  rw [Int32.toInt_sub, Int32.toInt_sub, own_i32 h, own_i32 (by omega), own_i32 (by omega), e1]
  have pc : ((2 ^ k : Nat) : Int) = 2 ^ k := by simp
  simp only [Int.bmod_def]
  omega
def own_luby (n : Nat) : Nat := if n = 0 then 0 else if n + 1 = 2 ^ (Nat.log2 n + 1) then 2 ^ (Nat.log2 n) else if n + 1 - 2 ^ (Nat.log2 n) < n then own_luby (n + 1 - 2 ^ (Nat.log2 n)) else 0
termination_by n
theorem own_log {n k : Nat} (h1 : 2 ^ k ≤ n) (h2 : n < 2 ^ (k + 1)) : Nat.log2 n = k := by
  have p0 : 0 < 2 ^ k := Nat.pow_pos (by decide)
  have a : k ≤ Nat.log2 n := (Nat.le_log2 (by omega)).mpr h1
  have b : Nat.log2 n < k + 1 := (Nat.log2_lt (by omega)).mpr h2
  omega
theorem own_lubyTop {n k : Nat} (h : n + 1 = 2 ^ (k + 1)) : own_luby n = 2 ^ k := by
  have p0 : 0 < 2 ^ k := Nat.pow_pos (by decide)
  have e : 2 ^ (k + 1) = 2 ^ k * 2 := Nat.pow_succ 2 k
  have l := own_log (n := n) (k := k) (by omega) (by omega)
  rw [own_luby, l, if_neg (by omega), if_pos h]
theorem own_lubyStep {n k : Nat} (h1 : 2 ^ k ≤ n) (h2 : n + 1 < 2 ^ (k + 1)) : own_luby n = own_luby (n + 1 - 2 ^ k) ∧ n + 1 - 2 ^ k < n ∧ 1 ≤ n + 1 - 2 ^ k ∧ k < 31 ∨ 31 ≤ k := by
  have p0 : 0 < 2 ^ k := Nat.pow_pos (by decide)
  have e : 2 ^ (k + 1) = 2 ^ k * 2 := Nat.pow_succ 2 k
  have l := own_log (n := n) (k := k) h1 (by omega)
  by_cases hk : k < 31
  · left
    refine ⟨?_, by omega, by omega, hk⟩
    rw [own_luby, l, if_neg (by omega), if_neg (by omega), if_pos (by omega)]
  · right; omega

theorem d1_4 : decode prog_29_method_44_code 4 = .ok (.lconst 1, 1) := by decide +kernel
theorem d1_5 : decode prog_29_method_44_code 5 = .ok (.iload_n 2, 1) := by decide +kernel
theorem d1_6 : decode prog_29_method_44_code 6 = .ok (.lshl, 1) := by decide +kernel
theorem d1_7 : decode prog_29_method_44_code 7 = .ok (.lconst 1, 1) := by decide +kernel
theorem d1_8 : decode prog_29_method_44_code 8 = .ok (.lsub, 1) := by decide +kernel
theorem d1_9 : decode prog_29_method_44_code 9 = .ok (.iload_n 1, 1) := by decide +kernel
theorem d1_10 : decode prog_29_method_44_code 10 = .ok (.i2l, 1) := by decide +kernel
theorem d1_11 : decode prog_29_method_44_code 11 = .ok (.lcmp, 1) := by decide +kernel
theorem d1_12 : decode prog_29_method_44_code 12 = .ok (.ifCond .ge 9, 3) := by decide +kernel
theorem d1_15 : decode prog_29_method_44_code 15 = .ok (.iinc 2 1, 3) := by decide +kernel
theorem d1_18 : decode prog_29_method_44_code 18 = .ok (.goto (-14), 3) := by decide +kernel
theorem d1_21 : decode prog_29_method_44_code 21 = .ok (.iload_n 1, 1) := by decide +kernel
theorem d1_22 : decode prog_29_method_44_code 22 = .ok (.i2l, 1) := by decide +kernel
theorem d1_23 : decode prog_29_method_44_code 23 = .ok (.lconst 1, 1) := by decide +kernel
theorem d1_24 : decode prog_29_method_44_code 24 = .ok (.iload_n 2, 1) := by decide +kernel
theorem d1_25 : decode prog_29_method_44_code 25 = .ok (.lshl, 1) := by decide +kernel
theorem d1_26 : decode prog_29_method_44_code 26 = .ok (.lconst 1, 1) := by decide +kernel
theorem d1_27 : decode prog_29_method_44_code 27 = .ok (.lsub, 1) := by decide +kernel
theorem d1_28 : decode prog_29_method_44_code 28 = .ok (.lcmp, 1) := by decide +kernel
theorem d1_29 : decode prog_29_method_44_code 29 = .ok (.ifCond .ne 9, 3) := by decide +kernel
theorem d1_32 : decode prog_29_method_44_code 32 = .ok (.lconst 1, 1) := by decide +kernel
theorem d1_33 : decode prog_29_method_44_code 33 = .ok (.iload_n 2, 1) := by decide +kernel
theorem d1_34 : decode prog_29_method_44_code 34 = .ok (.iconst 1, 1) := by decide +kernel
theorem d1_35 : decode prog_29_method_44_code 35 = .ok (.isub, 1) := by decide +kernel
theorem d1_36 : decode prog_29_method_44_code 36 = .ok (.lshl, 1) := by decide +kernel
theorem d1_38 : decode prog_29_method_44_code 38 = .ok (.iload_n 1, 1) := by decide +kernel
theorem d1_39 : decode prog_29_method_44_code 39 = .ok (.iconst 1, 1) := by decide +kernel
theorem d1_40 : decode prog_29_method_44_code 40 = .ok (.iload_n 2, 1) := by decide +kernel
theorem d1_41 : decode prog_29_method_44_code 41 = .ok (.iconst 1, 1) := by decide +kernel
theorem d1_42 : decode prog_29_method_44_code 42 = .ok (.isub, 1) := by decide +kernel
theorem d1_43 : decode prog_29_method_44_code 43 = .ok (.ishl, 1) := by decide +kernel
theorem d1_44 : decode prog_29_method_44_code 44 = .ok (.iconst 1, 1) := by decide +kernel
theorem d1_45 : decode prog_29_method_44_code 45 = .ok (.isub, 1) := by decide +kernel
theorem d1_46 : decode prog_29_method_44_code 46 = .ok (.isub, 1) := by decide +kernel
theorem d1_47 : decode prog_29_method_44_code 47 = .ok (.istore_n 1, 1) := by decide +kernel
theorem d1_48 : decode prog_29_method_44_code 48 = .ok (.goto (-46), 3) := by decide +kernel
theorem d1_2 : decode prog_29_method_44_code 2 = .ok (.iconst 1, 1) := by decide +kernel
theorem d1_3 : decode prog_29_method_44_code 3 = .ok (.istore_n 2, 1) := by decide +kernel
theorem own_yes12 {k n : Nat} (hk : k ≤ 30) (hn : n < 2 ^ 31) (h : ((1 : Int64) <<< ((Int32.ofNat (k + 1)) &&& 0x3f).toInt64 - 1) < (Int32.ofNat n).toInt64) : 2 ^ (k + 1) ≤ n := by
  rw [Int64.lt_iff_toInt_lt, own_top (by omega), own_n64 hn] at h
  have pc : ((2 ^ (k + 1) : Nat) : Int) = 2 ^ (k + 1) := by simp
  omega
theorem own_no12 {k n : Nat} (hk : k ≤ 30) (hn : n < 2 ^ 31) (h : ¬ ((1 : Int64) <<< ((Int32.ofNat (k + 1)) &&& 0x3f).toInt64 - 1) < (Int32.ofNat n).toInt64) : n < 2 ^ (k + 1) := by
  rw [Int64.lt_iff_toInt_lt, own_top (by omega), own_n64 hn] at h
  have pc : ((2 ^ (k + 1) : Nat) : Int) = 2 ^ (k + 1) := by simp
  omega
theorem own_yes29 {k n : Nat} (hk : k ≤ 30) (hn : n < 2 ^ 31) (h : (Int32.ofNat n).toInt64 = ((1 : Int64) <<< ((Int32.ofNat (k + 1)) &&& 0x3f).toInt64 - 1)) : n + 1 = 2 ^ (k + 1) := by
  rw [← Int64.toInt_inj, own_top (by omega), own_n64 hn] at h
  have pc : ((2 ^ (k + 1) : Nat) : Int) = 2 ^ (k + 1) := by simp
  omega
theorem own_no29 {k n : Nat} (hk : k ≤ 30) (hn : n < 2 ^ 31) (h : ¬ (Int32.ofNat n).toInt64 = ((1 : Int64) <<< ((Int32.ofNat (k + 1)) &&& 0x3f).toInt64 - 1)) : n + 1 ≠ 2 ^ (k + 1) := by
  rw [← Int64.toInt_inj, own_top (by omega), own_n64 hn] at h
  have pc : ((2 ^ (k + 1) : Nat) : Int) = 2 ^ (k + 1) := by simp
  omega
theorem own_k31 {k n : Nat} (h : 2 ^ (k + 1) ≤ n) (hn : n < 2 ^ 31) : k + 1 ≤ 30 := by
  rcases Nat.lt_or_ge (k + 1) 31 with q | q
  · omega
  · have := Nat.pow_le_pow_right (n := 2) (by decide) q; omega
theorem own_k30 {k n : Nat} (h : 2 ^ k ≤ n) (hn : n < 2 ^ 31) : k ≤ 30 := by
  rcases Nat.lt_or_ge k 31 with q | q
  · omega
  · have := Nat.pow_le_pow_right (n := 2) (by decide) q; omega
set_option maxRecDepth 65536 in
set_option maxHeartbeats 40000000 in
theorem lp1 {p : Program} {l : Launch} {e : Env} {R : Room} {s : State} {m : MethodId} {args : Array Value} {below : List Frame} {meth : Method} {c : Code} {T0 : State} {locs0 : List Loc} {cells0 slots0 : Nat} {P : Outcome → State → Prop} (X0 : Stand p l e R s m args below meth c T0 locs0 cells0 slots0) (hx : p.tables.exec = Jvm.exec) (hby : c.code = prog_29_method_44_code) (p0 : Int32) (V : Nat) (hk : ∀ Ls, Go p e below P (T0.setTop (mkF m 37 Ls [.long (Int64.ofNat V)]))) :
    ∀ (M n k : Nat), n * 64 + (31 - k) ≤ M → n < 2 ^ 31 → k ≤ 30 → 2 ^ k ≤ n → own_luby n = V → Go p e below P (T0.setTop (mkF m 4 #[.val (.int p0), .val (.int (Int32.ofNat n)), .val (.int (Int32.ofNat (k + 1)))] [])) := by
  intro M
  induction M with
  | zero =>
    intro n k hM h31 hk0 h2 hV
    have p0 : 0 < 2 ^ k := Nat.pow_pos (by decide)
    omega
  | succ M ih =>
    intro n k hM h31 hk0 h2 hV
    show Go p e below _ (T0.setTop (mkF m 4 #[.val (.int p0), .val (.int (Int32.ofNat n)), .val (.int (Int32.ofNat (k + 1)))] []))
    refine Go.via (T' := T0.setTop (mkF m 12 #[.val (.int p0), .val (.int (Int32.ofNat n)), .val (.int (Int32.ofNat (k + 1)))] [(.int (lcmpW (((1 : Int64) <<< ((Int32.ofNat (k + 1)) &&& 0x3f).toInt64) - (1 : Int64)) ((Int32.ofNat n).toInt64)))])) (fun tZ kZ => ?_) ?_
    · show Steps p.tables e below (T0.setTop (mkF m 4 #[.val (.int p0), .val (.int (Int32.ofNat n)), .val (.int (Int32.ofNat (k + 1)))] [])) _
      refine XS.lconst X0.here hx rfl (hb hby d1_4) ?_
      show Steps p.tables e below (T0.setTop (mkF m 5 #[.val (.int p0), .val (.int (Int32.ofNat n)), .val (.int (Int32.ofNat (k + 1)))] [(.long (1 : Int64))])) _
      refine XS.iloadN X0.here hx rfl (hb hby d1_5) rfl ?_
      show Steps p.tables e below (T0.setTop (mkF m 6 #[.val (.int p0), .val (.int (Int32.ofNat n)), .val (.int (Int32.ofNat (k + 1)))] [(.int (Int32.ofNat (k + 1))), (.long (1 : Int64))])) _
      refine XS.lshl X0.here hx rfl (hb hby d1_6) rfl ?_
      show Steps p.tables e below (T0.setTop (mkF m 7 #[.val (.int p0), .val (.int (Int32.ofNat n)), .val (.int (Int32.ofNat (k + 1)))] [(.long ((1 : Int64) <<< ((Int32.ofNat (k + 1)) &&& 0x3f).toInt64))])) _
      refine XS.lconst X0.here hx rfl (hb hby d1_7) ?_
      show Steps p.tables e below (T0.setTop (mkF m 8 #[.val (.int p0), .val (.int (Int32.ofNat n)), .val (.int (Int32.ofNat (k + 1)))] [(.long (1 : Int64)), (.long ((1 : Int64) <<< ((Int32.ofNat (k + 1)) &&& 0x3f).toInt64))])) _
      refine XS.lsub X0.here hx rfl (hb hby d1_8) rfl ?_
      show Steps p.tables e below (T0.setTop (mkF m 9 #[.val (.int p0), .val (.int (Int32.ofNat n)), .val (.int (Int32.ofNat (k + 1)))] [(.long (((1 : Int64) <<< ((Int32.ofNat (k + 1)) &&& 0x3f).toInt64) - (1 : Int64)))])) _
      refine XS.iloadN X0.here hx rfl (hb hby d1_9) rfl ?_
      show Steps p.tables e below (T0.setTop (mkF m 10 #[.val (.int p0), .val (.int (Int32.ofNat n)), .val (.int (Int32.ofNat (k + 1)))] [(.int (Int32.ofNat n)), (.long (((1 : Int64) <<< ((Int32.ofNat (k + 1)) &&& 0x3f).toInt64) - (1 : Int64)))])) _
      refine XS.i2l X0.here hx rfl (hb hby d1_10) rfl ?_
      show Steps p.tables e below (T0.setTop (mkF m 11 #[.val (.int p0), .val (.int (Int32.ofNat n)), .val (.int (Int32.ofNat (k + 1)))] [(.long ((Int32.ofNat n).toInt64)), (.long (((1 : Int64) <<< ((Int32.ofNat (k + 1)) &&& 0x3f).toInt64) - (1 : Int64)))])) _
      refine XS.lcmp X0.here hx rfl (hb hby d1_11) rfl ?_
      show Steps p.tables e below (T0.setTop (mkF m 12 #[.val (.int p0), .val (.int (Int32.ofNat n)), .val (.int (Int32.ofNat (k + 1)))] [(.int (lcmpW (((1 : Int64) <<< ((Int32.ofNat (k + 1)) &&& 0x3f).toInt64) - (1 : Int64)) ((Int32.ofNat n).toInt64)))])) _
      exact kZ
    by_cases hc12 : (((1 : Int64) <<< ((Int32.ofNat (k + 1)) &&& 0x3f).toInt64) - (1 : Int64)) < ((Int32.ofNat n).toInt64)
    · refine Go.via (T' := T0.setTop (mkF m 15 #[.val (.int p0), .val (.int (Int32.ofNat n)), .val (.int (Int32.ofNat (k + 1)))] [])) (fun tZ kZ => ?_) ?_
      · show Steps p.tables e below (T0.setTop (mkF m 12 #[.val (.int p0), .val (.int (Int32.ofNat n)), .val (.int (Int32.ofNat (k + 1)))] [(.int (lcmpW (((1 : Int64) <<< ((Int32.ofNat (k + 1)) &&& 0x3f).toInt64) - (1 : Int64)) ((Int32.ofNat n).toInt64)))])) _
        refine XS.ifNo X0.here hx rfl (hb hby d1_12) rfl ((if0 _ _).trans (tlt ((lw_lt _ _).mpr hc12)).2.1) ?_
        exact kZ
      refine Go.via (T' := T0.setTop (mkF m 4 #[.val (.int p0), .val (.int (Int32.ofNat n)), .val (.int ((Int32.ofNat (k + 1)) + (1 : Int32)))] [])) (fun tZ kZ => ?_) ?_
      · show Steps p.tables e below (T0.setTop (mkF m 15 #[.val (.int p0), .val (.int (Int32.ofNat n)), .val (.int (Int32.ofNat (k + 1)))] [])) _
        refine XS.iinc X0.here hx rfl (hb hby d1_15) rfl (l' := #[.val (.int p0), .val (.int (Int32.ofNat n)), .val (.int ((Int32.ofNat (k + 1)) + (1 : Int32)))]) rfl ?_
        show Steps p.tables e below (T0.setTop (mkF m 18 #[.val (.int p0), .val (.int (Int32.ofNat n)), .val (.int ((Int32.ofNat (k + 1)) + (1 : Int32)))] [])) _
        refine XS.goto X0.here hx rfl (pc0 := 18) (pc' := 4) rfl (hb hby d1_18) (by decide) (by decide) ?_
        show Steps p.tables e below (T0.setTop (mkF m 4 #[.val (.int p0), .val (.int (Int32.ofNat n)), .val (.int ((Int32.ofNat (k + 1)) + (1 : Int32)))] [])) _
        exact kZ
      have hs := own_yes12 hk0 h31 hc12
      have hk1 : k + 1 ≤ 30 := own_k31 hs h31
      rw [own_kp ⟨k + 1, by omega⟩]
      exact ih n (k + 1) (by omega) h31 hk1 hs hV
    · refine Go.via (T' := T0.setTop (mkF m 21 #[.val (.int p0), .val (.int (Int32.ofNat n)), .val (.int (Int32.ofNat (k + 1)))] [])) (fun tZ kZ => ?_) ?_
      · show Steps p.tables e below (T0.setTop (mkF m 12 #[.val (.int p0), .val (.int (Int32.ofNat n)), .val (.int (Int32.ofNat (k + 1)))] [(.int (lcmpW (((1 : Int64) <<< ((Int32.ofNat (k + 1)) &&& 0x3f).toInt64) - (1 : Int64)) ((Int32.ofNat n).toInt64)))])) _
        refine XS.ifYes X0.here hx rfl (pc0 := 12) (pc' := 21) rfl (hb hby d1_12) rfl ((if0 _ _).trans (flt (fun q => hc12 ((lw_lt _ _).mp q))).2.1) (by decide) (by decide) ?_
        exact kZ
      refine Go.via (T' := T0.setTop (mkF m 29 #[.val (.int p0), .val (.int (Int32.ofNat n)), .val (.int (Int32.ofNat (k + 1)))] [(.int (lcmpW ((Int32.ofNat n).toInt64) (((1 : Int64) <<< ((Int32.ofNat (k + 1)) &&& 0x3f).toInt64) - (1 : Int64))))])) (fun tZ kZ => ?_) ?_
      · show Steps p.tables e below (T0.setTop (mkF m 21 #[.val (.int p0), .val (.int (Int32.ofNat n)), .val (.int (Int32.ofNat (k + 1)))] [])) _
        refine XS.iloadN X0.here hx rfl (hb hby d1_21) rfl ?_
        show Steps p.tables e below (T0.setTop (mkF m 22 #[.val (.int p0), .val (.int (Int32.ofNat n)), .val (.int (Int32.ofNat (k + 1)))] [(.int (Int32.ofNat n))])) _
        refine XS.i2l X0.here hx rfl (hb hby d1_22) rfl ?_
        show Steps p.tables e below (T0.setTop (mkF m 23 #[.val (.int p0), .val (.int (Int32.ofNat n)), .val (.int (Int32.ofNat (k + 1)))] [(.long ((Int32.ofNat n).toInt64))])) _
        refine XS.lconst X0.here hx rfl (hb hby d1_23) ?_
        show Steps p.tables e below (T0.setTop (mkF m 24 #[.val (.int p0), .val (.int (Int32.ofNat n)), .val (.int (Int32.ofNat (k + 1)))] [(.long (1 : Int64)), (.long ((Int32.ofNat n).toInt64))])) _
        refine XS.iloadN X0.here hx rfl (hb hby d1_24) rfl ?_
        show Steps p.tables e below (T0.setTop (mkF m 25 #[.val (.int p0), .val (.int (Int32.ofNat n)), .val (.int (Int32.ofNat (k + 1)))] [(.int (Int32.ofNat (k + 1))), (.long (1 : Int64)), (.long ((Int32.ofNat n).toInt64))])) _
        refine XS.lshl X0.here hx rfl (hb hby d1_25) rfl ?_
        show Steps p.tables e below (T0.setTop (mkF m 26 #[.val (.int p0), .val (.int (Int32.ofNat n)), .val (.int (Int32.ofNat (k + 1)))] [(.long ((1 : Int64) <<< ((Int32.ofNat (k + 1)) &&& 0x3f).toInt64)), (.long ((Int32.ofNat n).toInt64))])) _
        refine XS.lconst X0.here hx rfl (hb hby d1_26) ?_
        show Steps p.tables e below (T0.setTop (mkF m 27 #[.val (.int p0), .val (.int (Int32.ofNat n)), .val (.int (Int32.ofNat (k + 1)))] [(.long (1 : Int64)), (.long ((1 : Int64) <<< ((Int32.ofNat (k + 1)) &&& 0x3f).toInt64)), (.long ((Int32.ofNat n).toInt64))])) _
        refine XS.lsub X0.here hx rfl (hb hby d1_27) rfl ?_
        show Steps p.tables e below (T0.setTop (mkF m 28 #[.val (.int p0), .val (.int (Int32.ofNat n)), .val (.int (Int32.ofNat (k + 1)))] [(.long (((1 : Int64) <<< ((Int32.ofNat (k + 1)) &&& 0x3f).toInt64) - (1 : Int64))), (.long ((Int32.ofNat n).toInt64))])) _
        refine XS.lcmp X0.here hx rfl (hb hby d1_28) rfl ?_
        show Steps p.tables e below (T0.setTop (mkF m 29 #[.val (.int p0), .val (.int (Int32.ofNat n)), .val (.int (Int32.ofNat (k + 1)))] [(.int (lcmpW ((Int32.ofNat n).toInt64) (((1 : Int64) <<< ((Int32.ofNat (k + 1)) &&& 0x3f).toInt64) - (1 : Int64))))])) _
        exact kZ
      by_cases hc29 : ((Int32.ofNat n).toInt64) = (((1 : Int64) <<< ((Int32.ofNat (k + 1)) &&& 0x3f).toInt64) - (1 : Int64))
      · refine Go.via (T' := T0.setTop (mkF m 32 #[.val (.int p0), .val (.int (Int32.ofNat n)), .val (.int (Int32.ofNat (k + 1)))] [])) (fun tZ kZ => ?_) ?_
        · show Steps p.tables e below (T0.setTop (mkF m 29 #[.val (.int p0), .val (.int (Int32.ofNat n)), .val (.int (Int32.ofNat (k + 1)))] [(.int (lcmpW ((Int32.ofNat n).toInt64) (((1 : Int64) <<< ((Int32.ofNat (k + 1)) &&& 0x3f).toInt64) - (1 : Int64))))])) _
          refine XS.ifNo X0.here hx rfl (hb hby d1_29) rfl ((if0 _ _).trans (teq ((lw_eq _ _).mpr hc29)).2) ?_
          exact kZ
        refine Go.via (T' := T0.setTop (mkF m 37 #[.val (.int p0), .val (.int (Int32.ofNat n)), .val (.int (Int32.ofNat (k + 1)))] [(.long ((1 : Int64) <<< (((Int32.ofNat (k + 1)) - (1 : Int32)) &&& 0x3f).toInt64))])) (fun tZ kZ => ?_) ?_
        · show Steps p.tables e below (T0.setTop (mkF m 32 #[.val (.int p0), .val (.int (Int32.ofNat n)), .val (.int (Int32.ofNat (k + 1)))] [])) _
          refine XS.lconst X0.here hx rfl (hb hby d1_32) ?_
          show Steps p.tables e below (T0.setTop (mkF m 33 #[.val (.int p0), .val (.int (Int32.ofNat n)), .val (.int (Int32.ofNat (k + 1)))] [(.long (1 : Int64))])) _
          refine XS.iloadN X0.here hx rfl (hb hby d1_33) rfl ?_
          show Steps p.tables e below (T0.setTop (mkF m 34 #[.val (.int p0), .val (.int (Int32.ofNat n)), .val (.int (Int32.ofNat (k + 1)))] [(.int (Int32.ofNat (k + 1))), (.long (1 : Int64))])) _
          refine XS.iconst X0.here hx rfl (hb hby d1_34) ?_
          show Steps p.tables e below (T0.setTop (mkF m 35 #[.val (.int p0), .val (.int (Int32.ofNat n)), .val (.int (Int32.ofNat (k + 1)))] [(.int (1 : Int32)), (.int (Int32.ofNat (k + 1))), (.long (1 : Int64))])) _
          refine XS.isub X0.here hx rfl (hb hby d1_35) rfl ?_
          show Steps p.tables e below (T0.setTop (mkF m 36 #[.val (.int p0), .val (.int (Int32.ofNat n)), .val (.int (Int32.ofNat (k + 1)))] [(.int ((Int32.ofNat (k + 1)) - (1 : Int32))), (.long (1 : Int64))])) _
          refine XS.lshl X0.here hx rfl (hb hby d1_36) rfl ?_
          show Steps p.tables e below (T0.setTop (mkF m 37 #[.val (.int p0), .val (.int (Int32.ofNat n)), .val (.int (Int32.ofNat (k + 1)))] [(.long ((1 : Int64) <<< (((Int32.ofNat (k + 1)) - (1 : Int32)) &&& 0x3f).toInt64))])) _
          exact kZ
        have hs' := own_yes29 hk0 h31 hc29
        rw [own_km ⟨k, by omega⟩, own_pw ⟨k, by omega⟩]
        have hv := own_lubyTop hs'
        rw [hV] at hv
        subst hv
        exact hk _
      · refine Go.via (T' := T0.setTop (mkF m 38 #[.val (.int p0), .val (.int (Int32.ofNat n)), .val (.int (Int32.ofNat (k + 1)))] [])) (fun tZ kZ => ?_) ?_
        · show Steps p.tables e below (T0.setTop (mkF m 29 #[.val (.int p0), .val (.int (Int32.ofNat n)), .val (.int (Int32.ofNat (k + 1)))] [(.int (lcmpW ((Int32.ofNat n).toInt64) (((1 : Int64) <<< ((Int32.ofNat (k + 1)) &&& 0x3f).toInt64) - (1 : Int64))))])) _
          refine XS.ifYes X0.here hx rfl (pc0 := 29) (pc' := 38) rfl (hb hby d1_29) rfl ((if0 _ _).trans (feq (fun q => hc29 ((lw_eq _ _).mp q))).2) (by decide) (by decide) ?_
          exact kZ
        refine Go.via (T' := T0.setTop (mkF m 4 #[.val (.int p0), .val (.int ((Int32.ofNat n) - (((1 : Int32) <<< (((Int32.ofNat (k + 1)) - (1 : Int32)) &&& 31)) - (1 : Int32)))), .val (.int (1 : Int32))] [])) (fun tZ kZ => ?_) ?_
        · show Steps p.tables e below (T0.setTop (mkF m 38 #[.val (.int p0), .val (.int (Int32.ofNat n)), .val (.int (Int32.ofNat (k + 1)))] [])) _
          refine XS.iloadN X0.here hx rfl (hb hby d1_38) rfl ?_
          show Steps p.tables e below (T0.setTop (mkF m 39 #[.val (.int p0), .val (.int (Int32.ofNat n)), .val (.int (Int32.ofNat (k + 1)))] [(.int (Int32.ofNat n))])) _
          refine XS.iconst X0.here hx rfl (hb hby d1_39) ?_
          show Steps p.tables e below (T0.setTop (mkF m 40 #[.val (.int p0), .val (.int (Int32.ofNat n)), .val (.int (Int32.ofNat (k + 1)))] [(.int (1 : Int32)), (.int (Int32.ofNat n))])) _
          refine XS.iloadN X0.here hx rfl (hb hby d1_40) rfl ?_
          show Steps p.tables e below (T0.setTop (mkF m 41 #[.val (.int p0), .val (.int (Int32.ofNat n)), .val (.int (Int32.ofNat (k + 1)))] [(.int (Int32.ofNat (k + 1))), (.int (1 : Int32)), (.int (Int32.ofNat n))])) _
          refine XS.iconst X0.here hx rfl (hb hby d1_41) ?_
          show Steps p.tables e below (T0.setTop (mkF m 42 #[.val (.int p0), .val (.int (Int32.ofNat n)), .val (.int (Int32.ofNat (k + 1)))] [(.int (1 : Int32)), (.int (Int32.ofNat (k + 1))), (.int (1 : Int32)), (.int (Int32.ofNat n))])) _
          refine XS.isub X0.here hx rfl (hb hby d1_42) rfl ?_
          show Steps p.tables e below (T0.setTop (mkF m 43 #[.val (.int p0), .val (.int (Int32.ofNat n)), .val (.int (Int32.ofNat (k + 1)))] [(.int ((Int32.ofNat (k + 1)) - (1 : Int32))), (.int (1 : Int32)), (.int (Int32.ofNat n))])) _
          refine XS.ishl X0.here hx rfl (hb hby d1_43) rfl ?_
          show Steps p.tables e below (T0.setTop (mkF m 44 #[.val (.int p0), .val (.int (Int32.ofNat n)), .val (.int (Int32.ofNat (k + 1)))] [(.int ((1 : Int32) <<< (((Int32.ofNat (k + 1)) - (1 : Int32)) &&& 31))), (.int (Int32.ofNat n))])) _
          refine XS.iconst X0.here hx rfl (hb hby d1_44) ?_
          show Steps p.tables e below (T0.setTop (mkF m 45 #[.val (.int p0), .val (.int (Int32.ofNat n)), .val (.int (Int32.ofNat (k + 1)))] [(.int (1 : Int32)), (.int ((1 : Int32) <<< (((Int32.ofNat (k + 1)) - (1 : Int32)) &&& 31))), (.int (Int32.ofNat n))])) _
          refine XS.isub X0.here hx rfl (hb hby d1_45) rfl ?_
          show Steps p.tables e below (T0.setTop (mkF m 46 #[.val (.int p0), .val (.int (Int32.ofNat n)), .val (.int (Int32.ofNat (k + 1)))] [(.int (((1 : Int32) <<< (((Int32.ofNat (k + 1)) - (1 : Int32)) &&& 31)) - (1 : Int32))), (.int (Int32.ofNat n))])) _
          refine XS.isub X0.here hx rfl (hb hby d1_46) rfl ?_
          show Steps p.tables e below (T0.setTop (mkF m 47 #[.val (.int p0), .val (.int (Int32.ofNat n)), .val (.int (Int32.ofNat (k + 1)))] [(.int ((Int32.ofNat n) - (((1 : Int32) <<< (((Int32.ofNat (k + 1)) - (1 : Int32)) &&& 31)) - (1 : Int32))))])) _
          refine XS.istoreN X0.here hx rfl (hb hby d1_47) rfl (l' := #[.val (.int p0), .val (.int ((Int32.ofNat n) - (((1 : Int32) <<< (((Int32.ofNat (k + 1)) - (1 : Int32)) &&& 31)) - (1 : Int32)))), .val (.int (Int32.ofNat (k + 1)))]) rfl ?_
          show Steps p.tables e below (T0.setTop (mkF m 48 #[.val (.int p0), .val (.int ((Int32.ofNat n) - (((1 : Int32) <<< (((Int32.ofNat (k + 1)) - (1 : Int32)) &&& 31)) - (1 : Int32)))), .val (.int (Int32.ofNat (k + 1)))] [])) _
          refine XS.goto X0.here hx rfl (pc0 := 48) (pc' := 2) rfl (hb hby d1_48) (by decide) (by decide) ?_
          show Steps p.tables e below (T0.setTop (mkF m 2 #[.val (.int p0), .val (.int ((Int32.ofNat n) - (((1 : Int32) <<< (((Int32.ofNat (k + 1)) - (1 : Int32)) &&& 31)) - (1 : Int32)))), .val (.int (Int32.ofNat (k + 1)))] [])) _
          refine XS.iconst X0.here hx rfl (hb hby d1_2) ?_
          show Steps p.tables e below (T0.setTop (mkF m 3 #[.val (.int p0), .val (.int ((Int32.ofNat n) - (((1 : Int32) <<< (((Int32.ofNat (k + 1)) - (1 : Int32)) &&& 31)) - (1 : Int32)))), .val (.int (Int32.ofNat (k + 1)))] [(.int (1 : Int32))])) _
          refine XS.istoreN X0.here hx rfl (hb hby d1_3) rfl (l' := #[.val (.int p0), .val (.int ((Int32.ofNat n) - (((1 : Int32) <<< (((Int32.ofNat (k + 1)) - (1 : Int32)) &&& 31)) - (1 : Int32)))), .val (.int (1 : Int32))]) rfl ?_
          show Steps p.tables e below (T0.setTop (mkF m 4 #[.val (.int p0), .val (.int ((Int32.ofNat n) - (((1 : Int32) <<< (((Int32.ofNat (k + 1)) - (1 : Int32)) &&& 31)) - (1 : Int32)))), .val (.int (1 : Int32))] [])) _
          exact kZ
        rw [own_sub h31 (by omega) h2]
        have hs := own_no12 hk0 h31 hc12
        have hs' := own_no29 hk0 h31 hc29
        obtain ⟨q1, q2, q3, -⟩ | q := own_lubyStep h2 (by omega)
        · exact ih (n + 1 - 2 ^ k) 0 (by omega) (by omega) (by omega) (by omega) (by rw [← q1]; exact hV)
        · omega
theorem d1_0 : decode prog_29_method_44_code 0 = .ok (.iload_n 0, 1) := by decide +kernel
theorem d1_1 : decode prog_29_method_44_code 1 = .ok (.istore_n 1, 1) := by decide +kernel
theorem d1_37 : decode prog_29_method_44_code 37 = .ok (.lreturn, 1) := by decide +kernel
def Q1 (n : Nat) (h0 : Heap) (n0 : Nat) (v : Option Value) (h : Heap) (L : List Loc) : Prop := v = some (.long (Int64.ofNat (own_luby n))) ∧ Fr n0 L ∧ h = h0
theorem pn_0 : plainName "com/example/whittle/whittle/engine/SatSolver" = true := by first | (simp [plainName, overriddenIn]; done) | decide +kernel
theorem ef_1_a (m : MethodId) (x0 : Int32) : entryFrame m #[(.int x0)] 3 = mkF m 0 #[.val (.int x0), .unset, .unset] [] := by first | (simp [entryFrame, mkF, argsToLocals, Value.category]; done) | rfl
set_option maxRecDepth 65536 in
set_option maxHeartbeats 40000000 in
theorem rm1 (l : Launch) (Z : State) (a0 : Array Value) (hw : ∀ d ∈ tables_1, d.before a0 Z = true) (ws : List Jvm.Cond) (n : Nat) (h0 : Heap) (n0 : Nat) (Z0 : n0 ≤ h0.size) (h1 : 1 ≤ n) (h31 : n < 2 ^ 31) :
    MetFree l (⟨"com/example/whittle/whittle/engine/SatSolver", "luby", "(I)J"⟩ : MethodName) (head1 (Jvm.Cond.code (⟨"com/example/whittle/whittle/engine/SatSolver", "luby", "(I)J"⟩ : MethodName) prog_29_method_44_code 3 (some .long) :: ws) ({ frames := 0, cells := 0, slots := 0, locals := 0 } : Room)) (fun a U => a = #[(.int (Int32.ofNat n))] ∧ Z.Warmed39 U.vm ∧ U.heap = h0) (fun _ _ _ _ _ => True) (fun _ U o U' => ∃ v L, o = .returned v ∧ Q1 n h0 n0 v U'.heap L ∧ FrameEnd U o U' L ({ frames := 0, cells := 0, slots := 0, locals := 0 } : Room).cells ({ frames := 0, cells := 0, slots := 0, locals := 0 } : Room).slots) := by
  refine MetFree.of_bodySF (plainFor_of_name pn_0) hisR ?_
  intro p e s m args below meth c s₁ Bd hml0 hP hK
  obtain ⟨rfl, hZ, hh⟩ := hP
  have hx := Bd.exec
  have hby := Bd.bytes
  have hml : c.maxLocals = 3 := hml0
  have hown : s.vm.findClass "com/example/whittle/whittle/engine/SatSolver" = some m.cls := findClass_of_methodNamed Bd.named
  have hnm := (name_of_methodNamed Bd.named Bd.method).1
  have X0 : Stand p l e ({ frames := 0, cells := 0, slots := 0, locals := 0 } : Room) s m #[(.int (Int32.ofNat n))] below meth c s₁ [] 0 0 := Stand.of_body Bd
  have e0 : s₁.heap = h0 := by rw [← hh, Bd.state]; rfl
  have N0 := Fr.nil n0
  refine Go.into (P := fun oo uu => ∃ v L, oo = .returned v ∧ Q1 n h0 n0 v uu.heap L ∧ FrameEnd s oo uu L ({ frames := 0, cells := 0, slots := 0, locals := 0 } : Room).cells ({ frames := 0, cells := 0, slots := 0, locals := 0 } : Room).slots) (ef_1_a m (Int32.ofNat n)) ?_
  show Go p e below _ (s₁.setTop (mkF m 0 #[.val (.int (Int32.ofNat n)), .unset, .unset] []))
  refine Go.via (T' := s₁.setTop (mkF m 4 #[.val (.int (Int32.ofNat n)), .val (.int (Int32.ofNat n)), .val (.int (1 : Int32))] [])) (fun tZ kZ => ?_) ?_
  · show Steps p.tables e below (s₁.setTop (mkF m 0 #[.val (.int (Int32.ofNat n)), .unset, .unset] [])) _
    refine XS.iloadN X0.here hx rfl (hb hby d1_0) rfl ?_
    show Steps p.tables e below (s₁.setTop (mkF m 1 #[.val (.int (Int32.ofNat n)), .unset, .unset] [(.int (Int32.ofNat n))])) _
    refine XS.istoreN X0.here hx rfl (hb hby d1_1) rfl (l' := #[.val (.int (Int32.ofNat n)), .val (.int (Int32.ofNat n)), .unset]) rfl ?_
    show Steps p.tables e below (s₁.setTop (mkF m 2 #[.val (.int (Int32.ofNat n)), .val (.int (Int32.ofNat n)), .unset] [])) _
    refine XS.iconst X0.here hx rfl (hb hby d1_2) ?_
    show Steps p.tables e below (s₁.setTop (mkF m 3 #[.val (.int (Int32.ofNat n)), .val (.int (Int32.ofNat n)), .unset] [(.int (1 : Int32))])) _
    refine XS.istoreN X0.here hx rfl (hb hby d1_3) rfl (l' := #[.val (.int (Int32.ofNat n)), .val (.int (Int32.ofNat n)), .val (.int (1 : Int32))]) rfl ?_
    show Steps p.tables e below (s₁.setTop (mkF m 4 #[.val (.int (Int32.ofNat n)), .val (.int (Int32.ofNat n)), .val (.int (1 : Int32))] [])) _
    exact kZ
  refine lp1 X0 hx hby (Int32.ofNat n) (own_luby n) ?_ (n * 64 + 31) n 0 (by omega) h31 (by omega) (by simpa using h1) rfl
  intro Ls
  refine Go.retJ X0 hx Bd.notSynchronized Bd.returns (hb hby d1_37) (by decide) (by decide) ?_
  exact ⟨rfl, N0, e0⟩
theorem own_and (x : Int32) (m : Int32) {k : Nat} (hk : k < 32) (hm : m.toBitVec.toNat = 2 ^ k - 1) : ∃ n : Nat, n < 2 ^ k ∧ x &&& m = Int32.ofNat n := by
  have h := Jvm.Kit.i32_mask x m hk hm
  have p0 : (0 : Int) < 2 ^ k := Int.pow_pos (by decide)
  have b1 := Int.emod_nonneg x.toInt (Int.ne_of_gt p0)
  have b2 := Int.emod_lt_of_pos x.toInt p0
  have pc : ((2 ^ k : Nat) : Int) = 2 ^ k := by simp
  have pk : 2 ^ k ≤ 2 ^ 31 := Nat.pow_le_pow_right (by decide) (by omega)
  refine ⟨(x.toInt % 2 ^ k).toNat, by omega, ?_⟩
  apply Int32.toInt_inj.mp
  rw [h, Int32.toInt_ofNat_of_lt (by omega)]
  omega
theorem own_k1 (a : Int32) : ∃ k : Nat, k ≤ 30 ∧ (1 : Int32) + ((a &&& 31) % 31) = Int32.ofNat (k + 1) := by
  obtain ⟨n, hn, e⟩ := own_and a 31 (k := 5) (by decide) (by decide)
  rw [e]
  refine ⟨n % 31, by omega, ?_⟩
  have : ∀ n : Fin 32, (1 : Int32) + (Int32.ofNat n.val % 31) = Int32.ofNat (n.val % 31 + 1) := by decide +kernel
  exact this ⟨n, hn⟩
theorem own_rem {b k : Nat} (hb : b < 2 ^ 31) (hk : k ≤ 30) : (Int32.ofNat b).toInt64 - ((Int32.ofNat b).toInt64 / Int64.ofNat (2 ^ k)) * Int64.ofNat (2 ^ k) = Int64.ofNat (b % 2 ^ k) := by
  have p0 : 0 < 2 ^ k := Nat.pow_pos (by decide)
  have pk : 2 ^ k ≤ 2 ^ 31 := Nat.pow_le_pow_right (by decide) (by omega)
  have m1 := Nat.mod_lt b p0
  apply Int64.toInt_inj.mp
  rw [Jvm.Kit.i64_rem_nonneg (by rw [own_n64 hb]; omega), own_n64 hb, own_i64 (by omega), own_i64 (by omega)]
  simp
theorem own_hj {h j : Nat} (hh : h ≤ 2 ^ 30) (hj : j < h) : (Int64.ofNat h + Int64.ofNat j).toInt32 = Int32.ofNat (h + j) := by
  apply Int32.toInt_inj.mp
  rw [Int64.toInt_toInt32, Int64.toInt_add, own_i64 (by omega), own_i64 (by omega), own_i32 (by omega)]
  simp only [Int.bmod_def]; omega
theorem own_j1 {j : Nat} (hj : j < 2 ^ 30) : (Int64.ofNat j + 1).toInt32 = Int32.ofNat (j + 1) := by
  apply Int32.toInt_inj.mp
  have e1 : (1 : Int64).toInt = 1 := rfl
  rw [Int64.toInt_toInt32, Int64.toInt_add, own_i64 (by omega), own_i32 (by omega), e1]
  simp only [Int.bmod_def]; omega
theorem own_c38 {h j : Nat} (hh : h ≤ 2 ^ 30) (h1 : 1 ≤ h) (hj : j < h) : Int64.ofNat j = Int64.ofNat h - 1 ↔ j + 1 = h := by
  rw [← Int64.toInt_inj, Int64.toInt_sub, own_i64 (by omega), own_i64 (by omega)]
  have e1 : (1 : Int64).toInt = 1 := rfl
  rw [e1]; simp only [Int.bmod_def]; omega
theorem own_pk {k : Nat} (hk : k ≤ 30) : (1 : Int64) <<< ((Int32.ofNat (k + 1) - 1) &&& 0x3f).toInt64 = Int64.ofNat (2 ^ k) := by
  rw [own_km ⟨k, by omega⟩]; exact own_pw ⟨k, by omega⟩
theorem own_nz {k : Nat} (hk : k ≤ 30) : Int64.ofNat (2 ^ k) ≠ 0 := by
  have p0 : 0 < 2 ^ k := Nat.pow_pos (by decide)
  have pk : 2 ^ k ≤ 2 ^ 31 := Nat.pow_le_pow_right (by decide) (by omega)
  intro q
  have r := congrArg Int64.toInt q
  rw [own_i64 (by omega)] at r
  have e1 : (0 : Int64).toInt = 0 := rfl
  omega
theorem own_t1 {k j : Nat} (h : j + 1 = 2 ^ k) : Int64.ofNat (own_luby (2 ^ k + j)) = Int64.ofNat (2 ^ k) := by
  rw [own_lubyTop (k := k)]; have e : 2 ^ (k + 1) = 2 ^ k * 2 := Nat.pow_succ 2 k; omega
theorem own_t2 {k j : Nat} (hk : k ≤ 30) (hj : j < 2 ^ k) (h : ¬ j + 1 = 2 ^ k) : Int64.ofNat (own_luby (2 ^ k + j)) = Int64.ofNat (own_luby (j + 1)) := by
  have e : 2 ^ (k + 1) = 2 ^ k * 2 := Nat.pow_succ 2 k
  obtain ⟨q, -⟩ | q := own_lubyStep (n := 2 ^ k + j) (k := k) (by omega) (by omega)
  · rw [q]; congr 2; omega
  · omega
def Q0 (n0 : Nat) (v : Option Value) (h : Heap) (L : List Loc) : Prop := v = some (.int 1) ∧ Fr n0 L
theorem pd_0 : parseMethodDescriptor "(I)J" = some ⟨[.int], some .long⟩ := by decide +kernel
theorem pn_1 : plainName "com/example/whittle/whittle/engine/SatSolverLubyPinLaw" = true := by first | (simp [plainName, overriddenIn]; done) | decide +kernel
theorem ef_0_aa (m : MethodId) (x0 : Int32) (x1 : Int32) : entryFrame m #[(.int x0), (.int x1)] maxLocals = mkF m 0 #[.val (.int x0), .val (.int x1), .unset, .unset, .unset, .unset, .unset, .unset] [] := by first | (simp [entryFrame, mkF, argsToLocals, Value.category, maxLocals]; done) | rfl
set_option maxRecDepth 65536 in
set_option maxHeartbeats 40000000 in
theorem rm0 (l : Launch) (Z : State) (a0 : Array Value) (hw : ∀ d ∈ tables_1, d.before a0 Z = true) (ws : List Jvm.Cond) (p0 : Int32) (p1 : Int32) (h0 : Heap) (n0 : Nat) (Z0 : n0 ≤ h0.size) :
    MetFree l x (head1 (Jvm.Cond.code x code maxLocals ret :: ws) room_1) (fun a U => a = #[(.int p0), (.int p1)] ∧ Z.Warmed39 U.vm ∧ U.heap = h0) (fun _ _ _ _ _ => True) (fun _ U o U' => ∃ v L, o = .returned v ∧ Q0 n0 v U'.heap L ∧ FrameEnd U o U' L 0 0) := by
  refine MetFree.of_bodySF (plainFor_of_name pn_1) hisR ?_
  intro p e s m args below meth c s₁ Bd hml0 hP hK
  obtain ⟨rfl, hZ, hh⟩ := hP
  have hx := Bd.exec
  have hby := Bd.bytes
  have hml : c.maxLocals = 8 := hml0
  have hown : s.vm.findClass "com/example/whittle/whittle/engine/SatSolverLubyPinLaw" = some m.cls := findClass_of_methodNamed Bd.named
  have hnm := (name_of_methodNamed Bd.named Bd.method).1
  have X0 : Stand p l e room_1 s m #[(.int p0), (.int p1)] below meth c s₁ [] 0 0 := Stand.of_body Bd
  have e0 : s₁.heap = h0 := by rw [← hh, Bd.state]; rfl
  have N0 := Fr.nil n0
  refine Go.into (P := fun oo uu => ∃ v L, oo = .returned v ∧ Q0 n0 v uu.heap L ∧ FrameEnd s oo uu L 0 0) (ef_0_aa m p0 p1) ?_
  show Go p e below _ (s₁.setTop (mkF m 0 #[.val (.int p0), .val (.int p1), .unset, .unset, .unset, .unset, .unset, .unset] []))
  refine Go.via (T' := s₁.setTop (mkF m 10 #[.val (.int p0), .val (.int p1), .val (.int ((1 : Int32) + ((p0 &&& (31 : Int32)) % (31 : Int32)))), .unset, .unset, .unset, .unset, .unset] [])) (fun tZ kZ => ?_) ?_
  · show Steps p.tables e below (s₁.setTop (mkF m 0 #[.val (.int p0), .val (.int p1), .unset, .unset, .unset, .unset, .unset, .unset] [])) _
    refine XS.iconst X0.here hx rfl (hb hby at_0) ?_
    show Steps p.tables e below (s₁.setTop (mkF m 1 #[.val (.int p0), .val (.int p1), .unset, .unset, .unset, .unset, .unset, .unset] [(.int (1 : Int32))])) _
    refine XS.iloadN X0.here hx rfl (hb hby at_1) rfl ?_
    show Steps p.tables e below (s₁.setTop (mkF m 2 #[.val (.int p0), .val (.int p1), .unset, .unset, .unset, .unset, .unset, .unset] [(.int p0), (.int (1 : Int32))])) _
    refine XS.bipush X0.here hx rfl (hb hby at_2) ?_
    show Steps p.tables e below (s₁.setTop (mkF m 4 #[.val (.int p0), .val (.int p1), .unset, .unset, .unset, .unset, .unset, .unset] [(.int (31 : Int32)), (.int p0), (.int (1 : Int32))])) _
    refine XS.iand X0.here hx rfl (hb hby at_4) rfl ?_
    show Steps p.tables e below (s₁.setTop (mkF m 5 #[.val (.int p0), .val (.int p1), .unset, .unset, .unset, .unset, .unset, .unset] [(.int (p0 &&& (31 : Int32))), (.int (1 : Int32))])) _
    refine XS.bipush X0.here hx rfl (hb hby at_5) ?_
    show Steps p.tables e below (s₁.setTop (mkF m 7 #[.val (.int p0), .val (.int p1), .unset, .unset, .unset, .unset, .unset, .unset] [(.int (31 : Int32)), (.int (p0 &&& (31 : Int32))), (.int (1 : Int32))])) _
    refine iremM X0 hx rfl (hb hby at_7) rfl (by decide) ?_
    show Steps p.tables e below (s₁.setTop (mkF m 8 #[.val (.int p0), .val (.int p1), .unset, .unset, .unset, .unset, .unset, .unset] [(.int ((p0 &&& (31 : Int32)) % (31 : Int32))), (.int (1 : Int32))])) _
    refine XS.iadd X0.here hx rfl (hb hby at_8) rfl ?_
    show Steps p.tables e below (s₁.setTop (mkF m 9 #[.val (.int p0), .val (.int p1), .unset, .unset, .unset, .unset, .unset, .unset] [(.int ((1 : Int32) + ((p0 &&& (31 : Int32)) % (31 : Int32))))])) _
    refine XS.istoreN X0.here hx rfl (hb hby at_9) rfl (l' := #[.val (.int p0), .val (.int p1), .val (.int ((1 : Int32) + ((p0 &&& (31 : Int32)) % (31 : Int32)))), .unset, .unset, .unset, .unset, .unset]) rfl ?_
    show Steps p.tables e below (s₁.setTop (mkF m 10 #[.val (.int p0), .val (.int p1), .val (.int ((1 : Int32) + ((p0 &&& (31 : Int32)) % (31 : Int32)))), .unset, .unset, .unset, .unset, .unset] [])) _
    exact kZ
  obtain ⟨k, hk, ek⟩ := own_k1 p0
  rw [ek]
  show Go p e below _ (s₁.setTop (mkF m 10 #[.val (.int p0), .val (.int p1), .val (.int (Int32.ofNat (k + 1))), .unset, .unset, .unset, .unset, .unset] []))
  refine Go.via (T' := s₁.setTop (mkF m 16 #[.val (.int p0), .val (.int p1), .val (.int (Int32.ofNat (k + 1))), .val (.long ((1 : Int64) <<< (((Int32.ofNat (k + 1)) - (1 : Int32)) &&& 0x3f).toInt64)), .second, .unset, .unset, .unset] [])) (fun tZ kZ => ?_) ?_
  · show Steps p.tables e below (s₁.setTop (mkF m 10 #[.val (.int p0), .val (.int p1), .val (.int (Int32.ofNat (k + 1))), .unset, .unset, .unset, .unset, .unset] [])) _
    refine XS.lconst X0.here hx rfl (hb hby at_10) ?_
    show Steps p.tables e below (s₁.setTop (mkF m 11 #[.val (.int p0), .val (.int p1), .val (.int (Int32.ofNat (k + 1))), .unset, .unset, .unset, .unset, .unset] [(.long (1 : Int64))])) _
    refine XS.iloadN X0.here hx rfl (hb hby at_11) rfl ?_
    show Steps p.tables e below (s₁.setTop (mkF m 12 #[.val (.int p0), .val (.int p1), .val (.int (Int32.ofNat (k + 1))), .unset, .unset, .unset, .unset, .unset] [(.int (Int32.ofNat (k + 1))), (.long (1 : Int64))])) _
    refine XS.iconst X0.here hx rfl (hb hby at_12) ?_
    show Steps p.tables e below (s₁.setTop (mkF m 13 #[.val (.int p0), .val (.int p1), .val (.int (Int32.ofNat (k + 1))), .unset, .unset, .unset, .unset, .unset] [(.int (1 : Int32)), (.int (Int32.ofNat (k + 1))), (.long (1 : Int64))])) _
    refine XS.isub X0.here hx rfl (hb hby at_13) rfl ?_
    show Steps p.tables e below (s₁.setTop (mkF m 14 #[.val (.int p0), .val (.int p1), .val (.int (Int32.ofNat (k + 1))), .unset, .unset, .unset, .unset, .unset] [(.int ((Int32.ofNat (k + 1)) - (1 : Int32))), (.long (1 : Int64))])) _
    refine XS.lshl X0.here hx rfl (hb hby at_14) rfl ?_
    show Steps p.tables e below (s₁.setTop (mkF m 15 #[.val (.int p0), .val (.int p1), .val (.int (Int32.ofNat (k + 1))), .unset, .unset, .unset, .unset, .unset] [(.long ((1 : Int64) <<< (((Int32.ofNat (k + 1)) - (1 : Int32)) &&& 0x3f).toInt64))])) _
    refine XS.lstoreN X0.here hx rfl (hb hby at_15) rfl (l' := #[.val (.int p0), .val (.int p1), .val (.int (Int32.ofNat (k + 1))), .val (.long ((1 : Int64) <<< (((Int32.ofNat (k + 1)) - (1 : Int32)) &&& 0x3f).toInt64)), .second, .unset, .unset, .unset]) rfl ?_
    show Steps p.tables e below (s₁.setTop (mkF m 16 #[.val (.int p0), .val (.int p1), .val (.int (Int32.ofNat (k + 1))), .val (.long ((1 : Int64) <<< (((Int32.ofNat (k + 1)) - (1 : Int32)) &&& 0x3f).toInt64)), .second, .unset, .unset, .unset] [])) _
    exact kZ
  rw [own_pk hk]
  have p2 : 1 ≤ 2 ^ k := Nat.pow_pos (by decide)
  have p3 : 2 ^ k ≤ 2 ^ 30 := Nat.pow_le_pow_right (by decide) hk
  obtain ⟨hf, ehf⟩ : ∃ z, z = 2 ^ k := ⟨_, rfl⟩
  show Go p e below _ (s₁.setTop (mkF m 16 #[.val (.int p0), .val (.int p1), .val (.int (Int32.ofNat (k + 1))), .val (.long (Int64.ofNat (2 ^ k))), .second, .unset, .unset, .unset] []))
  refine Go.via (T' := s₁.setTop (mkF m 22 #[.val (.int p0), .val (.int p1), .val (.int (Int32.ofNat (k + 1))), .val (.long (Int64.ofNat (2 ^ k))), .second, .unset, .unset, .unset] [(.long (Int64.ofNat (2 ^ k))), (.long ((p1 &&& (2147483647 : Int32)).toInt64))])) (fun tZ kZ => ?_) ?_
  · show Steps p.tables e below (s₁.setTop (mkF m 16 #[.val (.int p0), .val (.int p1), .val (.int (Int32.ofNat (k + 1))), .val (.long (Int64.ofNat (2 ^ k))), .second, .unset, .unset, .unset] [])) _
    refine XS.iloadN X0.here hx rfl (hb hby at_16) rfl ?_
    show Steps p.tables e below (s₁.setTop (mkF m 17 #[.val (.int p0), .val (.int p1), .val (.int (Int32.ofNat (k + 1))), .val (.long (Int64.ofNat (2 ^ k))), .second, .unset, .unset, .unset] [(.int p1)])) _
    refine X0.ldcInt hx hown (mvT hZ (hw _ (List.mem_of_getElem? (i := 0) rfl))) (g := (mkF m 17 #[.val (.int p0), .val (.int p1), .val (.int (Int32.ofNat (k + 1))), .val (.long (Int64.ofNat (2 ^ k))), .second, .unset, .unset, .unset] [(.int p1)])) rfl (hb hby at_17) _ ?_
    show Steps p.tables e below (s₁.setTop (mkF m 19 #[.val (.int p0), .val (.int p1), .val (.int (Int32.ofNat (k + 1))), .val (.long (Int64.ofNat (2 ^ k))), .second, .unset, .unset, .unset] [(.int (2147483647 : Int32)), (.int p1)])) _
    refine XS.iand X0.here hx rfl (hb hby at_19) rfl ?_
    show Steps p.tables e below (s₁.setTop (mkF m 20 #[.val (.int p0), .val (.int p1), .val (.int (Int32.ofNat (k + 1))), .val (.long (Int64.ofNat (2 ^ k))), .second, .unset, .unset, .unset] [(.int (p1 &&& (2147483647 : Int32)))])) _
    refine XS.i2l X0.here hx rfl (hb hby at_20) rfl ?_
    show Steps p.tables e below (s₁.setTop (mkF m 21 #[.val (.int p0), .val (.int p1), .val (.int (Int32.ofNat (k + 1))), .val (.long (Int64.ofNat (2 ^ k))), .second, .unset, .unset, .unset] [(.long ((p1 &&& (2147483647 : Int32)).toInt64))])) _
    refine XS.lloadN X0.here hx rfl (hb hby at_21) rfl ?_
    show Steps p.tables e below (s₁.setTop (mkF m 22 #[.val (.int p0), .val (.int p1), .val (.int (Int32.ofNat (k + 1))), .val (.long (Int64.ofNat (2 ^ k))), .second, .unset, .unset, .unset] [(.long (Int64.ofNat (2 ^ k))), (.long ((p1 &&& (2147483647 : Int32)).toInt64))])) _
    exact kZ
  obtain ⟨b, hb31, eb⟩ := own_and p1 2147483647 (k := 31) (by decide) (by decide)
  rw [eb]
  show Go p e below _ (s₁.setTop (mkF m 22 #[.val (.int p0), .val (.int p1), .val (.int (Int32.ofNat (k + 1))), .val (.long (Int64.ofNat (2 ^ k))), .second, .unset, .unset, .unset] [(.long (Int64.ofNat (2 ^ k))), (.long ((Int32.ofNat b).toInt64))]))
  refine Go.via (T' := s₁.setTop (mkF m 25 #[.val (.int p0), .val (.int p1), .val (.int (Int32.ofNat (k + 1))), .val (.long (Int64.ofNat (2 ^ k))), .second, .val (.long (((Int32.ofNat b).toInt64) - (((Int32.ofNat b).toInt64) / (Int64.ofNat (2 ^ k))) * (Int64.ofNat (2 ^ k)))), .second, .unset] [])) (fun tZ kZ => ?_) ?_
  · show Steps p.tables e below (s₁.setTop (mkF m 22 #[.val (.int p0), .val (.int p1), .val (.int (Int32.ofNat (k + 1))), .val (.long (Int64.ofNat (2 ^ k))), .second, .unset, .unset, .unset] [(.long (Int64.ofNat (2 ^ k))), (.long ((Int32.ofNat b).toInt64))])) _
    refine XS.lrem X0.here hx rfl (hb hby at_22) rfl (own_nz hk) ?_
    show Steps p.tables e below (s₁.setTop (mkF m 23 #[.val (.int p0), .val (.int p1), .val (.int (Int32.ofNat (k + 1))), .val (.long (Int64.ofNat (2 ^ k))), .second, .unset, .unset, .unset] [(.long (((Int32.ofNat b).toInt64) - (((Int32.ofNat b).toInt64) / (Int64.ofNat (2 ^ k))) * (Int64.ofNat (2 ^ k))))])) _
    refine XS.lstore X0.here hx rfl (hb hby at_23) rfl (l' := #[.val (.int p0), .val (.int p1), .val (.int (Int32.ofNat (k + 1))), .val (.long (Int64.ofNat (2 ^ k))), .second, .val (.long (((Int32.ofNat b).toInt64) - (((Int32.ofNat b).toInt64) / (Int64.ofNat (2 ^ k))) * (Int64.ofNat (2 ^ k)))), .second, .unset]) rfl ?_
    show Steps p.tables e below (s₁.setTop (mkF m 25 #[.val (.int p0), .val (.int p1), .val (.int (Int32.ofNat (k + 1))), .val (.long (Int64.ofNat (2 ^ k))), .second, .val (.long (((Int32.ofNat b).toInt64) - (((Int32.ofNat b).toInt64) / (Int64.ofNat (2 ^ k))) * (Int64.ofNat (2 ^ k)))), .second, .unset] [])) _
    exact kZ
  rw [own_rem hb31 hk]
  have hj : b % 2 ^ k < 2 ^ k := Nat.mod_lt _ p2
  generalize b % 2 ^ k = j at *
  rw [← ehf] at hj p2 p3 ⊢
  show Go p e below _ (s₁.setTop (mkF m 25 #[.val (.int p0), .val (.int p1), .val (.int (Int32.ofNat (k + 1))), .val (.long (Int64.ofNat hf)), .second, .val (.long (Int64.ofNat j)), .second, .unset] []))
  refine Go.via (T' := s₁.setTop (mkF m 32 #[.val (.int p0), .val (.int p1), .val (.int (Int32.ofNat (k + 1))), .val (.long (Int64.ofNat hf)), .second, .val (.long (Int64.ofNat j)), .second, .val (.int (((Int64.ofNat hf) + (Int64.ofNat j)).toInt32))] [])) (fun tZ kZ => ?_) ?_
  · show Steps p.tables e below (s₁.setTop (mkF m 25 #[.val (.int p0), .val (.int p1), .val (.int (Int32.ofNat (k + 1))), .val (.long (Int64.ofNat hf)), .second, .val (.long (Int64.ofNat j)), .second, .unset] [])) _
    refine XS.lloadN X0.here hx rfl (hb hby at_25) rfl ?_
    show Steps p.tables e below (s₁.setTop (mkF m 26 #[.val (.int p0), .val (.int p1), .val (.int (Int32.ofNat (k + 1))), .val (.long (Int64.ofNat hf)), .second, .val (.long (Int64.ofNat j)), .second, .unset] [(.long (Int64.ofNat hf))])) _
    refine XS.lload X0.here hx rfl (hb hby at_26) rfl ?_
    show Steps p.tables e below (s₁.setTop (mkF m 28 #[.val (.int p0), .val (.int p1), .val (.int (Int32.ofNat (k + 1))), .val (.long (Int64.ofNat hf)), .second, .val (.long (Int64.ofNat j)), .second, .unset] [(.long (Int64.ofNat j)), (.long (Int64.ofNat hf))])) _
    refine XS.ladd X0.here hx rfl (hb hby at_28) rfl ?_
    show Steps p.tables e below (s₁.setTop (mkF m 29 #[.val (.int p0), .val (.int p1), .val (.int (Int32.ofNat (k + 1))), .val (.long (Int64.ofNat hf)), .second, .val (.long (Int64.ofNat j)), .second, .unset] [(.long ((Int64.ofNat hf) + (Int64.ofNat j)))])) _
    refine XS.l2i X0.here hx rfl (hb hby at_29) rfl ?_
    show Steps p.tables e below (s₁.setTop (mkF m 30 #[.val (.int p0), .val (.int p1), .val (.int (Int32.ofNat (k + 1))), .val (.long (Int64.ofNat hf)), .second, .val (.long (Int64.ofNat j)), .second, .unset] [(.int (((Int64.ofNat hf) + (Int64.ofNat j)).toInt32))])) _
    refine XS.istore X0.here hx rfl (hb hby at_30) rfl (l' := #[.val (.int p0), .val (.int p1), .val (.int (Int32.ofNat (k + 1))), .val (.long (Int64.ofNat hf)), .second, .val (.long (Int64.ofNat j)), .second, .val (.int (((Int64.ofNat hf) + (Int64.ofNat j)).toInt32))]) rfl ?_
    show Steps p.tables e below (s₁.setTop (mkF m 32 #[.val (.int p0), .val (.int p1), .val (.int (Int32.ofNat (k + 1))), .val (.long (Int64.ofNat hf)), .second, .val (.long (Int64.ofNat j)), .second, .val (.int (((Int64.ofNat hf) + (Int64.ofNat j)).toInt32))] [])) _
    exact kZ
  rw [own_hj p3 hj]
  show Go p e below _ (s₁.setTop (mkF m 32 #[.val (.int p0), .val (.int p1), .val (.int (Int32.ofNat (k + 1))), .val (.long (Int64.ofNat hf)), .second, .val (.long (Int64.ofNat j)), .second, .val (.int (Int32.ofNat (hf + j)))] []))
  refine Go.via (T' := s₁.setTop (mkF m 38 #[.val (.int p0), .val (.int p1), .val (.int (Int32.ofNat (k + 1))), .val (.long (Int64.ofNat hf)), .second, .val (.long (Int64.ofNat j)), .second, .val (.int (Int32.ofNat (hf + j)))] [(.int (lcmpW (Int64.ofNat j) ((Int64.ofNat hf) - (1 : Int64))))])) (fun tZ kZ => ?_) ?_
  · show Steps p.tables e below (s₁.setTop (mkF m 32 #[.val (.int p0), .val (.int p1), .val (.int (Int32.ofNat (k + 1))), .val (.long (Int64.ofNat hf)), .second, .val (.long (Int64.ofNat j)), .second, .val (.int (Int32.ofNat (hf + j)))] [])) _
    refine XS.lload X0.here hx rfl (hb hby at_32) rfl ?_
    show Steps p.tables e below (s₁.setTop (mkF m 34 #[.val (.int p0), .val (.int p1), .val (.int (Int32.ofNat (k + 1))), .val (.long (Int64.ofNat hf)), .second, .val (.long (Int64.ofNat j)), .second, .val (.int (Int32.ofNat (hf + j)))] [(.long (Int64.ofNat j))])) _
    refine XS.lloadN X0.here hx rfl (hb hby at_34) rfl ?_
    show Steps p.tables e below (s₁.setTop (mkF m 35 #[.val (.int p0), .val (.int p1), .val (.int (Int32.ofNat (k + 1))), .val (.long (Int64.ofNat hf)), .second, .val (.long (Int64.ofNat j)), .second, .val (.int (Int32.ofNat (hf + j)))] [(.long (Int64.ofNat hf)), (.long (Int64.ofNat j))])) _
    refine XS.lconst X0.here hx rfl (hb hby at_35) ?_
    show Steps p.tables e below (s₁.setTop (mkF m 36 #[.val (.int p0), .val (.int p1), .val (.int (Int32.ofNat (k + 1))), .val (.long (Int64.ofNat hf)), .second, .val (.long (Int64.ofNat j)), .second, .val (.int (Int32.ofNat (hf + j)))] [(.long (1 : Int64)), (.long (Int64.ofNat hf)), (.long (Int64.ofNat j))])) _
    refine XS.lsub X0.here hx rfl (hb hby at_36) rfl ?_
    show Steps p.tables e below (s₁.setTop (mkF m 37 #[.val (.int p0), .val (.int p1), .val (.int (Int32.ofNat (k + 1))), .val (.long (Int64.ofNat hf)), .second, .val (.long (Int64.ofNat j)), .second, .val (.int (Int32.ofNat (hf + j)))] [(.long ((Int64.ofNat hf) - (1 : Int64))), (.long (Int64.ofNat j))])) _
    refine XS.lcmp X0.here hx rfl (hb hby at_37) rfl ?_
    show Steps p.tables e below (s₁.setTop (mkF m 38 #[.val (.int p0), .val (.int p1), .val (.int (Int32.ofNat (k + 1))), .val (.long (Int64.ofNat hf)), .second, .val (.long (Int64.ofNat j)), .second, .val (.int (Int32.ofNat (hf + j)))] [(.int (lcmpW (Int64.ofNat j) ((Int64.ofNat hf) - (1 : Int64))))])) _
    exact kZ
  by_cases hc38 : (Int64.ofNat j) = ((Int64.ofNat hf) - (1 : Int64))
  · refine Go.via (T' := s₁.setTop (mkF m 41 #[.val (.int p0), .val (.int p1), .val (.int (Int32.ofNat (k + 1))), .val (.long (Int64.ofNat hf)), .second, .val (.long (Int64.ofNat j)), .second, .val (.int (Int32.ofNat (hf + j)))] [])) (fun tZ kZ => ?_) ?_
    · show Steps p.tables e below (s₁.setTop (mkF m 38 #[.val (.int p0), .val (.int p1), .val (.int (Int32.ofNat (k + 1))), .val (.long (Int64.ofNat hf)), .second, .val (.long (Int64.ofNat j)), .second, .val (.int (Int32.ofNat (hf + j)))] [(.int (lcmpW (Int64.ofNat j) ((Int64.ofNat hf) - (1 : Int64))))])) _
      refine XS.ifNo X0.here hx rfl (hb hby at_38) rfl ((if0 _ _).trans (teq ((lw_eq _ _).mpr hc38)).2) ?_
      exact kZ
    refine Go.via (T' := s₁.setTop (mkF m 43 #[.val (.int p0), .val (.int p1), .val (.int (Int32.ofNat (k + 1))), .val (.long (Int64.ofNat hf)), .second, .val (.long (Int64.ofNat j)), .second, .val (.int (Int32.ofNat (hf + j)))] [(.int (Int32.ofNat (hf + j)))])) (fun tZ kZ => ?_) ?_
    · show Steps p.tables e below (s₁.setTop (mkF m 41 #[.val (.int p0), .val (.int p1), .val (.int (Int32.ofNat (k + 1))), .val (.long (Int64.ofNat hf)), .second, .val (.long (Int64.ofNat j)), .second, .val (.int (Int32.ofNat (hf + j)))] [])) _
      refine XS.iload X0.here hx rfl (hb hby at_41) rfl ?_
      show Steps p.tables e below (s₁.setTop (mkF m 43 #[.val (.int p0), .val (.int p1), .val (.int (Int32.ofNat (k + 1))), .val (.long (Int64.ofNat hf)), .second, .val (.long (Int64.ofNat j)), .second, .val (.int (Int32.ofNat (hf + j)))] [(.int (Int32.ofNat (hf + j)))])) _
      exact kZ
    obtain ⟨_, _, ⟨T1, L1, k1, n1⟩, -, X1, ⟨Lc1, hQ1, l1, y1, z1⟩, st1⟩ := Jvm.LawKit.callS X0 hx (y := (⟨"com/example/whittle/whittle/engine/SatSolver", "luby", "(I)J"⟩ : MethodName)) hown (mvT hZ (hw _ (List.mem_of_getElem? (i := 1) rfl))) (mvT hZ (hw _ (List.mem_of_getElem? (i := 2) rfl))) (mvT hZ (hw _ (List.mem_of_getElem? (i := 3) rfl))) (mvT hZ (hw _ (List.mem_of_getElem? (i := 4) rfl))) (by decide) (backOf (W := 0) (rm1 l Z a0 hw [] (hf + j) h0 n0 Z0 (by omega) (by omega)) hZ (hw _ (List.mem_of_getElem? (i := 4) rfl)) (hw _ (List.mem_of_getElem? (i := 3) rfl)) (by decide) (by decide)) (g := (mkF m 43 #[.val (.int p0), .val (.int p1), .val (.int (Int32.ofNat (k + 1))), .val (.long (Int64.ofNat hf)), .second, .val (.long (Int64.ofNat j)), .second, .val (.int (Int32.ofNat (hf + j)))] [(.int (Int32.ofNat (hf + j)))])) rfl (by rw [hml]; rfl) (argsL := [(.int (Int32.ofNat (hf + j)))]) (rest := []) (lenOf pd_0 rfl) rfl (by show 2 * 0 + _ ≤ _; exact Nat.le_of_eq rfl) (hb hby at_43) (fun _ _ => ⟨rfl, e0, (by decide : 0 + 0 ≤ _), (by decide : 0 + 0 ≤ _)⟩)
    dsimp only [Pt.U, Pt.locs, Pt.cells, Pt.slots] at X1 l1 y1 z1 st1 hQ1
    subst l1 y1 z1
    obtain ⟨rfl, N1q, e1⟩ := hQ1
    have N1 := Fr.app N0 N1q
    refine Go.via st1 ?_
    show Go p e below _ (T1.setTop (mkF m 46 #[.val (.int p0), .val (.int p1), .val (.int (Int32.ofNat (k + 1))), .val (.long (Int64.ofNat hf)), .second, .val (.long (Int64.ofNat j)), .second, .val (.int (Int32.ofNat (hf + j)))] [(.long (Int64.ofNat (own_luby (hf + j))))]))
    refine Go.via (T' := T1.setTop (mkF m 56 #[.val (.int p0), .val (.int p1), .val (.int (Int32.ofNat (k + 1))), .val (.long (Int64.ofNat hf)), .second, .val (.long (Int64.ofNat j)), .second, .val (.int (Int32.ofNat (hf + j)))] [(.int (1 : Int32))])) (fun tZ kZ => ?_) ?_
    · show Steps p.tables e below (T1.setTop (mkF m 46 #[.val (.int p0), .val (.int p1), .val (.int (Int32.ofNat (k + 1))), .val (.long (Int64.ofNat hf)), .second, .val (.long (Int64.ofNat j)), .second, .val (.int (Int32.ofNat (hf + j)))] [(.long (Int64.ofNat (own_luby (hf + j))))])) _
      refine XS.lloadN X1.here hx rfl (hb hby at_46) rfl ?_
      show Steps p.tables e below (T1.setTop (mkF m 47 #[.val (.int p0), .val (.int p1), .val (.int (Int32.ofNat (k + 1))), .val (.long (Int64.ofNat hf)), .second, .val (.long (Int64.ofNat j)), .second, .val (.int (Int32.ofNat (hf + j)))] [(.long (Int64.ofNat hf)), (.long (Int64.ofNat (own_luby (hf + j))))])) _
      refine XS.lcmp X1.here hx rfl (hb hby at_47) rfl ?_
      show Steps p.tables e below (T1.setTop (mkF m 48 #[.val (.int p0), .val (.int p1), .val (.int (Int32.ofNat (k + 1))), .val (.long (Int64.ofNat hf)), .second, .val (.long (Int64.ofNat j)), .second, .val (.int (Int32.ofNat (hf + j)))] [(.int (lcmpW (Int64.ofNat (own_luby (hf + j))) (Int64.ofNat hf)))])) _
      refine XS.ifNo X1.here hx rfl (hb hby at_48) rfl ((if0 _ _).trans (teq ((lw_eq _ _).mpr (by have q := (own_c38 p3 p2 hj).mp hc38; subst ehf; exact own_t1 q))).2) ?_
      show Steps p.tables e below (T1.setTop (mkF m 51 #[.val (.int p0), .val (.int p1), .val (.int (Int32.ofNat (k + 1))), .val (.long (Int64.ofNat hf)), .second, .val (.long (Int64.ofNat j)), .second, .val (.int (Int32.ofNat (hf + j)))] [])) _
      refine XS.iconst X1.here hx rfl (hb hby at_51) ?_
      show Steps p.tables e below (T1.setTop (mkF m 52 #[.val (.int p0), .val (.int p1), .val (.int (Int32.ofNat (k + 1))), .val (.long (Int64.ofNat hf)), .second, .val (.long (Int64.ofNat j)), .second, .val (.int (Int32.ofNat (hf + j)))] [(.int (1 : Int32))])) _
      refine XS.goto X1.here hx rfl (pc0 := 52) (pc' := 56) rfl (hb hby at_52) (by decide) (by decide) ?_
      show Steps p.tables e below (T1.setTop (mkF m 56 #[.val (.int p0), .val (.int p1), .val (.int (Int32.ofNat (k + 1))), .val (.long (Int64.ofNat hf)), .second, .val (.long (Int64.ofNat j)), .second, .val (.int (Int32.ofNat (hf + j)))] [(.int (1 : Int32))])) _
      exact kZ
    refine Go.retN X1 hx Bd.notSynchronized (t := .boolean) Bd.returns (by simp) (hb hby at_56) (by decide) (by decide) ?_
    exact ⟨rfl, N1⟩
  · refine Go.via (T' := s₁.setTop (mkF m 57 #[.val (.int p0), .val (.int p1), .val (.int (Int32.ofNat (k + 1))), .val (.long (Int64.ofNat hf)), .second, .val (.long (Int64.ofNat j)), .second, .val (.int (Int32.ofNat (hf + j)))] [])) (fun tZ kZ => ?_) ?_
    · show Steps p.tables e below (s₁.setTop (mkF m 38 #[.val (.int p0), .val (.int p1), .val (.int (Int32.ofNat (k + 1))), .val (.long (Int64.ofNat hf)), .second, .val (.long (Int64.ofNat j)), .second, .val (.int (Int32.ofNat (hf + j)))] [(.int (lcmpW (Int64.ofNat j) ((Int64.ofNat hf) - (1 : Int64))))])) _
      refine XS.ifYes X0.here hx rfl (pc0 := 38) (pc' := 57) rfl (hb hby at_38) rfl ((if0 _ _).trans (feq (fun q => hc38 ((lw_eq _ _).mp q))).2) (by decide) (by decide) ?_
      exact kZ
    refine Go.via (T' := s₁.setTop (mkF m 59 #[.val (.int p0), .val (.int p1), .val (.int (Int32.ofNat (k + 1))), .val (.long (Int64.ofNat hf)), .second, .val (.long (Int64.ofNat j)), .second, .val (.int (Int32.ofNat (hf + j)))] [(.int (Int32.ofNat (hf + j)))])) (fun tZ kZ => ?_) ?_
    · show Steps p.tables e below (s₁.setTop (mkF m 57 #[.val (.int p0), .val (.int p1), .val (.int (Int32.ofNat (k + 1))), .val (.long (Int64.ofNat hf)), .second, .val (.long (Int64.ofNat j)), .second, .val (.int (Int32.ofNat (hf + j)))] [])) _
      refine XS.iload X0.here hx rfl (hb hby at_57) rfl ?_
      show Steps p.tables e below (s₁.setTop (mkF m 59 #[.val (.int p0), .val (.int p1), .val (.int (Int32.ofNat (k + 1))), .val (.long (Int64.ofNat hf)), .second, .val (.long (Int64.ofNat j)), .second, .val (.int (Int32.ofNat (hf + j)))] [(.int (Int32.ofNat (hf + j)))])) _
      exact kZ
    obtain ⟨_, _, ⟨T2, L2, k2, n2⟩, -, X2, ⟨Lc2, hQ2, l2, y2, z2⟩, st2⟩ := Jvm.LawKit.callS X0 hx (y := (⟨"com/example/whittle/whittle/engine/SatSolver", "luby", "(I)J"⟩ : MethodName)) hown (mvT hZ (hw _ (List.mem_of_getElem? (i := 1) rfl))) (mvT hZ (hw _ (List.mem_of_getElem? (i := 2) rfl))) (mvT hZ (hw _ (List.mem_of_getElem? (i := 3) rfl))) (mvT hZ (hw _ (List.mem_of_getElem? (i := 4) rfl))) (by decide) (backOf (W := 0) (rm1 l Z a0 hw [] (hf + j) h0 n0 Z0 (by omega) (by omega)) hZ (hw _ (List.mem_of_getElem? (i := 4) rfl)) (hw _ (List.mem_of_getElem? (i := 3) rfl)) (by decide) (by decide)) (g := (mkF m 59 #[.val (.int p0), .val (.int p1), .val (.int (Int32.ofNat (k + 1))), .val (.long (Int64.ofNat hf)), .second, .val (.long (Int64.ofNat j)), .second, .val (.int (Int32.ofNat (hf + j)))] [(.int (Int32.ofNat (hf + j)))])) rfl (by rw [hml]; rfl) (argsL := [(.int (Int32.ofNat (hf + j)))]) (rest := []) (lenOf pd_0 rfl) rfl (by show 2 * 0 + _ ≤ _; exact Nat.le_of_eq rfl) (hb hby at_59) (fun _ _ => ⟨rfl, e0, (by decide : 0 + 0 ≤ _), (by decide : 0 + 0 ≤ _)⟩)
    dsimp only [Pt.U, Pt.locs, Pt.cells, Pt.slots] at X2 l2 y2 z2 st2 hQ2
    subst l2 y2 z2
    obtain ⟨rfl, N2q, e2⟩ := hQ2
    have N2 := Fr.app N0 N2q
    refine Go.via st2 ?_
    show Go p e below _ (T2.setTop (mkF m 62 #[.val (.int p0), .val (.int p1), .val (.int (Int32.ofNat (k + 1))), .val (.long (Int64.ofNat hf)), .second, .val (.long (Int64.ofNat j)), .second, .val (.int (Int32.ofNat (hf + j)))] [(.long (Int64.ofNat (own_luby (hf + j))))]))
    refine Go.via (T' := T2.setTop (mkF m 67 #[.val (.int p0), .val (.int p1), .val (.int (Int32.ofNat (k + 1))), .val (.long (Int64.ofNat hf)), .second, .val (.long (Int64.ofNat j)), .second, .val (.int (Int32.ofNat (hf + j)))] [(.int (((Int64.ofNat j) + (1 : Int64)).toInt32)), (.long (Int64.ofNat (own_luby (hf + j))))])) (fun tZ kZ => ?_) ?_
    · show Steps p.tables e below (T2.setTop (mkF m 62 #[.val (.int p0), .val (.int p1), .val (.int (Int32.ofNat (k + 1))), .val (.long (Int64.ofNat hf)), .second, .val (.long (Int64.ofNat j)), .second, .val (.int (Int32.ofNat (hf + j)))] [(.long (Int64.ofNat (own_luby (hf + j))))])) _
      refine XS.lload X2.here hx rfl (hb hby at_62) rfl ?_
      show Steps p.tables e below (T2.setTop (mkF m 64 #[.val (.int p0), .val (.int p1), .val (.int (Int32.ofNat (k + 1))), .val (.long (Int64.ofNat hf)), .second, .val (.long (Int64.ofNat j)), .second, .val (.int (Int32.ofNat (hf + j)))] [(.long (Int64.ofNat j)), (.long (Int64.ofNat (own_luby (hf + j))))])) _
      refine XS.lconst X2.here hx rfl (hb hby at_64) ?_
      show Steps p.tables e below (T2.setTop (mkF m 65 #[.val (.int p0), .val (.int p1), .val (.int (Int32.ofNat (k + 1))), .val (.long (Int64.ofNat hf)), .second, .val (.long (Int64.ofNat j)), .second, .val (.int (Int32.ofNat (hf + j)))] [(.long (1 : Int64)), (.long (Int64.ofNat j)), (.long (Int64.ofNat (own_luby (hf + j))))])) _
      refine XS.ladd X2.here hx rfl (hb hby at_65) rfl ?_
      show Steps p.tables e below (T2.setTop (mkF m 66 #[.val (.int p0), .val (.int p1), .val (.int (Int32.ofNat (k + 1))), .val (.long (Int64.ofNat hf)), .second, .val (.long (Int64.ofNat j)), .second, .val (.int (Int32.ofNat (hf + j)))] [(.long ((Int64.ofNat j) + (1 : Int64))), (.long (Int64.ofNat (own_luby (hf + j))))])) _
      refine XS.l2i X2.here hx rfl (hb hby at_66) rfl ?_
      show Steps p.tables e below (T2.setTop (mkF m 67 #[.val (.int p0), .val (.int p1), .val (.int (Int32.ofNat (k + 1))), .val (.long (Int64.ofNat hf)), .second, .val (.long (Int64.ofNat j)), .second, .val (.int (Int32.ofNat (hf + j)))] [(.int (((Int64.ofNat j) + (1 : Int64)).toInt32)), (.long (Int64.ofNat (own_luby (hf + j))))])) _
      exact kZ
    rw [own_j1 (by omega)]
    show Go p e below _ (T2.setTop (mkF m 67 #[.val (.int p0), .val (.int p1), .val (.int (Int32.ofNat (k + 1))), .val (.long (Int64.ofNat hf)), .second, .val (.long (Int64.ofNat j)), .second, .val (.int (Int32.ofNat (hf + j)))] [(.int (Int32.ofNat (j + 1))), (.long (Int64.ofNat (own_luby (hf + j))))]))
    obtain ⟨_, _, ⟨T3, L3, k3, n3⟩, -, X3, ⟨Lc3, hQ3, l3, y3, z3⟩, st3⟩ := Jvm.LawKit.callS X2 hx (y := (⟨"com/example/whittle/whittle/engine/SatSolver", "luby", "(I)J"⟩ : MethodName)) hown (mvT hZ (hw _ (List.mem_of_getElem? (i := 1) rfl))) (mvT hZ (hw _ (List.mem_of_getElem? (i := 2) rfl))) (mvT hZ (hw _ (List.mem_of_getElem? (i := 3) rfl))) (mvT hZ (hw _ (List.mem_of_getElem? (i := 4) rfl))) (by decide) (backOf (W := 2) (rm1 l Z a0 hw [] (j + 1) h0 n0 Z0 (by omega) (by omega)) hZ (hw _ (List.mem_of_getElem? (i := 4) rfl)) (hw _ (List.mem_of_getElem? (i := 3) rfl)) (by decide) (by decide)) (g := (mkF m 67 #[.val (.int p0), .val (.int p1), .val (.int (Int32.ofNat (k + 1))), .val (.long (Int64.ofNat hf)), .second, .val (.long (Int64.ofNat j)), .second, .val (.int (Int32.ofNat (hf + j)))] [(.int (Int32.ofNat (j + 1))), (.long (Int64.ofNat (own_luby (hf + j))))])) rfl (by rw [hml]; rfl) (argsL := [(.int (Int32.ofNat (j + 1)))]) (rest := [(.long (Int64.ofNat (own_luby (hf + j))))]) (lenOf pd_0 rfl) rfl (by show 2 * 0 + _ ≤ _; exact Nat.le_of_eq rfl) (hb hby at_67) (fun _ _ => ⟨rfl, e2, (by decide : 0 + 0 + 0 ≤ _), (by decide : 0 + 0 + 0 ≤ _)⟩)
    dsimp only [Pt.U, Pt.locs, Pt.cells, Pt.slots] at X3 l3 y3 z3 st3 hQ3
    subst l3 y3 z3
    obtain ⟨rfl, N3q, e3⟩ := hQ3
    have N3 := Fr.app N2 N3q
    refine Go.via st3 ?_
    show Go p e below _ (T3.setTop (mkF m 70 #[.val (.int p0), .val (.int p1), .val (.int (Int32.ofNat (k + 1))), .val (.long (Int64.ofNat hf)), .second, .val (.long (Int64.ofNat j)), .second, .val (.int (Int32.ofNat (hf + j)))] [(.long (Int64.ofNat (own_luby (j + 1)))), (.long (Int64.ofNat (own_luby (hf + j))))]))
    refine Go.via (T' := T3.setTop (mkF m 79 #[.val (.int p0), .val (.int p1), .val (.int (Int32.ofNat (k + 1))), .val (.long (Int64.ofNat hf)), .second, .val (.long (Int64.ofNat j)), .second, .val (.int (Int32.ofNat (hf + j)))] [(.int (1 : Int32))])) (fun tZ kZ => ?_) ?_
    · show Steps p.tables e below (T3.setTop (mkF m 70 #[.val (.int p0), .val (.int p1), .val (.int (Int32.ofNat (k + 1))), .val (.long (Int64.ofNat hf)), .second, .val (.long (Int64.ofNat j)), .second, .val (.int (Int32.ofNat (hf + j)))] [(.long (Int64.ofNat (own_luby (j + 1)))), (.long (Int64.ofNat (own_luby (hf + j))))])) _
      refine XS.lcmp X3.here hx rfl (hb hby at_70) rfl ?_
      show Steps p.tables e below (T3.setTop (mkF m 71 #[.val (.int p0), .val (.int p1), .val (.int (Int32.ofNat (k + 1))), .val (.long (Int64.ofNat hf)), .second, .val (.long (Int64.ofNat j)), .second, .val (.int (Int32.ofNat (hf + j)))] [(.int (lcmpW (Int64.ofNat (own_luby (hf + j))) (Int64.ofNat (own_luby (j + 1)))))])) _
      refine XS.ifNo X3.here hx rfl (hb hby at_71) rfl ((if0 _ _).trans (teq ((lw_eq _ _).mpr (by have q := fun q => hc38 ((own_c38 p3 p2 hj).mpr q); subst ehf; exact own_t2 hk hj q))).2) ?_
      show Steps p.tables e below (T3.setTop (mkF m 74 #[.val (.int p0), .val (.int p1), .val (.int (Int32.ofNat (k + 1))), .val (.long (Int64.ofNat hf)), .second, .val (.long (Int64.ofNat j)), .second, .val (.int (Int32.ofNat (hf + j)))] [])) _
      refine XS.iconst X3.here hx rfl (hb hby at_74) ?_
      show Steps p.tables e below (T3.setTop (mkF m 75 #[.val (.int p0), .val (.int p1), .val (.int (Int32.ofNat (k + 1))), .val (.long (Int64.ofNat hf)), .second, .val (.long (Int64.ofNat j)), .second, .val (.int (Int32.ofNat (hf + j)))] [(.int (1 : Int32))])) _
      refine XS.goto X3.here hx rfl (pc0 := 75) (pc' := 79) rfl (hb hby at_75) (by decide) (by decide) ?_
      show Steps p.tables e below (T3.setTop (mkF m 79 #[.val (.int p0), .val (.int p1), .val (.int (Int32.ofNat (k + 1))), .val (.long (Int64.ofNat hf)), .second, .val (.long (Int64.ofNat j)), .second, .val (.int (Int32.ofNat (hf + j)))] [(.int (1 : Int32))])) _
      exact kZ
    refine Go.retN X3 hx Bd.notSynchronized (t := .boolean) Bd.returns (by simp) (hb hby at_79) (by decide) (by decide) ?_
    exact ⟨rfl, N3⟩
set_option maxRecDepth 65536 in
set_option maxHeartbeats 40000000 in
theorem comes_1 {Post : Tables → Env → Array Value → State → Outcome → State → Prop} (hpost : ∀ tb e args s v u, (limb_1_1.after args s (.returned v) u = true ∧ limb_1_2.after args s (.returned v) u = true ∧ True) → FrameEnd s (.returned v) u (Jvm.fieldLocs frame_1_writes args s ++ Jvm.arrayLocs frame_1_arrays args s ++ Jvm.staticLocs frame_1_statics s) 0 0 → Post tb e args s (.returned v) u) :
    ArmFor flags0 classFile x code maxLocals ret World_1 tables_1 room_1 Calls_1 rest_1 Pre_1 Post := by
  intro l hfl _ _ p e ha hc hk s m args below hf hA hF happ hP
  obtain ⟨hcalls, hrest, hpre⟩ := hP
  obtain ⟨-, -, -, hnamed, -, -, -, hat⟩ := (Spec.applies_iff hf).mp happ
  obtain ⟨hg, hn⟩ := and_e (Cond.before_iff.mp (show (Jvm.Cond.and given_1 narrow_1).before args s = true from hpre))
  obtain ⟨g1, g2⟩ := and_e hg
  obtain ⟨g3, g4⟩ := and_e g2
  obtain ⟨w0, w1, rfl⟩ : ∃ w0 w1 : Value, args = #[w0, w1] := by
    have hs : args.size = 2 := by simpa [Cond.value, given_1] using g1
    obtain ⟨L⟩ := args
    match L, hs with
    | [w0, w1], _ => exact ⟨w0, w1, rfl⟩
  have hw := fun d (hd : d ∈ tables_1) => atoms_spec (ws := Jvm.Cond.code x code maxLocals ret :: tables_1) hat d (List.mem_cons_of_mem _ hd)
  have hfit : Fit s := fun {y c} hc i hi => by
    obtain ⟨ha, rfl⟩ := Array.getElem?_eq_some_iff.mp hc
    have q := List.all_eq_true.mp ((Array.all_eq_true_iff_forall_mem.mp hF) _ (Array.getElem_mem ha)) i (List.mem_range.mpr hi)
    simpa [Array.getElem?_eq_getElem hi] using q
  obtain ⟨i0, ei0⟩ := is_v g3
  obtain rfl : w0 = (.int i0) := Option.some.inj ei0
  obtain ⟨i1, ei1⟩ := is_v g4
  obtain rfl : w1 = (.int i1) := Option.some.inj ei1

  obtain ⟨n, o, h1, h2, h3, _, L, rfl, ⟨rfl, N⟩, hq⟩ := rm0 l s _ hw tables_1 i0 i1  s.heap s.heap.size (Nat.le_refl _) p e ha hc hk s m _ below hf ((Spec.applies_iff_loose hf).mp happ).1 ⟨rfl, State.Warmed39.refl s, rfl⟩ trivial
  refine ⟨n, _, h1, h2, h3, hpost _ _ _ _ _ _ ⟨Cond.after_iff.mpr rfl, Cond.after_iff.mpr (eq_i res_at (Term.int_eval (1)) rfl), trivial⟩ ⟨hq.1, hq.2.1, (hq.2.2.sift fun y hy => Or.inr (N y hy)).mono (by decide) (by decide)⟩⟩
theorem main_1_1 : Claimed_1_1 := comes_1 fun _ _ _ _ _ _ h hF => ⟨h.1, hF⟩
theorem main_1_2 : Claimed_1_2 := comes_1 fun _ _ _ _ _ _ h hF => ⟨h.2.1, hF⟩
end Jvm.Pilot.@@N@@
namespace Jvm.Pilot.@@N@@
open Jvm Jvm.ClassFile Sem Op Lib Jvm.Free Jvm.Stand Jvm.Pilot.@@N@@.Jvm.D
/-! MADE BY PROGRAM (witnessworld.py) out of the Statement's table words and the real class files: 9 classes; the members and pool entries that the words name. The judged class is class 1, her method 1. -/
namespace start1
open Jvm.ClassFile
def u (s : String) : CpInfo := .utf8 (stringToUtf16 s)
/-- a pool by its gaps: so many unusable entries, then the entry; so many at the end -/
def gap : Nat → List CpInfo → List CpInfo
  | 0, r => r
  | n + 1, r => .unusable :: gap n r
def poolList (es : List (Nat × CpInfo)) (last : Nat) : List CpInfo := es.foldr (fun e r => gap e.1 (e.2 :: r)) (gap last [])
def pool (es : List (Nat × CpInfo)) (last : Nat) : Array CpInfo := ⟨poolList es last⟩
def fileOf (pool : Array CpInfo) (this : Nat) (attrs : Array Attribute := #[]) (ms : Array MethodInfo := #[]) (fl : Nat := 33) (sup : Nat := 0) (ifs : Array Nat := #[]) (fds : Array FieldInfo := #[]) : ClassFile where
  minorVersion := 0
  majorVersion := 65
  constantPool := pool
  accessFlags := fl
  thisClass := this
  superClass := sup
  interfaces := ifs
  fields := fds
  methods := ms
  attributes := attrs
def plain (name : String) (sup : Option ClassId) : Class where
  name := name
  kind := .ordinary
  loader := none
  accessFlags := 33
  super := sup
  interfaces := #[]
  cf := none
  fields := #[]
  methods := #[]
  instanceTypes := #[]
  staticTypes := #[]
  resolved := #[]
  callSites := []
  init := .initialized
  statics := none
  mirror := none

def pool0 : Array CpInfo := pool [(5, u "<init>"), (0, u "()V"), (1, .class_ 10), (1, u "java/lang/Object")] 113

def k0m0 : Method := { name := "<init>", desc := "()V", sig := { parameters := [], returnType := none }, accessFlags := 1, code := none }
/-- java/lang/Object -/
def k0 : Class := { plain "java/lang/Object" none with
  accessFlags := 33
  interfaces := #[]
  cf := some (fileOf pool0 8 #[] #[{ accessFlags := 1, nameIndex := 5, descriptorIndex := 6, attributes := #[] }] 33 0 #[] #[])
  fields := #[]
  methods := #[k0m0]
  instanceTypes := #[]
  staticTypes := #[]
  resolved := Array.replicate 124 none
  statics := none }

def pool1 : Array CpInfo := pool [(2, .class_ 4), (1, u "java/lang/Object"), (0, u "<init>"), (0, u "()V"), (0, .integer 2147483647), (0, .methodref 9 10), (0, .class_ 11), (0, .nameAndType 12 13), (0, u "com/example/whittle/whittle/engine/SatSolver"), (0, u "luby"), (0, u "(I)J"), (0, .class_ 15), (0, u "com/example/whittle/whittle/engine/SatSolverLubyPinLaw"), (2, u "law"), (0, u "(II)Z")] 3

def k1m0 : Method := { name := "<init>", desc := "()V", sig := { parameters := [], returnType := none }, accessFlags := 1, code := none }
def k1c1 : Code := { maxStack := 6, maxLocals := 8, code := code, exceptionTable := #[], attributes := #[] }
def k1m1 : Method := { name := "law", desc := "(II)Z", sig := { parameters := [.int, .int], returnType := some .boolean }, accessFlags := 9, code := some k1c1 }
/-- com/example/whittle/whittle/engine/SatSolverLubyPinLaw -/
def k1 : Class := { plain "com/example/whittle/whittle/engine/SatSolverLubyPinLaw" (some 0) with
  accessFlags := 49
  interfaces := #[]
  cf := some (fileOf pool1 14 #[] #[{ accessFlags := 1, nameIndex := 5, descriptorIndex := 6, attributes := #[] }, { accessFlags := 9, nameIndex := 18, descriptorIndex := 19, attributes := #[] }] 49 2 #[] #[])
  fields := #[]
  methods := #[k1m0, k1m1]
  instanceTypes := #[]
  staticTypes := #[]
  resolved := Array.replicate 23 none
  statics := none }

def pool2 : Array CpInfo := pool [(8, .class_ 10), (1, u "com/example/whittle/whittle/engine/SatSolver"), (0, u "<init>"), (2, .class_ 16), (1, u "java/lang/Object"), (0, u "()V"), (2, u "values"), (0, u "[B"), (2, u "level"), (0, u "[I"), (2, u "reason"), (2, u "phase"), (0, u "[Z"), (2, u "activity"), (0, u "[D"), (2, u "seen"), (2, u "variableIncrement"), (0, u "D"), (2, u "clauseIncrement"), (2, u "trail"), (2, u "levelStarts"), (2, u "levelStamps"), (3, u "arena"), (2, u "learnts"), (3, u "watches"), (0, u "[[I"), (2, u "watchSizes"), (0, .class_ 72), (0, u "com/example/whittle/whittle/engine/SatSolver$VariableHeap"), (5, u "heap"), (0, u "Lcom/example/whittle/whittle/engine/SatSolver$VariableHeap;"), (2, u "consistent"), (0, u "Z"), (2, u "model"), (2, u "core"), (4, u "nextReduction"), (0, u "J"), (2, u "learnt"), (2, u "stack"), (2, u "cleared"), (2, u "coreBuffer"), (8, u "steps"), (0, u "Lcom/example/whittle/whittle/model/Deadline$Meter;"), (2, u "variables"), (0, u "I"), (69, .class_ 193), (1, u "com/example/whittle/whittle/engine/SatSolver$Outcome"), (4, u "conflicts"), (5, u "luby"), (0, u "(I)J"), (28, u "decisionLevel"), (36, u "head"), (2, u "trailSize"), (9, u "learntSize"), (14, u "clearedCount"), (19, u "learntCount"), (2, u "stamp"), (4, u "reductions"), (24, u "wasted"), (5, u "arenaSize"), (53, u "TRUE"), (0, u "B"), (2, u "FALSE"), (1, u "NO_REASON"), (0, u "HEADER"), (1, u "LEARNT"), (0, u "DELETED"), (1, u "VARIABLE_DECAY"), (0, u "CLAUSE_DECAY"), (0, u "RESTART_UNIT"), (1, u "FIRST_REDUCTION"), (1, u "REDUCTION_STEP"), (1, u "GLUE"), (0, u "DEADLINE_STRIDE")] 49

def k2m0 : Method := { name := "<init>", desc := "()V", sig := { parameters := [], returnType := none }, accessFlags := 1, code := none }
def k2c1 : Code := { maxStack := 6, maxLocals := 3, code := prog_29_method_44_code, exceptionTable := #[], attributes := #[] }
def k2m1 : Method := { name := "luby", desc := "(I)J", sig := { parameters := [.int], returnType := some .long }, accessFlags := 8, code := some k2c1 }
/-- com/example/whittle/whittle/engine/SatSolver -/
def k2 : Class := { plain "com/example/whittle/whittle/engine/SatSolver" (some 0) with
  accessFlags := 49
  interfaces := #[]
  cf := some (fileOf pool2 8 #[.nestMembers #[71, 191]] #[{ accessFlags := 1, nameIndex := 11, descriptorIndex := 17, attributes := #[] }, { accessFlags := 8, nameIndex := 204, descriptorIndex := 205, attributes := #[] }] 49 14 #[] #[{ accessFlags := 26, nameIndex := 412, descriptorIndex := 413, attributes := #[] }, { accessFlags := 26, nameIndex := 416, descriptorIndex := 413, attributes := #[] }, { accessFlags := 26, nameIndex := 418, descriptorIndex := 121, attributes := #[] }, { accessFlags := 26, nameIndex := 419, descriptorIndex := 121, attributes := #[] }, { accessFlags := 26, nameIndex := 421, descriptorIndex := 121, attributes := #[] }, { accessFlags := 26, nameIndex := 422, descriptorIndex := 121, attributes := #[] }, { accessFlags := 26, nameIndex := 424, descriptorIndex := 43, attributes := #[] }, { accessFlags := 26, nameIndex := 425, descriptorIndex := 43, attributes := #[] }, { accessFlags := 26, nameIndex := 426, descriptorIndex := 121, attributes := #[] }, { accessFlags := 26, nameIndex := 428, descriptorIndex := 121, attributes := #[] }, { accessFlags := 26, nameIndex := 430, descriptorIndex := 121, attributes := #[] }, { accessFlags := 26, nameIndex := 432, descriptorIndex := 121, attributes := #[] }, { accessFlags := 26, nameIndex := 433, descriptorIndex := 121, attributes := #[] }, { accessFlags := 18, nameIndex := 116, descriptorIndex := 117, attributes := #[] }, { accessFlags := 2, nameIndex := 120, descriptorIndex := 121, attributes := #[] }, { accessFlags := 2, nameIndex := 20, descriptorIndex := 21, attributes := #[] }, { accessFlags := 2, nameIndex := 24, descriptorIndex := 25, attributes := #[] }, { accessFlags := 2, nameIndex := 28, descriptorIndex := 25, attributes := #[] }, { accessFlags := 2, nameIndex := 31, descriptorIndex := 32, attributes := #[] }, { accessFlags := 2, nameIndex := 35, descriptorIndex := 36, attributes := #[] }, { accessFlags := 2, nameIndex := 39, descriptorIndex := 32, attributes := #[] }, { accessFlags := 2, nameIndex := 42, descriptorIndex := 43, attributes := #[] }, { accessFlags := 2, nameIndex := 46, descriptorIndex := 43, attributes := #[] }, { accessFlags := 2, nameIndex := 49, descriptorIndex := 25, attributes := #[] }, { accessFlags := 2, nameIndex := 274, descriptorIndex := 121, attributes := #[] }, { accessFlags := 2, nameIndex := 271, descriptorIndex := 121, attributes := #[] }, { accessFlags := 2, nameIndex := 52, descriptorIndex := 25, attributes := #[] }, { accessFlags := 2, nameIndex := 234, descriptorIndex := 121, attributes := #[] }, { accessFlags := 2, nameIndex := 55, descriptorIndex := 25, attributes := #[] }, { accessFlags := 2, nameIndex := 322, descriptorIndex := 121, attributes := #[] }, { accessFlags := 2, nameIndex := 59, descriptorIndex := 25, attributes := #[] }, { accessFlags := 2, nameIndex := 358, descriptorIndex := 121, attributes := #[] }, { accessFlags := 2, nameIndex := 352, descriptorIndex := 121, attributes := #[] }, { accessFlags := 2, nameIndex := 62, descriptorIndex := 25, attributes := #[] }, { accessFlags := 2, nameIndex := 319, descriptorIndex := 121, attributes := #[] }, { accessFlags := 2, nameIndex := 66, descriptorIndex := 67, attributes := #[] }, { accessFlags := 2, nameIndex := 70, descriptorIndex := 25, attributes := #[] }, { accessFlags := 18, nameIndex := 78, descriptorIndex := 79, attributes := #[] }, { accessFlags := 2, nameIndex := 82, descriptorIndex := 83, attributes := #[] }, { accessFlags := 2, nameIndex := 86, descriptorIndex := 21, attributes := #[] }, { accessFlags := 2, nameIndex := 89, descriptorIndex := 25, attributes := #[] }, { accessFlags := 2, nameIndex := 198, descriptorIndex := 95, attributes := #[] }, { accessFlags := 2, nameIndex := 94, descriptorIndex := 95, attributes := #[] }, { accessFlags := 2, nameIndex := 327, descriptorIndex := 121, attributes := #[] }, { accessFlags := 2, nameIndex := 98, descriptorIndex := 25, attributes := #[] }, { accessFlags := 2, nameIndex := 284, descriptorIndex := 121, attributes := #[] }, { accessFlags := 2, nameIndex := 101, descriptorIndex := 25, attributes := #[] }, { accessFlags := 2, nameIndex := 104, descriptorIndex := 25, attributes := #[] }, { accessFlags := 2, nameIndex := 299, descriptorIndex := 121, attributes := #[] }, { accessFlags := 2, nameIndex := 107, descriptorIndex := 25, attributes := #[] }])
  fields := #[{ name := "TRUE", type := .byte, accessFlags := 26, slot := 0, constantValue := 0 }, { name := "FALSE", type := .byte, accessFlags := 26, slot := 1, constantValue := 0 }, { name := "NO_REASON", type := .int, accessFlags := 26, slot := 2, constantValue := 0 }, { name := "HEADER", type := .int, accessFlags := 26, slot := 3, constantValue := 0 }, { name := "LEARNT", type := .int, accessFlags := 26, slot := 4, constantValue := 0 }, { name := "DELETED", type := .int, accessFlags := 26, slot := 5, constantValue := 0 }, { name := "VARIABLE_DECAY", type := .double, accessFlags := 26, slot := 6, constantValue := 0 }, { name := "CLAUSE_DECAY", type := .double, accessFlags := 26, slot := 7, constantValue := 0 }, { name := "RESTART_UNIT", type := .int, accessFlags := 26, slot := 8, constantValue := 0 }, { name := "FIRST_REDUCTION", type := .int, accessFlags := 26, slot := 9, constantValue := 0 }, { name := "REDUCTION_STEP", type := .int, accessFlags := 26, slot := 10, constantValue := 0 }, { name := "GLUE", type := .int, accessFlags := 26, slot := 11, constantValue := 0 }, { name := "DEADLINE_STRIDE", type := .int, accessFlags := 26, slot := 12, constantValue := 0 }, { name := "steps", type := (.object "com/example/whittle/whittle/model/Deadline$Meter"), accessFlags := 18, slot := 0, constantValue := 0 }, { name := "variables", type := .int, accessFlags := 2, slot := 1, constantValue := 0 }, { name := "values", type := (.array .byte), accessFlags := 2, slot := 2, constantValue := 0 }, { name := "level", type := (.array .int), accessFlags := 2, slot := 3, constantValue := 0 }, { name := "reason", type := (.array .int), accessFlags := 2, slot := 4, constantValue := 0 }, { name := "phase", type := (.array .boolean), accessFlags := 2, slot := 5, constantValue := 0 }, { name := "activity", type := (.array .double), accessFlags := 2, slot := 6, constantValue := 0 }, { name := "seen", type := (.array .boolean), accessFlags := 2, slot := 7, constantValue := 0 }, { name := "variableIncrement", type := .double, accessFlags := 2, slot := 8, constantValue := 0 }, { name := "clauseIncrement", type := .double, accessFlags := 2, slot := 9, constantValue := 0 }, { name := "trail", type := (.array .int), accessFlags := 2, slot := 10, constantValue := 0 }, { name := "trailSize", type := .int, accessFlags := 2, slot := 11, constantValue := 0 }, { name := "head", type := .int, accessFlags := 2, slot := 12, constantValue := 0 }, { name := "levelStarts", type := (.array .int), accessFlags := 2, slot := 13, constantValue := 0 }, { name := "decisionLevel", type := .int, accessFlags := 2, slot := 14, constantValue := 0 }, { name := "levelStamps", type := (.array .int), accessFlags := 2, slot := 15, constantValue := 0 }, { name := "stamp", type := .int, accessFlags := 2, slot := 16, constantValue := 0 }, { name := "arena", type := (.array .int), accessFlags := 2, slot := 17, constantValue := 0 }, { name := "arenaSize", type := .int, accessFlags := 2, slot := 18, constantValue := 0 }, { name := "wasted", type := .int, accessFlags := 2, slot := 19, constantValue := 0 }, { name := "learnts", type := (.array .int), accessFlags := 2, slot := 20, constantValue := 0 }, { name := "learntCount", type := .int, accessFlags := 2, slot := 21, constantValue := 0 }, { name := "watches", type := (.array (.array .int)), accessFlags := 2, slot := 22, constantValue := 0 }, { name := "watchSizes", type := (.array .int), accessFlags := 2, slot := 23, constantValue := 0 }, { name := "heap", type := (.object "com/example/whittle/whittle/engine/SatSolver$VariableHeap"), accessFlags := 18, slot := 24, constantValue := 0 }, { name := "consistent", type := .boolean, accessFlags := 2, slot := 25, constantValue := 0 }, { name := "model", type := (.array .byte), accessFlags := 2, slot := 26, constantValue := 0 }, { name := "core", type := (.array .int), accessFlags := 2, slot := 27, constantValue := 0 }, { name := "conflicts", type := .long, accessFlags := 2, slot := 28, constantValue := 0 }, { name := "nextReduction", type := .long, accessFlags := 2, slot := 29, constantValue := 0 }, { name := "reductions", type := .int, accessFlags := 2, slot := 30, constantValue := 0 }, { name := "learnt", type := (.array .int), accessFlags := 2, slot := 31, constantValue := 0 }, { name := "learntSize", type := .int, accessFlags := 2, slot := 32, constantValue := 0 }, { name := "stack", type := (.array .int), accessFlags := 2, slot := 33, constantValue := 0 }, { name := "cleared", type := (.array .int), accessFlags := 2, slot := 34, constantValue := 0 }, { name := "clearedCount", type := .int, accessFlags := 2, slot := 35, constantValue := 0 }, { name := "coreBuffer", type := (.array .int), accessFlags := 2, slot := 36, constantValue := 0 }]
  methods := #[k2m0, k2m1]
  instanceTypes := #[(.object "com/example/whittle/whittle/model/Deadline$Meter"), .int, (.array .byte), (.array .int), (.array .int), (.array .boolean), (.array .double), (.array .boolean), .double, .double, (.array .int), .int, .int, (.array .int), .int, (.array .int), .int, (.array .int), .int, .int, (.array .int), .int, (.array (.array .int)), (.array .int), (.object "com/example/whittle/whittle/engine/SatSolver$VariableHeap"), .boolean, (.array .byte), (.array .int), .long, .long, .int, (.array .int), .int, (.array .int), (.array .int), .int, (.array .int)]
  staticTypes := #[.byte, .byte, .int, .int, .int, .int, .double, .double, .int, .int, .int, .int, .int]
  resolved := Array.replicate 483 none
  statics := none }

def pool3 : Array CpInfo := pool [(1, u "java/lang/Cloneable"), (0, .class_ 1), (0, u "java/lang/Object"), (0, .class_ 3)] 3

/-- java/lang/Cloneable -/
def k3 : Class := { plain "java/lang/Cloneable" (some 0) with
  accessFlags := 1537
  interfaces := #[]
  cf := some (fileOf pool3 2 #[] #[] 1537 4 #[] #[])
  fields := #[]
  methods := #[]
  instanceTypes := #[]
  staticTypes := #[]
  resolved := Array.replicate 8 none
  statics := none }

def pool4 : Array CpInfo := pool [(1, u "java/io/Serializable"), (0, .class_ 1), (0, u "java/lang/Object"), (0, .class_ 3)] 3

/-- java/io/Serializable -/
def k4 : Class := { plain "java/io/Serializable" (some 0) with
  accessFlags := 1537
  interfaces := #[]
  cf := some (fileOf pool4 2 #[] #[] 1537 4 #[] #[])
  fields := #[]
  methods := #[]
  instanceTypes := #[]
  staticTypes := #[]
  resolved := Array.replicate 8 none
  statics := none }

/-- the primitive byte -/
def k5 : Class := { plain "byte" none with kind := .primitive 'B', accessFlags := 0x411 }
/-- [B -/
def k6 : Class := { plain "[B" (some 0) with kind := .array 5 .byte, interfaces := #[3, 4], accessFlags := 1041 }

/-- the primitive int -/
def k7 : Class := { plain "int" none with kind := .primitive 'I', accessFlags := 0x411 }
/-- [I -/
def k8 : Class := { plain "[I" (some 0) with kind := .array 7 .int, interfaces := #[3, 4], accessFlags := 1041 }

def heap : Heap := #[]
def classes : Array Class := #[k0, k1, k2, k3, k4, k5, k6, k7, k8]
def interned : List (Array UInt16 × Addr) := []
def slotsUsed : Nat := 0
def theMethod : MethodId := ⟨1, 1⟩
def args0 : Array Value := #[.int 5, .int 7]
def aboutOver (below : List Frame) : State where
  vm := { classes := classes, interned := interned.toArray }
  heap := heap
  slotsUsed := slotsUsed
  threads := #[{ frames := .invoking theMethod args0 :: below }]
def below0 : List Frame := [.native { method := ⟨0, 0⟩, args := #[] }]
def about1 : State := aboutOver below0
def p0 : Program := .bare "" "" ""
def e0 : Env := launch0.env 0 0 0
theorem w_frames : about1.frames = Frame.invoking theMethod args0 :: below0 := rfl
set_option maxRecDepth 65536 in
theorem w_args : argsFit about1.vm theMethod args0 = true := by decide +kernel
set_option maxRecDepth 65536 in
theorem w_heap : heapFits about1 = true := by decide +kernel
set_option maxRecDepth 65536 in
theorem w_runnable : about1.curStatus? = some .runnable := by decide +kernel
set_option maxRecDepth 65536 in
theorem w_alone : about1.alone = true := by decide +kernel
set_option maxRecDepth 65536 in
theorem w_named : about1.methodNamed? x = some theMethod := by decide +kernel
set_option maxRecDepth 65536 in
theorem w_hears : about1.hears theMethod below0 = true := by decide +kernel
set_option maxRecDepth 65536 in
theorem w_ripe : about1.ripe theMethod args0 below0 = true := by decide +kernel
theorem w_running : about1.status = .running := rfl
set_option maxRecDepth 65536 in
theorem w_room : about1.hasRoom e0.platform room_1 = true :=
  launch0.hasRoom_least _ room_1 (by decide +kernel) (by decide +kernel) (by decide +kernel) (by decide +kernel) (by decide +kernel) (by decide +kernel)
theorem allAtoms_all (ts : List Jvm.Cond) (a : Array Jvm.Value) (st : Jvm.State) : (allAtoms ts).before a st = ts.all (fun c => c.before a st) := by
  induction ts with
  | nil => rfl
  | cons c t ih =>
    show (Jvm.Cond.and c (allAtoms t)).before a st = _
    rw [Jvm.Cond.before_and, ih, List.all_cons]
def words1 : List Jvm.Cond := Jvm.Cond.code x code maxLocals ret :: tables_1
/-- a 'code' word, met by the world's own term for the bytes: nothing is compared byte by byte -/
theorem code_word {y : MethodName} {bytes : ByteArray} {mx : Nat} {rt : Option FieldType} {a : Array Value} {s : State} {m : MethodId} {meth : Method} {c : Code} (h1 : s.methodNamed? y = some m) (h2 : s.vm.method? m = some meth) (h3 : meth.code = some c) (h4 : c.code = bytes)
    (h5 : (c.maxLocals == mx && c.exceptionTable.isEmpty && decide (c.maxStack ≤ mostOperands) && decide (meth.sig.returnType = rt) && !meth.locks && decide (parseMethodDescriptor y.desc = some meth.sig)) = true) : (Jvm.Cond.code y bytes mx rt).before a s = true := by
  simp only [Bool.and_eq_true, beq_iff_eq, Bool.not_eq_true', decide_eq_true_eq] at h5
  obtain ⟨⟨⟨⟨⟨g1, g2⟩, g3⟩, g4⟩, g5⟩, g6⟩ := h5
  simp [Cond.before, Cond.holds, Cond.value, h1, h2, h3, h4, g1, g2, g3, g4, g5, g6]
def isCode : Jvm.Cond → Bool
  | .code _ _ _ _ => true
  | _ => false
theorem all_split {L : List Jvm.Cond} {P : Jvm.Cond → Bool} (h1 : L.all (fun c => isCode c || P c) = true) (h2 : ∀ c ∈ L.filter isCode, P c = true) : L.all P = true := by
  refine List.all_eq_true.mpr fun c hc => ?_
  have h := List.all_eq_true.mp h1 c hc
  rcases Bool.eq_false_or_eq_true (isCode c) with hi | hi
  · exact h2 c (List.mem_filter.mpr ⟨hc, hi⟩)
  · simpa [hi] using h
set_option maxRecDepth 65536 in
theorem w_c0 : (Jvm.Cond.code x code maxLocals ret).before args0 about1 = true := code_word (m := ⟨1, 1⟩) (meth := k1m1) (c := k1c1) (by decide +kernel) rfl rfl rfl (by decide +kernel)
set_option maxRecDepth 65536 in
theorem w_c1 : (Jvm.Cond.code ({ cls := "com/example/whittle/whittle/engine/SatSolver", name := "luby", desc := "(I)J" } : Jvm.MethodName) prog_29_method_44_code (3 : Nat) (Option.some Jvm.ClassFile.FieldType.long)).before args0 about1 = true := code_word (m := ⟨2, 1⟩) (meth := k2m1) (c := k2c1) (by decide +kernel) rfl rfl rfl (by decide +kernel)
def codes1 : List Jvm.Cond := [Jvm.Cond.code x code maxLocals ret, Jvm.Cond.code ({ cls := "com/example/whittle/whittle/engine/SatSolver", name := "luby", desc := "(I)J" } : Jvm.MethodName) prog_29_method_44_code (3 : Nat) (Option.some Jvm.ClassFile.FieldType.long)]
set_option maxRecDepth 65536 in
theorem codes_eq : words1.filter isCode = codes1 := rfl
theorem w_codes : ∀ c ∈ words1.filter isCode, c.before args0 about1 = true := by
  rw [codes_eq]
  intro c hc
  simp only [codes1, List.mem_cons, List.not_mem_nil, or_false] at hc
  rcases hc with rfl | rfl
  · exact w_c0
  · exact w_c1
set_option maxRecDepth 65536 in
theorem w_t1 : words1.all (fun c => isCode c || c.before args0 about1) = true := by decide +kernel
theorem w_tables : (allAtoms (Jvm.Cond.code x code maxLocals ret :: tables_1)).before args0 about1 = true := by
  rw [allAtoms_all]
  show words1.all (fun c => c.before args0 about1) = true
  refine all_split ?_ w_codes
  rw [w_t1]
set_option maxRecDepth 65536 in
theorem w_case : (Jvm.Cond.and given_1 narrow_1).before args0 about1 = true := by decide +kernel
theorem w_applies : (headSpec (Jvm.Cond.code x code maxLocals ret :: tables_1) room_1).applies x e0.platform about1 = true :=
  (Spec.applies_iff w_frames).mpr ⟨w_running, w_runnable, w_alone, w_named, w_hears, w_ripe, w_room, w_tables⟩
theorem atStart : AtStart classFile x code maxLocals ret World_1 tables_1 room_1 Calls_1 rest_1 Pre_1 launch0 p0 e0 about1 theMethod args0 below0 :=
  ⟨lists_1, trivial, launch0.admits_env _ _ _, launch0.least_env, fairChoices_fair.cas, fairChoices_fair.clock, w_frames, w_args, w_heap, w_applies, trivial, trivial, w_case⟩
end start1
theorem witness_1 : WitnessClaimed_1 := ⟨start1.p0, start1.e0, start1.about1, start1.theMethod, start1.args0, start1.below0, start1.atStart⟩
end Jvm.Pilot.@@N@@
