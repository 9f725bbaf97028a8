import JvmDerived
import JvmDerived.Pilot.@@N@@Statement
import JvmDerived.Pilot.@@N@@Code
set_option linter.unusedVariables false
set_option linter.unusedSimpArgs false
@@BLOCK:NumsL.lean.txt@@
namespace Jvm.OwnN
theorem own_rem32 (x y : Int32) : (x - x / y * y).toInt = x.toInt.tmod y.toInt := by
  have a := (x % y).toInt_lt; have b := (x % y).le_toInt
  rw [Int32.toInt_mod] at a b
  rw [Int32.toInt_sub, Int32.toInt_mul, Int32.toInt_div, Int.bmod_mul_bmod, Int.sub_bmod_bmod, Int.mul_comm, ← Int.tmod_def]
  exact Jvm.Kit.bmod32 b a
theorem own_rem32n {x y : Int32} (hx : 0 ≤ x.toInt) : (x - x / y * y).toInt = x.toInt % y.toInt := by rw [own_rem32, Int.tmod_eq_emod_of_nonneg hx]
end Jvm.OwnN
namespace Jvm.RoadKit
open Sem ClassFile Op Lib Jvm.Stand Jvm.Free Jvm.LawKit
section New
variable {p : Program} {l : Launch} {e : Env} {R : Room} {s : State} {m : MethodId} {args : Array Value} {below : List Frame} {meth : Method} {c : Code} {T : State} {locs : List Loc} {cells slots : Nat}
theorem retI (X : Stand p l e R s m args below meth c T locs cells slots) (hx : p.tables.exec = Jvm.exec) {pc : Nat} {Ls : Array Slot} {z : Int32} {rest : List Value} (hret : meth.sig.returnType = some .int) (hd : decode c.code pc = .ok (.ireturn, 1)) {fs : List Frame}
    (hl : ∀ (f : JFrame) (acts : List Action), f.method = m → f.locked = none → f.entered = [] → (doReturn e (T.setTop f) acts (some (.int z))).1 = T.setFrames fs) : Steps p.tables e below (T.setTop (mkF m pc Ls (.int z :: rest))) (T.setFrames fs) := by
  have hm' : T.vm.method? m = some meth := X.method'
  have hn : narrow .int (.int z) = .int z := rfl
  show Steps p.tables e below (T.setTop { method := m, pc := pc, locals := Ls, stack := _ :: rest, locked := none }) _
  jvm_step X.here [X.here.top, hx, hd, hm', hret, hn]
  first | (intro acts; rw [hl _ acts rfl rfl rfl]) | rw [hl _ _ rfl rfl rfl]
  exact Steps.refl _
/-- the run goes on from S to an end of which P holds -/
def Goes (p : Program) (e : Env) (below : List Frame) (S : State) (P : Outcome → State → Prop) : Prop := ∃ s₂ o, Steps p.tables e below S s₂ ∧ s₂.status = .running ∧ Ended s₂ below o ∧ P o s₂
/-- what every contract here says of the end -/
def Fin (s : State) (Q : Option Value → Heap → List Loc → Prop) (C N : Nat) (o : Outcome) (U : State) : Prop := ∃ v L, o = .returned v ∧ Q v U.heap L ∧ FrameEnd s o U L C N
theorem Goes.of {S S' : State} {P : Outcome → State → Prop} (h : ∀ t, Steps p.tables e below S' t → Steps p.tables e below S t) (g : Goes p e below S' P) : Goes p e below S P := by
  obtain ⟨s₂, o, h1, h2⟩ := g
  exact ⟨s₂, o, h _ h1, h2⟩
theorem Goes.out (X : Stand p l e R s m args below meth c T locs cells slots) {v : Option Value} (hv : meth.sig.returnType = none → v = none) (hlocks : meth.locks = false) {g : JFrame} {Q : Option Value → Heap → List Loc → Prop} {C N : Nat}
    (hst : ∀ fs, (∀ (f : JFrame) (acts : List Action), f.method = m → f.locked = none → f.entered = [] → (doReturn e (T.setTop f) acts v).1 = T.setFrames fs) → Steps p.tables e below (T.setTop g) (T.setFrames fs))
    (hq : Q v T.heap locs) (h1 : cells ≤ C) (h2 : slots ≤ N) : Goes p e below (T.setTop g) (Fin s Q C N) := by
  obtain ⟨fs, hr, hrun, hended, hW, hsame⟩ := X.leave (v := v) hv hlocks
  exact ⟨_, _, hst fs hr, hrun, hended, v, locs, rfl, hq, ⟨_, rfl⟩, hW, hsame.mono h1 h2⟩
theorem Goes.retI (X : Stand p l e R s m args below meth c T locs cells slots) (hx : p.tables.exec = Jvm.exec) (hret : meth.sig.returnType = some .int) (hlocks : meth.locks = false) {pc : Nat} {Ls : Array Slot} {z : Int32} {rest : List Value} (hd : decode c.code pc = .ok (.ireturn, 1)) {Q : Option Value → Heap → List Loc → Prop} {C N : Nat}
    (hq : Q (some (.int z)) T.heap locs) (h1 : cells ≤ C) (h2 : slots ≤ N) : Goes p e below (T.setTop (mkF m pc Ls (.int z :: rest))) (Fin s Q C N) :=
  Goes.out X (v := some (.int z)) (fun h => by rw [hret] at h; cases h) hlocks (fun fs hr => Jvm.RoadKit.retI X hx hret hd hr) hq h1 h2
theorem Goes.retN (X : Stand p l e R s m args below meth c T locs cells slots) (hx : p.tables.exec = Jvm.exec) {t : FieldType} (hret : meth.sig.returnType = some t) (ht : t = .boolean ∨ t = .byte ∨ t = .char ∨ t = .short) (hlocks : meth.locks = false) {pc : Nat} {Ls : Array Slot} {z : Int32} {rest : List Value} (hd : decode c.code pc = .ok (.ireturn, 1)) {Q : Option Value → Heap → List Loc → Prop} {C N : Nat}
    (hq : Q (some (.int (nar t z))) T.heap locs) (h1 : cells ≤ C) (h2 : slots ≤ N) : Goes p e below (T.setTop (mkF m pc Ls (.int z :: rest))) (Fin s Q C N) :=
  Goes.out X (v := some (.int (nar t z))) (fun h => by rw [hret] at h; cases h) hlocks (fun fs hr => Jvm.RoadKit.retN X hx (t := t) hret ht hd hr) hq h1 h2
theorem Goes.retJ (X : Stand p l e R s m args below meth c T locs cells slots) (hx : p.tables.exec = Jvm.exec) (hret : meth.sig.returnType = some .long) (hlocks : meth.locks = false) {pc : Nat} {Ls : Array Slot} {z : Int64} (hd : decode c.code pc = .ok (.lreturn, 1)) {Q : Option Value → Heap → List Loc → Prop} {C N : Nat}
    (hq : Q (some (.long z)) T.heap locs) (h1 : cells ≤ C) (h2 : slots ≤ N) : Goes p e below (T.setTop (mkF m pc Ls [.long z])) (Fin s Q C N) :=
  Goes.out X (v := some (.long z)) (fun h => by rw [hret] at h; cases h) hlocks (fun fs hr => X.lreturnOut hx hret hd hr) hq h1 h2
theorem Goes.retD (X : Stand p l e R s m args below meth c T locs cells slots) (hx : p.tables.exec = Jvm.exec) (hret : meth.sig.returnType = some .double) (hlocks : meth.locks = false) {pc : Nat} {Ls : Array Slot} {z : UInt64} (hd : decode c.code pc = .ok (.dreturn, 1)) {Q : Option Value → Heap → List Loc → Prop} {C N : Nat}
    (hq : Q (some (.double z)) T.heap locs) (h1 : cells ≤ C) (h2 : slots ≤ N) : Goes p e below (T.setTop (mkF m pc Ls [.double z])) (Fin s Q C N) :=
  Goes.out X (v := some (.double z)) (fun h => by rw [hret] at h; cases h) hlocks (fun fs hr => by
    have hm' : T.vm.method? m = some meth := X.method'
    jvm_step X.here [X.here.top, hx, hd, hm', hret, narrow]
    first | (intro acts; rw [hr _ acts rfl rfl rfl]) | rw [hr _ _ rfl rfl rfl]
    exact Steps.refl _) hq h1 h2
theorem Goes.retA (X : Stand p l e R s m args below meth c T locs cells slots) (hx : p.tables.exec = Jvm.exec) {w : Value} {t : FieldType} (hw : w.isRef = true) (hret : meth.sig.returnType = some t) (ht : t.isReference = true) (hlocks : meth.locks = false) {pc : Nat} {Ls : Array Slot} (hd : decode c.code pc = .ok (.areturn, 1)) {Q : Option Value → Heap → List Loc → Prop} {C N : Nat}
    (hq : Q (some w) T.heap locs) (h1 : cells ≤ C) (h2 : slots ≤ N) : Goes p e below (T.setTop (mkF m pc Ls [w])) (Fin s Q C N) :=
  Goes.out X (v := some w) (fun h => by rw [hret] at h; cases h) hlocks (fun fs hr => X.areturnOut hx hw hret ht hd hr) hq h1 h2
theorem Goes.retV (X : Stand p l e R s m args below meth c T locs cells slots) (hx : p.tables.exec = Jvm.exec) (hret : meth.sig.returnType = none) (hlocks : meth.locks = false) {pc : Nat} {Ls : Array Slot} (hd : decode c.code pc = .ok (.return_, 1)) {Q : Option Value → Heap → List Loc → Prop} {C N : Nat}
    (hq : Q none T.heap locs) (h1 : cells ≤ C) (h2 : slots ≤ N) : Goes p e below (T.setTop (mkF m pc Ls [])) (Fin s Q C N) :=
  Goes.out X (v := none) (fun _ => rfl) hlocks (fun fs hr => X.returnOut hx hret hd hr) hq h1 h2
end New
theorem selPriv {s : State} {args : Array Value} {y : MethodName} {n : Nat} (hpriv : s.PrivateAt y) (hinst : (Cond.instanceMethod y).before args s = true) (hi : (Cond.instantiable y.cls n).before args s = true) (hy : y.cls ≠ "java/lang/invoke/MethodHandle" ∧ y.cls ≠ "java/lang/invoke/VarHandle") : (Cond.selects y.cls y y).before args s = true := by
  obtain ⟨c, k, h1, h2, -, h3, -⟩ := Cond.instantiable_spec hi
  exact Jvm.Stand.selects_self_of_private h1 h2 (by cases hk : k.isInterface <;> simp_all) hpriv hinst hy
end Jvm.RoadKit
namespace Jvm.Pilot.@@N@@
open Jvm Jvm.ClassFile Sem Op Lib Jvm.Free Jvm.Stand Jvm.LawKit Jvm.RoadKit Bundle Jvm.OwnN Jvm.Pilot.@@N@@.Jvm.D
theorem d1_0 : decode prog_43_method_1_code 0 = .ok (.aload_n 0, 1) := by decide +kernel
theorem d1_1 : decode prog_43_method_1_code 1 = .ok (.invokespecial 1, 3) := by decide +kernel
theorem d1_4 : decode prog_43_method_1_code 4 = .ok (.aload_n 1, 1) := by decide +kernel
theorem d1_5 : decode prog_43_method_1_code 5 = .ok (.arraylength, 1) := by decide +kernel
theorem d1_6 : decode prog_43_method_1_code 6 = .ok (.aload 4, 2) := by decide +kernel
theorem d1_8 : decode prog_43_method_1_code 8 = .ok (.arraylength, 1) := by decide +kernel
theorem d1_9 : decode prog_43_method_1_code 9 = .ok (.if_icmp .eq 21, 3) := by decide +kernel
theorem d1_12 : decode prog_43_method_1_code 12 = .ok (.new 7, 3) := by decide +kernel
theorem d1_15 : decode prog_43_method_1_code 15 = .ok (.dup, 1) := by decide +kernel
theorem d1_16 : decode prog_43_method_1_code 16 = .ok (.aload_n 1, 1) := by decide +kernel
theorem d1_17 : decode prog_43_method_1_code 17 = .ok (.arraylength, 1) := by decide +kernel
theorem d1_18 : decode prog_43_method_1_code 18 = .ok (.aload 4, 2) := by decide +kernel
theorem d1_20 : decode prog_43_method_1_code 20 = .ok (.arraylength, 1) := by decide +kernel
theorem d1_26 : decode prog_43_method_1_code 26 = .ok (.invokespecial 13, 3) := by decide +kernel
theorem d1_29 : decode prog_43_method_1_code 29 = .ok (.athrow, 1) := by decide +kernel
theorem d1_30 : decode prog_43_method_1_code 30 = .ok (.aload_n 0, 1) := by decide +kernel
theorem d1_31 : decode prog_43_method_1_code 31 = .ok (.aload_n 1, 1) := by decide +kernel
theorem d1_32 : decode prog_43_method_1_code 32 = .ok (.invokevirtual 16, 3) := by decide +kernel
theorem d1_35 : decode prog_43_method_1_code 35 = .ok (.checkcast 17, 3) := by decide +kernel
theorem d1_38 : decode prog_43_method_1_code 38 = .ok (.putfield 22, 3) := by decide +kernel
theorem d1_41 : decode prog_43_method_1_code 41 = .ok (.aload_n 0, 1) := by decide +kernel
theorem d1_42 : decode prog_43_method_1_code 42 = .ok (.aload 4, 2) := by decide +kernel
theorem d1_44 : decode prog_43_method_1_code 44 = .ok (.invokevirtual 16, 3) := by decide +kernel
theorem d1_47 : decode prog_43_method_1_code 47 = .ok (.checkcast 17, 3) := by decide +kernel
theorem d1_50 : decode prog_43_method_1_code 50 = .ok (.putfield 27, 3) := by decide +kernel
theorem d1_53 : decode prog_43_method_1_code 53 = .ok (.aload_n 0, 1) := by decide +kernel
theorem d1_54 : decode prog_43_method_1_code 54 = .ok (.aload_n 1, 1) := by decide +kernel
theorem d1_55 : decode prog_43_method_1_code 55 = .ok (.invokevirtual 16, 3) := by decide +kernel
theorem d1_58 : decode prog_43_method_1_code 58 = .ok (.checkcast 17, 3) := by decide +kernel
theorem d1_61 : decode prog_43_method_1_code 61 = .ok (.putfield 30, 3) := by decide +kernel
theorem d1_64 : decode prog_43_method_1_code 64 = .ok (.aload_n 0, 1) := by decide +kernel
theorem d1_65 : decode prog_43_method_1_code 65 = .ok (.dload_n 2, 1) := by decide +kernel
theorem d1_66 : decode prog_43_method_1_code 66 = .ok (.putfield 33, 3) := by decide +kernel
theorem d1_69 : decode prog_43_method_1_code 69 = .ok (.return_, 1) := by decide +kernel
theorem pn_0 : plainName "com/example/driftswarm/driftswarm/swarm/Particle" = true := by first | (simp [plainName, overriddenIn]; done) | decide +kernel
theorem d3_0 : decode prog_43_method_2_code 0 = .ok (.aload_n 0, 1) := by decide +kernel
theorem d3_1 : decode prog_43_method_2_code 1 = .ok (.getfield 22, 3) := by decide +kernel
theorem d3_4 : decode prog_43_method_2_code 4 = .ok (.areturn, 1) := by decide +kernel
theorem d6_0 : decode prog_43_method_4_code 0 = .ok (.aload_n 0, 1) := by decide +kernel
theorem d6_1 : decode prog_43_method_4_code 1 = .ok (.getfield 30, 3) := by decide +kernel
theorem d6_4 : decode prog_43_method_4_code 4 = .ok (.areturn, 1) := by decide +kernel
theorem d5_0 : decode prog_43_method_5_code 0 = .ok (.aload_n 0, 1) := by decide +kernel
theorem d5_1 : decode prog_43_method_5_code 1 = .ok (.getfield 33, 3) := by decide +kernel
theorem d5_4 : decode prog_43_method_5_code 4 = .ok (.dreturn, 1) := by decide +kernel
theorem d4_0 : decode prog_43_method_8_code 0 = .ok (.dload_n 1, 1) := by decide +kernel
theorem d4_1 : decode prog_43_method_8_code 1 = .ok (.aload_n 0, 1) := by decide +kernel
theorem d4_2 : decode prog_43_method_8_code 2 = .ok (.getfield 33, 3) := by decide +kernel
theorem d4_5 : decode prog_43_method_8_code 5 = .ok (.dcmp .l, 1) := by decide +kernel
theorem d4_6 : decode prog_43_method_8_code 6 = .ok (.ifCond .le 28, 3) := by decide +kernel
theorem d4_9 : decode prog_43_method_8_code 9 = .ok (.aload_n 0, 1) := by decide +kernel
theorem d4_10 : decode prog_43_method_8_code 10 = .ok (.getfield 22, 3) := by decide +kernel
theorem d4_13 : decode prog_43_method_8_code 13 = .ok (.iconst 0, 1) := by decide +kernel
theorem d4_14 : decode prog_43_method_8_code 14 = .ok (.aload_n 0, 1) := by decide +kernel
theorem d4_15 : decode prog_43_method_8_code 15 = .ok (.getfield 30, 3) := by decide +kernel
theorem d4_18 : decode prog_43_method_8_code 18 = .ok (.iconst 0, 1) := by decide +kernel
theorem d4_19 : decode prog_43_method_8_code 19 = .ok (.aload_n 0, 1) := by decide +kernel
theorem d4_20 : decode prog_43_method_8_code 20 = .ok (.getfield 22, 3) := by decide +kernel
theorem d4_23 : decode prog_43_method_8_code 23 = .ok (.arraylength, 1) := by decide +kernel
theorem d4_24 : decode prog_43_method_8_code 24 = .ok (.invokestatic 80, 3) := by decide +kernel
theorem d4_27 : decode prog_43_method_8_code 27 = .ok (.aload_n 0, 1) := by decide +kernel
theorem d4_28 : decode prog_43_method_8_code 28 = .ok (.dload_n 1, 1) := by decide +kernel
theorem d4_29 : decode prog_43_method_8_code 29 = .ok (.putfield 33, 3) := by decide +kernel
theorem d4_32 : decode prog_43_method_8_code 32 = .ok (.iconst 1, 1) := by decide +kernel
theorem d4_33 : decode prog_43_method_8_code 33 = .ok (.ireturn, 1) := by decide +kernel
theorem d4_34 : decode prog_43_method_8_code 34 = .ok (.iconst 0, 1) := by decide +kernel
theorem d4_35 : decode prog_43_method_8_code 35 = .ok (.ireturn, 1) := by decide +kernel
theorem pn_1 : plainName "com/example/driftswarm/driftswarm/swarm/ParticleOfferBestPinLaw" = true := by first | (simp [plainName, overriddenIn]; done) | decide +kernel
theorem pd_2 : parseMethodDescriptor "([DD[D)V" = some ⟨[(.array .double), .double, (.array .double)], none⟩ := by decide +kernel
theorem pd_3 : parseMethodDescriptor "()[D" = some ⟨[], some (.array .double)⟩ := by decide +kernel
theorem pd_4 : parseMethodDescriptor "(D)Z" = some ⟨[.double], some .boolean⟩ := by decide +kernel
theorem pd_5 : parseMethodDescriptor "()D" = some ⟨[], some .double⟩ := by decide +kernel
theorem own_dc0 : FP.dconst0 = FP.l2d 0 := by decide +kernel
theorem own_b32 (x : Int32) : B53 x.toInt64 := by
  have h := Jvm.Kit.i64_of_i32 x
  have a := x.toInt_lt; have b := x.le_toInt
  unfold B53; omega
theorem own_bsum (x m : Int32) : B53 (x.toInt64 + ((m &&& 3).toInt64 - 1)) := by
  have h := Jvm.Kit.i64_of_i32 x
  have h2 := Jvm.Kit.i64_of_i32 (m &&& 3)
  have e1 : (m &&& 3).toInt = m.toInt % 2 ^ 2 := Jvm.Kit.i32_mask m 3 (k := 2) (by decide) (by decide)
  have a := x.toInt_lt; have b := x.le_toInt
  have z1 : (1 : Int64).toInt = 1 := by decide
  have e2 : ((m &&& 3).toInt64 - 1).toInt = (m &&& 3).toInt64.toInt - 1 := by rw [Jvm.Kit.i64_sub] <;> rw [z1] <;> omega
  have e3 : (x.toInt64 + ((m &&& 3).toInt64 - 1)).toInt = x.toInt64.toInt + ((m &&& 3).toInt64 - 1).toInt := Jvm.Kit.i64_add (by omega) (by omega)
  unfold B53; omega
theorem own_bm1 (x : Int32) : B53 (x.toInt64 - 1) := by
  have h := Jvm.Kit.i64_of_i32 x
  have a := x.toInt_lt; have b := x.le_toInt
  have z1 : (1 : Int64).toInt = 1 := by decide
  have e2 : (x.toInt64 - 1).toInt = x.toInt64.toInt - 1 := by rw [Jvm.Kit.i64_sub] <;> rw [z1] <;> omega
  unfold B53; omega
theorem ef_1 (m : MethodId) (x0 : Addr) (x1 : Addr) (x2 : UInt64) (x3 : Addr) : entryFrame m #[(.ref x0), (.ref x1), (.double x2), (.ref x3)] 5 = mkF m 0 #[.val (.ref x0), .val (.ref x1), .val (.double x2), .second, .val (.ref x3)] [] := by first | (simp [entryFrame, mkF, argsToLocals, Value.category]; done) | rfl
def Q1 (Z : State) (a1 : Addr) (a2 : Addr) (a4 : Addr) (w : Int64) (kP : ClassId) (kV : ClassId) (x0 : Int64) (x1 : Int64) (y0 : Int64) (y1 : Int64) (h0 : Heap) (n0 : Nat) (v : Option Value) (h : Heap) (L : List Loc) : Prop := ∃ b1 b3 : Addr, v = none ∧ Fr n0 L ∧ Keep h0 h [a1] ∧ h0.size ≤ b1 ∧ h0.size ≤ b3 ∧ b1 ≠ b3 ∧ Exa Z h a1 "com/example/driftswarm/driftswarm/swarm/Particle" ∧ Fld Z h a1 "com/example/driftswarm/driftswarm/swarm/Particle" "position" "[D" (.ref b1) ∧ Fld Z h a1 "com/example/driftswarm/driftswarm/swarm/Particle" "best" "[D" (.ref b3) ∧ Fld Z h a1 "com/example/driftswarm/driftswarm/swarm/Particle" "bestValue" "D" (.double (FP.l2d w)) ∧ Arv Z h b1 kP .double (2 : Int32) [(.double (FP.l2d x0)), (.double (FP.l2d x1))] (.double (FP.l2d 0)) ∧ Arv Z h b3 kP .double (2 : Int32) [(.double (FP.l2d x0)), (.double (FP.l2d x1))] (.double (FP.l2d 0)) ∧ a1 ≠ b1 ∧ a1 ≠ b3
set_option maxRecDepth 65536 in
set_option maxHeartbeats 40000000 in
theorem rm1 (l : Launch) (Z : State) (a0 : Array Value) (hw : ∀ d ∈ tables_1, d.before a0 Z = true) (ws : List Jvm.Cond) (a1 : Addr) (a2 : Addr) (a4 : Addr) (w : Int64) (kP : ClassId) (kV : ClassId) (x0 : Int64) (x1 : Int64) (y0 : Int64) (y1 : Int64) (h0 : Heap) (n0 : Nat) (Z0 : n0 ≤ h0.size) (E : Exa Z h0 a1 "com/example/driftswarm/driftswarm/swarm/Particle") (g : n0 ≤ a1) (F_position : Fld Z h0 a1 "com/example/driftswarm/driftswarm/swarm/Particle" "position" "[D" .null) (F_velocity : Fld Z h0 a1 "com/example/driftswarm/driftswarm/swarm/Particle" "velocity" "[D" .null) (F_best : Fld Z h0 a1 "com/example/driftswarm/driftswarm/swarm/Particle" "best" "[D" .null) (F_bestValue : Fld Z h0 a1 "com/example/driftswarm/driftswarm/swarm/Particle" "bestValue" "D" (.double 0)) (EP : Exa Z h0 a2 "[D") (EV : Exa Z h0 a4 "[D") (VP : Arv Z h0 a2 kP .double (2 : Int32) [(.double (FP.l2d x0)), (.double (FP.l2d x1))] (.double (FP.l2d 0))) (VV : Arv Z h0 a4 kV .double (2 : Int32) [(.double (FP.l2d y0)), (.double (FP.l2d y1))] (.double (FP.l2d 0))) (n1a2 : a1 ≠ a2) (n1a4 : a1 ≠ a4) (n24 : a2 ≠ a4) :
    MetFree l (⟨"com/example/driftswarm/driftswarm/swarm/Particle", "<init>", "([DD[D)V"⟩ : MethodName) (head1 (Jvm.Cond.code (⟨"com/example/driftswarm/driftswarm/swarm/Particle", "<init>", "([DD[D)V"⟩ : MethodName) prog_43_method_1_code 5 none :: ws) ({ frames := 1, cells := 3, slots := 6, locals := 15 } : Room)) (fun a U => a = #[(.ref a1), (.ref a2), (.double (FP.l2d w)), (.ref a4)] ∧ Z.Warmed39 U.vm ∧ U.heap = h0) (fun _ _ _ _ _ => True) (fun _ U o U' => ∃ v L, o = .returned v ∧ Q1 Z a1 a2 a4 w kP kV x0 x1 y0 y1 h0 n0 v U'.heap L ∧ FrameEnd U o U' L ({ frames := 1, cells := 3, slots := 6, locals := 15 } : Room).cells ({ frames := 1, cells := 3, slots := 6, locals := 15 } : Room).slots) := by
  refine MetFree.of_bodySF (plainFor_of_name pn_0) hisR ?_
  intro p e s m args below meth c s₁ Bd hml0 hP hK
  obtain ⟨rfl, hZ, hh⟩ := hP
  have hx := Bd.exec
  have hby := Bd.bytes
  have hml : c.maxLocals = 5 := hml0
  have hown : s.vm.findClass "com/example/driftswarm/driftswarm/swarm/Particle" = some m.cls := findClass_of_methodNamed Bd.named
  have hnm := (name_of_methodNamed Bd.named Bd.method).1
  have hlocks : meth.locks = false := BodyLoose.notSynchronized Bd
  have X0 : Stand p l e ({ frames := 1, cells := 3, slots := 6, locals := 15 } : Room) s m #[(.ref a1), (.ref a2), (.double (FP.l2d w)), (.ref a4)] below meth c s₁ [] 0 0 := Stand.of_body Bd
  have e0 : s₁.heap = h0 := by rw [← hh, Bd.state]; rfl
  have N0 := Fr.nil n0
  show Goes p e below (s₁.setTop (entryFrame m #[(.ref a1), (.ref a2), (.double (FP.l2d w)), (.ref a4)] 5)) (Fin s (Q1 Z a1 a2 a4 w kP kV x0 x1 y0 y1 h0 n0) ({ frames := 1, cells := 3, slots := 6, locals := 15 } : Room).cells ({ frames := 1, cells := 3, slots := 6, locals := 15 } : Room).slots)
  refine Goes.of (fun t k => castTop (ef_1 m a1 a2 (FP.l2d w) a4) k) ?_
  have K0 : Keep h0 h0 [a1] := Keep.refl _ _
  show Goes p e below (s₁.setTop (mkF m 0 #[.val (.ref a1), .val (.ref a2), .val (.double (FP.l2d w)), .second, .val (.ref a4)] [])) _
  refine Goes.of (fun t k => XS.aloadN X0.here hx rfl (hb hby d1_0) rfl rfl k) ?_
  show Goes p e below (s₁.setTop (mkF m 1 #[.val (.ref a1), .val (.ref a2), .val (.double (FP.l2d w)), .second, .val (.ref a4)] [(.ref a1)])) _
  obtain ⟨T1, X1, e1, st1⟩ := initO X0 hx hZ hown (hw _ (List.mem_of_getElem? (i := 7) rfl)) (hw _ (List.mem_of_getElem? (i := 8) rfl)) (hw _ (List.mem_of_getElem? (i := 9) rfl)) e0 (g := (mkF m 1 #[.val (.ref a1), .val (.ref a2), .val (.double (FP.l2d w)), .second, .val (.ref a4)] [(.ref a1)])) rfl (by rw [hml]; rfl) rfl (hb hby d1_1) (by decide) (W := 0) (by show 2 * 0 + _ ≤ _; exact Nat.le_of_eq rfl) (by decide)
  refine Goes.of st1 ?_
  show Goes p e below (T1.setTop (mkF m 4 #[.val (.ref a1), .val (.ref a2), .val (.double (FP.l2d w)), .second, .val (.ref a4)] [])) _
  refine Goes.of (fun t k => XS.aloadN X1.here hx rfl (hb hby d1_4) rfl rfl k) ?_
  show Goes p e below (T1.setTop (mkF m 5 #[.val (.ref a1), .val (.ref a2), .val (.double (FP.l2d w)), .second, .val (.ref a4)] [(.ref a2)])) _
  have Vc2 := VP
  obtain ⟨clc2, Arc2, qc2, Sc2, Nc2, Hc2, Gc2⟩ := Vc2
  refine Goes.of (X1.arraylength hx (by rw [e1]; exact Arc2.1) (State.isArrayOf_alike hZ.alike Arc2.2.1) (g := (mkF m 5 #[.val (.ref a1), .val (.ref a2), .val (.double (FP.l2d w)), .second, .val (.ref a4)] [(.ref a2)])) rfl rfl (hb hby d1_5)) ?_
  rw [len_of Sc2 Nc2]
  show Goes p e below (T1.setTop (mkF m 6 #[.val (.ref a1), .val (.ref a2), .val (.double (FP.l2d w)), .second, .val (.ref a4)] [(.int (2 : Int32))])) _
  refine Goes.of (fun t k => XS.aload X1.here hx rfl (hb hby d1_6) rfl rfl k) ?_
  show Goes p e below (T1.setTop (mkF m 8 #[.val (.ref a1), .val (.ref a2), .val (.double (FP.l2d w)), .second, .val (.ref a4)] [(.ref a4), (.int (2 : Int32))])) _
  have Vc3 := VV
  obtain ⟨clc3, Arc3, qc3, Sc3, Nc3, Hc3, Gc3⟩ := Vc3
  refine Goes.of (X1.arraylength hx (by rw [e1]; exact Arc3.1) (State.isArrayOf_alike hZ.alike Arc3.2.1) (g := (mkF m 8 #[.val (.ref a1), .val (.ref a2), .val (.double (FP.l2d w)), .second, .val (.ref a4)] [(.ref a4), (.int (2 : Int32))])) rfl rfl (hb hby d1_8)) ?_
  rw [len_of Sc3 Nc3]
  show Goes p e below (T1.setTop (mkF m 9 #[.val (.ref a1), .val (.ref a2), .val (.double (FP.l2d w)), .second, .val (.ref a4)] [(.int (2 : Int32)), (.int (2 : Int32))])) _
  refine Goes.of (fun t k => XS.icmpYes X1.here hx rfl (pc0 := 9) (pc' := 30) rfl (hb hby d1_9) rfl (teq (by decide)).1 (by decide) (by decide) k) ?_
  show Goes p e below (T1.setTop (mkF m 30 #[.val (.ref a1), .val (.ref a2), .val (.double (FP.l2d w)), .second, .val (.ref a4)] [])) _
  refine Goes.of (fun t k => XS.aloadN X1.here hx rfl (hb hby d1_30) rfl rfl k) ?_
  show Goes p e below (T1.setTop (mkF m 31 #[.val (.ref a1), .val (.ref a2), .val (.double (FP.l2d w)), .second, .val (.ref a4)] [(.ref a1)])) _
  refine Goes.of (fun t k => XS.aloadN X1.here hx rfl (hb hby d1_31) rfl rfl k) ?_
  show Goes p e below (T1.setTop (mkF m 32 #[.val (.ref a1), .val (.ref a2), .val (.double (FP.l2d w)), .second, .val (.ref a4)] [(.ref a2), (.ref a1)])) _
  obtain ⟨T4, h4, X4, e4, E4, V4, C4, st4⟩ := cloneH X1 hx hZ hown (ad := "[D") (hw _ (List.mem_of_getElem? (i := 10) rfl)) (hw _ (List.mem_of_getElem? (i := 11) rfl)) (hw _ (List.mem_of_getElem? (i := 15) rfl)) (hw _ (List.mem_of_getElem? (i := 13) rfl)) (hw _ (List.mem_of_getElem? (i := 14) rfl)) (hw _ (List.mem_of_getElem? (i := 16) rfl)) e1 VP.arh EP (g := (mkF m 32 #[.val (.ref a1), .val (.ref a2), .val (.double (FP.l2d w)), .second, .val (.ref a4)] [(.ref a2), (.ref a1)])) rfl (by rw [hml]; rfl) rfl (hb hby d1_32) (by decide) (W := 1) (by show 2 * 0 + _ ≤ _; exact Nat.le_of_eq rfl) (by decide) (cap := 2) (by decide) (by decide) (by decide)
  obtain ⟨b4, g4⟩ : ∃ z, z = h0.size := ⟨_, rfl⟩
  rw [← g4] at V4 C4 st4
  have g5 : n0 ≤ b4 := Nat.le_trans Z0 (Nat.le_of_eq g4.symm)
  have z6 : n0 ≤ h4.size := Nat.le_trans Z0 E4.1
  have z7 : h0.size ≤ b4 := Nat.le_trans K0.1 (Nat.le_of_eq g4.symm)
  have q8 : a1 ≠ b4 := Nat.ne_of_lt (Nat.lt_of_lt_of_le E.lt (Nat.le_of_eq g4.symm))
  have q9 : a2 ≠ b4 := Nat.ne_of_lt (Nat.lt_of_lt_of_le EP.lt (Nat.le_of_eq g4.symm))
  have q10 : a4 ≠ b4 := Nat.ne_of_lt (Nat.lt_of_lt_of_le EV.lt (Nat.le_of_eq g4.symm))
  have f11 := E.ext E4
  have f12 := F_position.ext E4
  have f13 := F_velocity.ext E4
  have f14 := F_best.ext E4
  have f15 := F_bestValue.ext E4
  have f16 := EP.ext E4
  have f17 := EV.ext E4
  have f18 := VP.ext E4
  have f19 := VV.ext E4
  have K20 : Keep h0 h4 [a1] := K0.ext E4
  have V4v : Arv Z h4 b4 kP .double (2 : Int32) [(.double (FP.l2d x0)), (.double (FP.l2d x1))] (.double (FP.l2d 0)) := V4
  refine Goes.of st4 ?_
  show Goes p e below (T4.setTop (mkF m 35 #[.val (.ref a1), .val (.ref a2), .val (.double (FP.l2d w)), .second, .val (.ref a4)] [(.ref b4), (.ref a1)])) _
  obtain ⟨T21, X21, e21, st21⟩ := castY X4 hx hZ hown (hw _ (List.mem_of_getElem? (i := 17) rfl)) e4 (Ins.self C4) (g := (mkF m 35 #[.val (.ref a1), .val (.ref a2), .val (.double (FP.l2d w)), .second, .val (.ref a4)] [(.ref b4), (.ref a1)])) rfl rfl (hb hby d1_35)
  refine Goes.of st21 ?_
  show Goes p e below (T21.setTop (mkF m 38 #[.val (.ref a1), .val (.ref a2), .val (.double (FP.l2d w)), .second, .val (.ref a4)] [(.ref b4), (.ref a1)])) _
  obtain ⟨T22, h22, X22, e22, W22, st22⟩ := putF X21 hx hZ hown (host := "") (Or.inl (hw _ (List.mem_of_getElem? (i := 19) rfl))) Via.refl e21 f12 f11 (Or.inr ⟨(hw _ (List.mem_of_getElem? (i := 20) rfl)), rfl, hnm⟩) (hw _ (List.mem_of_getElem? (i := 2) rfl)) (ty := (.array .double)) (by decide) rfl rfl (g := (mkF m 38 #[.val (.ref a1), .val (.ref a2), .val (.double (FP.l2d w)), .second, .val (.ref a4)] [(.ref b4), (.ref a1)])) rfl rfl (hb hby d1_38)
  have f23 := f12.same W22
  have K24 : Keep h0 h22 [a1] := K20.wr W22 (Or.inl (List.mem_of_getElem? (i := 0) rfl))
  have z25 : n0 ≤ h22.size := Nat.le_trans z6 (Keep.of_wr W22).1
  have f26 := f11.wr W22
  have f28 := f13.other W22 (Or.inr (slot_ne (Or.inr (hw _ (List.mem_of_getElem? (i := 22) rfl))) (Or.inr (hw _ (List.mem_of_getElem? (i := 20) rfl))) (by decide) (t := (.array .double)) (t' := (.array .double)) (by decide) (by decide)))
  have f29 := f14.other W22 (Or.inr (slot_ne (Or.inr (hw _ (List.mem_of_getElem? (i := 24) rfl))) (Or.inr (hw _ (List.mem_of_getElem? (i := 20) rfl))) (by decide) (t := (.array .double)) (t' := (.array .double)) (by decide) (by decide)))
  have f30 := f15.other W22 (Or.inr (slot_ne (Or.inl (hw _ (List.mem_of_getElem? (i := 26) rfl))) (Or.inr (hw _ (List.mem_of_getElem? (i := 20) rfl))) (by decide) (t := .double) (t' := (.array .double)) (by decide) (by decide)))
  have f31 := f16.wr W22
  have f32 := f17.wr W22
  have f33 := f18.other W22 (Ne.symm n1a2)
  have f34 := f19.other W22 (Ne.symm n1a4)
  have f35 := C4.wr W22
  have f36 := V4v.other W22 (Ne.symm q8)
  have N22 := Fr.snoc X22 N0 g
  refine Goes.of st22 ?_
  show Goes p e below (T22.setTop (mkF m 41 #[.val (.ref a1), .val (.ref a2), .val (.double (FP.l2d w)), .second, .val (.ref a4)] [])) _
  refine Goes.of (fun t k => XS.aloadN X22.here hx rfl (hb hby d1_41) rfl rfl k) ?_
  show Goes p e below (T22.setTop (mkF m 42 #[.val (.ref a1), .val (.ref a2), .val (.double (FP.l2d w)), .second, .val (.ref a4)] [(.ref a1)])) _
  refine Goes.of (fun t k => XS.aload X22.here hx rfl (hb hby d1_42) rfl rfl k) ?_
  show Goes p e below (T22.setTop (mkF m 44 #[.val (.ref a1), .val (.ref a2), .val (.double (FP.l2d w)), .second, .val (.ref a4)] [(.ref a4), (.ref a1)])) _
  obtain ⟨T37, h37, X37, e37, E37, V37, C37, st37⟩ := cloneH X22 hx hZ hown (ad := "[D") (hw _ (List.mem_of_getElem? (i := 10) rfl)) (hw _ (List.mem_of_getElem? (i := 11) rfl)) (hw _ (List.mem_of_getElem? (i := 15) rfl)) (hw _ (List.mem_of_getElem? (i := 13) rfl)) (hw _ (List.mem_of_getElem? (i := 14) rfl)) (hw _ (List.mem_of_getElem? (i := 16) rfl)) e22 f34.arh f32 (g := (mkF m 44 #[.val (.ref a1), .val (.ref a2), .val (.double (FP.l2d w)), .second, .val (.ref a4)] [(.ref a4), (.ref a1)])) rfl (by rw [hml]; rfl) rfl (hb hby d1_44) (by decide) (W := 1) (by show 2 * 0 + _ ≤ _; exact Nat.le_of_eq rfl) (by decide) (cap := 2) (by decide) (by decide) (by decide)
  obtain ⟨b37, g37⟩ : ∃ z, z = h22.size := ⟨_, rfl⟩
  rw [← g37] at V37 C37 st37
  have g38 : n0 ≤ b37 := Nat.le_trans z25 (Nat.le_of_eq g37.symm)
  have z39 : n0 ≤ h37.size := Nat.le_trans z25 E37.1
  have z40 : h0.size ≤ b37 := Nat.le_trans K24.1 (Nat.le_of_eq g37.symm)
  have q41 : a1 ≠ b37 := Nat.ne_of_lt (Nat.lt_of_lt_of_le f26.lt (Nat.le_of_eq g37.symm))
  have q42 : a2 ≠ b37 := Nat.ne_of_lt (Nat.lt_of_lt_of_le f31.lt (Nat.le_of_eq g37.symm))
  have q43 : a4 ≠ b37 := Nat.ne_of_lt (Nat.lt_of_lt_of_le f32.lt (Nat.le_of_eq g37.symm))
  have q44 : b4 ≠ b37 := Nat.ne_of_lt (Nat.lt_of_lt_of_le f35.lt (Nat.le_of_eq g37.symm))
  have f45 := f26.ext E37
  have f46 := f23.ext E37
  have f47 := f28.ext E37
  have f48 := f29.ext E37
  have f49 := f30.ext E37
  have f50 := f31.ext E37
  have f51 := f32.ext E37
  have f52 := f33.ext E37
  have f53 := f34.ext E37
  have f54 := f35.ext E37
  have f55 := f36.ext E37
  have K56 : Keep h0 h37 [a1] := K24.ext E37
  have V37v : Arv Z h37 b37 kV .double (2 : Int32) [(.double (FP.l2d y0)), (.double (FP.l2d y1))] (.double (FP.l2d 0)) := V37
  refine Goes.of st37 ?_
  show Goes p e below (T37.setTop (mkF m 47 #[.val (.ref a1), .val (.ref a2), .val (.double (FP.l2d w)), .second, .val (.ref a4)] [(.ref b37), (.ref a1)])) _
  obtain ⟨T57, X57, e57, st57⟩ := castY X37 hx hZ hown (hw _ (List.mem_of_getElem? (i := 17) rfl)) e37 (Ins.self C37) (g := (mkF m 47 #[.val (.ref a1), .val (.ref a2), .val (.double (FP.l2d w)), .second, .val (.ref a4)] [(.ref b37), (.ref a1)])) rfl rfl (hb hby d1_47)
  refine Goes.of st57 ?_
  show Goes p e below (T57.setTop (mkF m 50 #[.val (.ref a1), .val (.ref a2), .val (.double (FP.l2d w)), .second, .val (.ref a4)] [(.ref b37), (.ref a1)])) _
  obtain ⟨T58, h58, X58, e58, W58, st58⟩ := putF X57 hx hZ hown (host := "") (Or.inl (hw _ (List.mem_of_getElem? (i := 21) rfl))) Via.refl e57 f47 f45 (Or.inr ⟨(hw _ (List.mem_of_getElem? (i := 22) rfl)), rfl, hnm⟩) (hw _ (List.mem_of_getElem? (i := 2) rfl)) (ty := (.array .double)) (by decide) rfl rfl (g := (mkF m 50 #[.val (.ref a1), .val (.ref a2), .val (.double (FP.l2d w)), .second, .val (.ref a4)] [(.ref b37), (.ref a1)])) rfl rfl (hb hby d1_50)
  have f59 := f47.same W58
  have K60 : Keep h0 h58 [a1] := K56.wr W58 (Or.inl (List.mem_of_getElem? (i := 0) rfl))
  have z61 : n0 ≤ h58.size := Nat.le_trans z39 (Keep.of_wr W58).1
  have f62 := f45.wr W58
  have f63 := f46.other W58 (Or.inr (slot_ne (Or.inr (hw _ (List.mem_of_getElem? (i := 20) rfl))) (Or.inr (hw _ (List.mem_of_getElem? (i := 22) rfl))) (by decide) (t := (.array .double)) (t' := (.array .double)) (by decide) (by decide)))
  have f65 := f48.other W58 (Or.inr (slot_ne (Or.inr (hw _ (List.mem_of_getElem? (i := 24) rfl))) (Or.inr (hw _ (List.mem_of_getElem? (i := 22) rfl))) (by decide) (t := (.array .double)) (t' := (.array .double)) (by decide) (by decide)))
  have f66 := f49.other W58 (Or.inr (slot_ne (Or.inl (hw _ (List.mem_of_getElem? (i := 26) rfl))) (Or.inr (hw _ (List.mem_of_getElem? (i := 22) rfl))) (by decide) (t := .double) (t' := (.array .double)) (by decide) (by decide)))
  have f67 := f50.wr W58
  have f68 := f51.wr W58
  have f69 := f52.other W58 (Ne.symm n1a2)
  have f70 := f53.other W58 (Ne.symm n1a4)
  have f71 := f54.wr W58
  have f72 := f55.other W58 (Ne.symm q8)
  have f73 := C37.wr W58
  have f74 := V37v.other W58 (Ne.symm q41)
  have N58 := Fr.snoc X58 N22 g
  refine Goes.of st58 ?_
  show Goes p e below (T58.setTop (mkF m 53 #[.val (.ref a1), .val (.ref a2), .val (.double (FP.l2d w)), .second, .val (.ref a4)] [])) _
  refine Goes.of (fun t k => XS.aloadN X58.here hx rfl (hb hby d1_53) rfl rfl k) ?_
  show Goes p e below (T58.setTop (mkF m 54 #[.val (.ref a1), .val (.ref a2), .val (.double (FP.l2d w)), .second, .val (.ref a4)] [(.ref a1)])) _
  refine Goes.of (fun t k => XS.aloadN X58.here hx rfl (hb hby d1_54) rfl rfl k) ?_
  show Goes p e below (T58.setTop (mkF m 55 #[.val (.ref a1), .val (.ref a2), .val (.double (FP.l2d w)), .second, .val (.ref a4)] [(.ref a2), (.ref a1)])) _
  obtain ⟨T75, h75, X75, e75, E75, V75, C75, st75⟩ := cloneH X58 hx hZ hown (ad := "[D") (hw _ (List.mem_of_getElem? (i := 10) rfl)) (hw _ (List.mem_of_getElem? (i := 11) rfl)) (hw _ (List.mem_of_getElem? (i := 15) rfl)) (hw _ (List.mem_of_getElem? (i := 13) rfl)) (hw _ (List.mem_of_getElem? (i := 14) rfl)) (hw _ (List.mem_of_getElem? (i := 16) rfl)) e58 f69.arh f67 (g := (mkF m 55 #[.val (.ref a1), .val (.ref a2), .val (.double (FP.l2d w)), .second, .val (.ref a4)] [(.ref a2), (.ref a1)])) rfl (by rw [hml]; rfl) rfl (hb hby d1_55) (by decide) (W := 1) (by show 2 * 0 + _ ≤ _; exact Nat.le_of_eq rfl) (by decide) (cap := 2) (by decide) (by decide) (by decide)
  obtain ⟨b75, g75⟩ : ∃ z, z = h58.size := ⟨_, rfl⟩
  rw [← g75] at V75 C75 st75
  have g76 : n0 ≤ b75 := Nat.le_trans z61 (Nat.le_of_eq g75.symm)
  have z77 : n0 ≤ h75.size := Nat.le_trans z61 E75.1
  have z78 : h0.size ≤ b75 := Nat.le_trans K60.1 (Nat.le_of_eq g75.symm)
  have q79 : a1 ≠ b75 := Nat.ne_of_lt (Nat.lt_of_lt_of_le f62.lt (Nat.le_of_eq g75.symm))
  have q80 : a2 ≠ b75 := Nat.ne_of_lt (Nat.lt_of_lt_of_le f67.lt (Nat.le_of_eq g75.symm))
  have q81 : a4 ≠ b75 := Nat.ne_of_lt (Nat.lt_of_lt_of_le f68.lt (Nat.le_of_eq g75.symm))
  have q82 : b4 ≠ b75 := Nat.ne_of_lt (Nat.lt_of_lt_of_le f71.lt (Nat.le_of_eq g75.symm))
  have q83 : b37 ≠ b75 := Nat.ne_of_lt (Nat.lt_of_lt_of_le f73.lt (Nat.le_of_eq g75.symm))
  have f84 := f62.ext E75
  have f85 := f63.ext E75
  have f86 := f59.ext E75
  have f87 := f65.ext E75
  have f88 := f66.ext E75
  have f89 := f67.ext E75
  have f90 := f68.ext E75
  have f91 := f69.ext E75
  have f92 := f70.ext E75
  have f93 := f71.ext E75
  have f94 := f72.ext E75
  have f95 := f73.ext E75
  have f96 := f74.ext E75
  have K97 : Keep h0 h75 [a1] := K60.ext E75
  have V75v : Arv Z h75 b75 kP .double (2 : Int32) [(.double (FP.l2d x0)), (.double (FP.l2d x1))] (.double (FP.l2d 0)) := V75
  refine Goes.of st75 ?_
  show Goes p e below (T75.setTop (mkF m 58 #[.val (.ref a1), .val (.ref a2), .val (.double (FP.l2d w)), .second, .val (.ref a4)] [(.ref b75), (.ref a1)])) _
  obtain ⟨T98, X98, e98, st98⟩ := castY X75 hx hZ hown (hw _ (List.mem_of_getElem? (i := 17) rfl)) e75 (Ins.self C75) (g := (mkF m 58 #[.val (.ref a1), .val (.ref a2), .val (.double (FP.l2d w)), .second, .val (.ref a4)] [(.ref b75), (.ref a1)])) rfl rfl (hb hby d1_58)
  refine Goes.of st98 ?_
  show Goes p e below (T98.setTop (mkF m 61 #[.val (.ref a1), .val (.ref a2), .val (.double (FP.l2d w)), .second, .val (.ref a4)] [(.ref b75), (.ref a1)])) _
  obtain ⟨T99, h99, X99, e99, W99, st99⟩ := putF X98 hx hZ hown (host := "") (Or.inl (hw _ (List.mem_of_getElem? (i := 23) rfl))) Via.refl e98 f87 f84 (Or.inr ⟨(hw _ (List.mem_of_getElem? (i := 24) rfl)), rfl, hnm⟩) (hw _ (List.mem_of_getElem? (i := 2) rfl)) (ty := (.array .double)) (by decide) rfl rfl (g := (mkF m 61 #[.val (.ref a1), .val (.ref a2), .val (.double (FP.l2d w)), .second, .val (.ref a4)] [(.ref b75), (.ref a1)])) rfl rfl (hb hby d1_61)
  have f100 := f87.same W99
  have K101 : Keep h0 h99 [a1] := K97.wr W99 (Or.inl (List.mem_of_getElem? (i := 0) rfl))
  have z102 : n0 ≤ h99.size := Nat.le_trans z77 (Keep.of_wr W99).1
  have f103 := f84.wr W99
  have f104 := f85.other W99 (Or.inr (slot_ne (Or.inr (hw _ (List.mem_of_getElem? (i := 20) rfl))) (Or.inr (hw _ (List.mem_of_getElem? (i := 24) rfl))) (by decide) (t := (.array .double)) (t' := (.array .double)) (by decide) (by decide)))
  have f105 := f86.other W99 (Or.inr (slot_ne (Or.inr (hw _ (List.mem_of_getElem? (i := 22) rfl))) (Or.inr (hw _ (List.mem_of_getElem? (i := 24) rfl))) (by decide) (t := (.array .double)) (t' := (.array .double)) (by decide) (by decide)))
  have f107 := f88.other W99 (Or.inr (slot_ne (Or.inl (hw _ (List.mem_of_getElem? (i := 26) rfl))) (Or.inr (hw _ (List.mem_of_getElem? (i := 24) rfl))) (by decide) (t := .double) (t' := (.array .double)) (by decide) (by decide)))
  have f108 := f89.wr W99
  have f109 := f90.wr W99
  have f110 := f91.other W99 (Ne.symm n1a2)
  have f111 := f92.other W99 (Ne.symm n1a4)
  have f112 := f93.wr W99
  have f113 := f94.other W99 (Ne.symm q8)
  have f114 := f95.wr W99
  have f115 := f96.other W99 (Ne.symm q41)
  have f116 := C75.wr W99
  have f117 := V75v.other W99 (Ne.symm q79)
  have N99 := Fr.snoc X99 N58 g
  refine Goes.of st99 ?_
  show Goes p e below (T99.setTop (mkF m 64 #[.val (.ref a1), .val (.ref a2), .val (.double (FP.l2d w)), .second, .val (.ref a4)] [])) _
  refine Goes.of (fun t k => XS.aloadN X99.here hx rfl (hb hby d1_64) rfl rfl k) ?_
  show Goes p e below (T99.setTop (mkF m 65 #[.val (.ref a1), .val (.ref a2), .val (.double (FP.l2d w)), .second, .val (.ref a4)] [(.ref a1)])) _
  refine Goes.of (fun t k => XS.dloadN X99.here hx rfl (hb hby d1_65) rfl k) ?_
  show Goes p e below (T99.setTop (mkF m 66 #[.val (.ref a1), .val (.ref a2), .val (.double (FP.l2d w)), .second, .val (.ref a4)] [(.double (FP.l2d w)), (.ref a1)])) _
  obtain ⟨T118, h118, X118, e118, W118, st118⟩ := putF X99 hx hZ hown (host := "") (Or.inl (hw _ (List.mem_of_getElem? (i := 25) rfl))) Via.refl e99 f107 f103 (Or.inl (hw _ (List.mem_of_getElem? (i := 26) rfl))) (hw _ (List.mem_of_getElem? (i := 2) rfl)) (ty := .double) (by decide) rfl rfl (g := (mkF m 66 #[.val (.ref a1), .val (.ref a2), .val (.double (FP.l2d w)), .second, .val (.ref a4)] [(.double (FP.l2d w)), (.ref a1)])) rfl rfl (hb hby d1_66)
  have f119 := f107.same W118
  have K120 : Keep h0 h118 [a1] := K101.wr W118 (Or.inl (List.mem_of_getElem? (i := 0) rfl))
  have z121 : n0 ≤ h118.size := Nat.le_trans z102 (Keep.of_wr W118).1
  have f122 := f103.wr W118
  have f123 := f104.other W118 (Or.inr (slot_ne (Or.inr (hw _ (List.mem_of_getElem? (i := 20) rfl))) (Or.inl (hw _ (List.mem_of_getElem? (i := 26) rfl))) (by decide) (t := (.array .double)) (t' := .double) (by decide) (by decide)))
  have f124 := f105.other W118 (Or.inr (slot_ne (Or.inr (hw _ (List.mem_of_getElem? (i := 22) rfl))) (Or.inl (hw _ (List.mem_of_getElem? (i := 26) rfl))) (by decide) (t := (.array .double)) (t' := .double) (by decide) (by decide)))
  have f125 := f100.other W118 (Or.inr (slot_ne (Or.inr (hw _ (List.mem_of_getElem? (i := 24) rfl))) (Or.inl (hw _ (List.mem_of_getElem? (i := 26) rfl))) (by decide) (t := (.array .double)) (t' := .double) (by decide) (by decide)))
  have f127 := f108.wr W118
  have f128 := f109.wr W118
  have f129 := f110.other W118 (Ne.symm n1a2)
  have f130 := f111.other W118 (Ne.symm n1a4)
  have f131 := f112.wr W118
  have f132 := f113.other W118 (Ne.symm q8)
  have f133 := f114.wr W118
  have f134 := f115.other W118 (Ne.symm q41)
  have f135 := f116.wr W118
  have f136 := f117.other W118 (Ne.symm q79)
  have N118 := Fr.snoc X118 N99 g
  refine Goes.of st118 ?_
  show Goes p e below (T118.setTop (mkF m 69 #[.val (.ref a1), .val (.ref a2), .val (.double (FP.l2d w)), .second, .val (.ref a4)] [])) _
  have eh : T118.heap = h118 := e118
  exact Goes.retV X118 hx Bd.returns hlocks (hb hby d1_69) (⟨b4, b75, rfl, N118, by rw [eh]; exact K120, z7, z78, q82, by rw [eh]; exact f122, by rw [eh]; exact f123, by rw [eh]; exact f125, by rw [eh]; exact f119, by rw [eh]; exact f132, by rw [eh]; exact f136, q8, q79⟩) (by decide) (by decide)
theorem ef_3 (m : MethodId) (x0 : Addr) : entryFrame m #[(.ref x0)] 1 = mkF m 0 #[.val (.ref x0)] [] := by first | (simp [entryFrame, mkF, argsToLocals, Value.category]; done) | rfl
def Q3 (Z : State) (a1 : Addr) (u : Addr) (h0 : Heap) (n0 : Nat) (v : Option Value) (h : Heap) (L : List Loc) : Prop := v = some (.ref u) ∧ Fr n0 L ∧ h = h0
set_option maxRecDepth 65536 in
set_option maxHeartbeats 40000000 in
theorem rm3 (l : Launch) (Z : State) (a0 : Array Value) (hw : ∀ d ∈ tables_1, d.before a0 Z = true) (ws : List Jvm.Cond) (a1 : Addr) (u : Addr) (h0 : Heap) (n0 : Nat) (Z0 : n0 ≤ h0.size) (F : Fld Z h0 a1 "com/example/driftswarm/driftswarm/swarm/Particle" "position" "[D" (.ref u)) :
    MetFree l (⟨"com/example/driftswarm/driftswarm/swarm/Particle", "position", "()[D"⟩ : MethodName) (head1 (Jvm.Cond.code (⟨"com/example/driftswarm/driftswarm/swarm/Particle", "position", "()[D"⟩ : MethodName) prog_43_method_2_code 1 (some (.array .double)) :: ws) ({ frames := 0, cells := 0, slots := 0, locals := 0 } : Room)) (fun a U => a = #[(.ref a1)] ∧ Z.Warmed39 U.vm ∧ U.heap = h0) (fun _ _ _ _ _ => True) (fun _ U o U' => ∃ v L, o = .returned v ∧ Q3 Z a1 u h0 n0 v U'.heap L ∧ FrameEnd U o U' L ({ frames := 0, cells := 0, slots := 0, locals := 0 } : Room).cells ({ frames := 0, cells := 0, slots := 0, locals := 0 } : Room).slots) := by
  refine MetFree.of_bodySF (plainFor_of_name pn_0) hisR ?_
  intro p e s m args below meth c s₁ Bd hml0 hP hK
  obtain ⟨rfl, hZ, hh⟩ := hP
  have hx := Bd.exec
  have hby := Bd.bytes
  have hml : c.maxLocals = 1 := hml0
  have hown : s.vm.findClass "com/example/driftswarm/driftswarm/swarm/Particle" = some m.cls := findClass_of_methodNamed Bd.named
  have hnm := (name_of_methodNamed Bd.named Bd.method).1
  have hlocks : meth.locks = false := BodyLoose.notSynchronized Bd
  have X0 : Stand p l e ({ frames := 0, cells := 0, slots := 0, locals := 0 } : Room) s m #[(.ref a1)] below meth c s₁ [] 0 0 := Stand.of_body Bd
  have e0 : s₁.heap = h0 := by rw [← hh, Bd.state]; rfl
  have N0 := Fr.nil n0
  show Goes p e below (s₁.setTop (entryFrame m #[(.ref a1)] 1)) (Fin s (Q3 Z a1 u h0 n0) ({ frames := 0, cells := 0, slots := 0, locals := 0 } : Room).cells ({ frames := 0, cells := 0, slots := 0, locals := 0 } : Room).slots)
  refine Goes.of (fun t k => castTop (ef_3 m a1) k) ?_
  show Goes p e below (s₁.setTop (mkF m 0 #[.val (.ref a1)] [])) _
  refine Goes.of (fun t k => XS.aloadN X0.here hx rfl (hb hby d3_0) rfl rfl k) ?_
  show Goes p e below (s₁.setTop (mkF m 1 #[.val (.ref a1)] [(.ref a1)])) _
  obtain ⟨T137, X137, e137, st137⟩ := getF X0 hx hZ hown (host := "") (Or.inl (hw _ (List.mem_of_getElem? (i := 19) rfl))) Via.refl e0 F (g := (mkF m 1 #[.val (.ref a1)] [(.ref a1)])) rfl rfl (hb hby d3_1)
  refine Goes.of st137 ?_
  show Goes p e below (T137.setTop (mkF m 4 #[.val (.ref a1)] [(.ref u)])) _
  exact Goes.retA X137 hx (by rfl) Bd.returns (by rfl) hlocks (hb hby d3_4) (⟨rfl, N0, e137⟩) (by decide) (by decide)
theorem ef_6 (m : MethodId) (x0 : Addr) : entryFrame m #[(.ref x0)] 1 = mkF m 0 #[.val (.ref x0)] [] := by first | (simp [entryFrame, mkF, argsToLocals, Value.category]; done) | rfl
def Q6 (Z : State) (a1 : Addr) (u : Addr) (h0 : Heap) (n0 : Nat) (v : Option Value) (h : Heap) (L : List Loc) : Prop := v = some (.ref u) ∧ Fr n0 L ∧ h = h0
set_option maxRecDepth 65536 in
set_option maxHeartbeats 40000000 in
theorem rm6 (l : Launch) (Z : State) (a0 : Array Value) (hw : ∀ d ∈ tables_1, d.before a0 Z = true) (ws : List Jvm.Cond) (a1 : Addr) (u : Addr) (h0 : Heap) (n0 : Nat) (Z0 : n0 ≤ h0.size) (F : Fld Z h0 a1 "com/example/driftswarm/driftswarm/swarm/Particle" "best" "[D" (.ref u)) :
    MetFree l (⟨"com/example/driftswarm/driftswarm/swarm/Particle", "best", "()[D"⟩ : MethodName) (head1 (Jvm.Cond.code (⟨"com/example/driftswarm/driftswarm/swarm/Particle", "best", "()[D"⟩ : MethodName) prog_43_method_4_code 1 (some (.array .double)) :: ws) ({ frames := 0, cells := 0, slots := 0, locals := 0 } : Room)) (fun a U => a = #[(.ref a1)] ∧ Z.Warmed39 U.vm ∧ U.heap = h0) (fun _ _ _ _ _ => True) (fun _ U o U' => ∃ v L, o = .returned v ∧ Q6 Z a1 u h0 n0 v U'.heap L ∧ FrameEnd U o U' L ({ frames := 0, cells := 0, slots := 0, locals := 0 } : Room).cells ({ frames := 0, cells := 0, slots := 0, locals := 0 } : Room).slots) := by
  refine MetFree.of_bodySF (plainFor_of_name pn_0) hisR ?_
  intro p e s m args below meth c s₁ Bd hml0 hP hK
  obtain ⟨rfl, hZ, hh⟩ := hP
  have hx := Bd.exec
  have hby := Bd.bytes
  have hml : c.maxLocals = 1 := hml0
  have hown : s.vm.findClass "com/example/driftswarm/driftswarm/swarm/Particle" = some m.cls := findClass_of_methodNamed Bd.named
  have hnm := (name_of_methodNamed Bd.named Bd.method).1
  have hlocks : meth.locks = false := BodyLoose.notSynchronized Bd
  have X0 : Stand p l e ({ frames := 0, cells := 0, slots := 0, locals := 0 } : Room) s m #[(.ref a1)] below meth c s₁ [] 0 0 := Stand.of_body Bd
  have e0 : s₁.heap = h0 := by rw [← hh, Bd.state]; rfl
  have N0 := Fr.nil n0
  show Goes p e below (s₁.setTop (entryFrame m #[(.ref a1)] 1)) (Fin s (Q6 Z a1 u h0 n0) ({ frames := 0, cells := 0, slots := 0, locals := 0 } : Room).cells ({ frames := 0, cells := 0, slots := 0, locals := 0 } : Room).slots)
  refine Goes.of (fun t k => castTop (ef_6 m a1) k) ?_
  show Goes p e below (s₁.setTop (mkF m 0 #[.val (.ref a1)] [])) _
  refine Goes.of (fun t k => XS.aloadN X0.here hx rfl (hb hby d6_0) rfl rfl k) ?_
  show Goes p e below (s₁.setTop (mkF m 1 #[.val (.ref a1)] [(.ref a1)])) _
  obtain ⟨T138, X138, e138, st138⟩ := getF X0 hx hZ hown (host := "") (Or.inl (hw _ (List.mem_of_getElem? (i := 23) rfl))) Via.refl e0 F (g := (mkF m 1 #[.val (.ref a1)] [(.ref a1)])) rfl rfl (hb hby d6_1)
  refine Goes.of st138 ?_
  show Goes p e below (T138.setTop (mkF m 4 #[.val (.ref a1)] [(.ref u)])) _
  exact Goes.retA X138 hx (by rfl) Bd.returns (by rfl) hlocks (hb hby d6_4) (⟨rfl, N0, e138⟩) (by decide) (by decide)
theorem ef_5 (m : MethodId) (x0 : Addr) : entryFrame m #[(.ref x0)] 1 = mkF m 0 #[.val (.ref x0)] [] := by first | (simp [entryFrame, mkF, argsToLocals, Value.category]; done) | rfl
def Q5 (Z : State) (a1 : Addr) (w : Int64) (h0 : Heap) (n0 : Nat) (v : Option Value) (h : Heap) (L : List Loc) : Prop := v = some (.double (FP.l2d w)) ∧ Fr n0 L ∧ h = h0
set_option maxRecDepth 65536 in
set_option maxHeartbeats 40000000 in
theorem rm5 (l : Launch) (Z : State) (a0 : Array Value) (hw : ∀ d ∈ tables_1, d.before a0 Z = true) (ws : List Jvm.Cond) (a1 : Addr) (w : Int64) (h0 : Heap) (n0 : Nat) (Z0 : n0 ≤ h0.size) (F : Fld Z h0 a1 "com/example/driftswarm/driftswarm/swarm/Particle" "bestValue" "D" (.double (FP.l2d w))) :
    MetFree l (⟨"com/example/driftswarm/driftswarm/swarm/Particle", "bestValue", "()D"⟩ : MethodName) (head1 (Jvm.Cond.code (⟨"com/example/driftswarm/driftswarm/swarm/Particle", "bestValue", "()D"⟩ : MethodName) prog_43_method_5_code 1 (some .double) :: ws) ({ frames := 0, cells := 0, slots := 0, locals := 0 } : Room)) (fun a U => a = #[(.ref a1)] ∧ Z.Warmed39 U.vm ∧ U.heap = h0) (fun _ _ _ _ _ => True) (fun _ U o U' => ∃ v L, o = .returned v ∧ Q5 Z a1 w h0 n0 v U'.heap L ∧ FrameEnd U o U' L ({ frames := 0, cells := 0, slots := 0, locals := 0 } : Room).cells ({ frames := 0, cells := 0, slots := 0, locals := 0 } : Room).slots) := by
  refine MetFree.of_bodySF (plainFor_of_name pn_0) hisR ?_
  intro p e s m args below meth c s₁ Bd hml0 hP hK
  obtain ⟨rfl, hZ, hh⟩ := hP
  have hx := Bd.exec
  have hby := Bd.bytes
  have hml : c.maxLocals = 1 := hml0
  have hown : s.vm.findClass "com/example/driftswarm/driftswarm/swarm/Particle" = some m.cls := findClass_of_methodNamed Bd.named
  have hnm := (name_of_methodNamed Bd.named Bd.method).1
  have hlocks : meth.locks = false := BodyLoose.notSynchronized Bd
  have X0 : Stand p l e ({ frames := 0, cells := 0, slots := 0, locals := 0 } : Room) s m #[(.ref a1)] below meth c s₁ [] 0 0 := Stand.of_body Bd
  have e0 : s₁.heap = h0 := by rw [← hh, Bd.state]; rfl
  have N0 := Fr.nil n0
  show Goes p e below (s₁.setTop (entryFrame m #[(.ref a1)] 1)) (Fin s (Q5 Z a1 w h0 n0) ({ frames := 0, cells := 0, slots := 0, locals := 0 } : Room).cells ({ frames := 0, cells := 0, slots := 0, locals := 0 } : Room).slots)
  refine Goes.of (fun t k => castTop (ef_5 m a1) k) ?_
  show Goes p e below (s₁.setTop (mkF m 0 #[.val (.ref a1)] [])) _
  refine Goes.of (fun t k => XS.aloadN X0.here hx rfl (hb hby d5_0) rfl rfl k) ?_
  show Goes p e below (s₁.setTop (mkF m 1 #[.val (.ref a1)] [(.ref a1)])) _
  obtain ⟨T139, X139, e139, st139⟩ := getF X0 hx hZ hown (host := "") (Or.inl (hw _ (List.mem_of_getElem? (i := 25) rfl))) Via.refl e0 F (g := (mkF m 1 #[.val (.ref a1)] [(.ref a1)])) rfl rfl (hb hby d5_1)
  refine Goes.of st139 ?_
  show Goes p e below (T139.setTop (mkF m 4 #[.val (.ref a1)] [(.double (FP.l2d w))])) _
  exact Goes.retD X139 hx Bd.returns hlocks (hb hby d5_4) (⟨rfl, N0, e139⟩) (by decide) (by decide)
def own_pk (w q a b : Int64) : Int64 := if w < q then a else b
theorem ef_4 (m : MethodId) (x0 : Addr) (x1 : UInt64) : entryFrame m #[(.ref x0), (.double x1)] 3 = mkF m 0 #[.val (.ref x0), .val (.double x1), .second] [] := by first | (simp [entryFrame, mkF, argsToLocals, Value.category]; done) | rfl
def Q4 (Z : State) (a1 : Addr) (q : Int64) (w : Int64) (bp : Addr) (bb : Addr) (kP : ClassId) (kB : ClassId) (x0 : Int64) (x1 : Int64) (y0 : Int64) (y1 : Int64) (h0 : Heap) (n0 : Nat) (v : Option Value) (h : Heap) (L : List Loc) : Prop := v = some (.int (if w < q then 1 else 0)) ∧ Fr n0 L ∧ Keep h0 h [a1, bb] ∧ Exa Z h a1 "com/example/driftswarm/driftswarm/swarm/Particle" ∧ Fld Z h a1 "com/example/driftswarm/driftswarm/swarm/Particle" "position" "[D" (.ref bp) ∧ Fld Z h a1 "com/example/driftswarm/driftswarm/swarm/Particle" "best" "[D" (.ref bb) ∧ Fld Z h a1 "com/example/driftswarm/driftswarm/swarm/Particle" "bestValue" "D" (.double (FP.l2d (own_pk w q q w))) ∧ Arv Z h bp kP .double (2 : Int32) [(.double (FP.l2d x0)), (.double (FP.l2d x1))] (.double (FP.l2d 0)) ∧ Arv Z h bb kB .double (2 : Int32) [(.double (FP.l2d (own_pk w q x0 y0))), (.double (FP.l2d (own_pk w q x1 y1)))] (.double (FP.l2d 0))
set_option maxRecDepth 65536 in
set_option maxHeartbeats 40000000 in
theorem rm4 (l : Launch) (Z : State) (a0 : Array Value) (hw : ∀ d ∈ tables_1, d.before a0 Z = true) (ws : List Jvm.Cond) (a1 : Addr) (q : Int64) (w : Int64) (bp : Addr) (bb : Addr) (kP : ClassId) (kB : ClassId) (x0 : Int64) (x1 : Int64) (y0 : Int64) (y1 : Int64) (h0 : Heap) (n0 : Nat) (Z0 : n0 ≤ h0.size) (E : Exa Z h0 a1 "com/example/driftswarm/driftswarm/swarm/Particle") (g : n0 ≤ a1) (gb : n0 ≤ bb) (F_position : Fld Z h0 a1 "com/example/driftswarm/driftswarm/swarm/Particle" "position" "[D" (.ref bp)) (F_best : Fld Z h0 a1 "com/example/driftswarm/driftswarm/swarm/Particle" "best" "[D" (.ref bb)) (F_bestValue : Fld Z h0 a1 "com/example/driftswarm/driftswarm/swarm/Particle" "bestValue" "D" (.double (FP.l2d w))) (VP : Arv Z h0 bp kP .double (2 : Int32) [(.double (FP.l2d x0)), (.double (FP.l2d x1))] (.double (FP.l2d 0))) (VB : Arv Z h0 bb kB .double (2 : Int32) [(.double (FP.l2d y0)), (.double (FP.l2d y1))] (.double (FP.l2d 0))) (n1p : a1 ≠ bp) (n1b : a1 ≠ bb) (npb : bp ≠ bb) (Bq : B53 q) (Bw : B53 w) :
    MetFree l (⟨"com/example/driftswarm/driftswarm/swarm/Particle", "offerBest", "(D)Z"⟩ : MethodName) (head1 (Jvm.Cond.code (⟨"com/example/driftswarm/driftswarm/swarm/Particle", "offerBest", "(D)Z"⟩ : MethodName) prog_43_method_8_code 3 (some .boolean) :: ws) ({ frames := 1, cells := 0, slots := 0, locals := 40 } : Room)) (fun a U => a = #[(.ref a1), (.double (FP.l2d q))] ∧ Z.Warmed39 U.vm ∧ U.heap = h0) (fun _ _ _ _ _ => True) (fun _ U o U' => ∃ v L, o = .returned v ∧ Q4 Z a1 q w bp bb kP kB x0 x1 y0 y1 h0 n0 v U'.heap L ∧ FrameEnd U o U' L ({ frames := 1, cells := 0, slots := 0, locals := 40 } : Room).cells ({ frames := 1, cells := 0, slots := 0, locals := 40 } : Room).slots) := by
  refine MetFree.of_bodySF (plainFor_of_name pn_0) hisR ?_
  intro p e s m args below meth c s₁ Bd hml0 hP hK
  obtain ⟨rfl, hZ, hh⟩ := hP
  have hx := Bd.exec
  have hby := Bd.bytes
  have hml : c.maxLocals = 3 := hml0
  have hown : s.vm.findClass "com/example/driftswarm/driftswarm/swarm/Particle" = some m.cls := findClass_of_methodNamed Bd.named
  have hnm := (name_of_methodNamed Bd.named Bd.method).1
  have hlocks : meth.locks = false := BodyLoose.notSynchronized Bd
  have X0 : Stand p l e ({ frames := 1, cells := 0, slots := 0, locals := 40 } : Room) s m #[(.ref a1), (.double (FP.l2d q))] below meth c s₁ [] 0 0 := Stand.of_body Bd
  have e0 : s₁.heap = h0 := by rw [← hh, Bd.state]; rfl
  have N0 := Fr.nil n0
  show Goes p e below (s₁.setTop (entryFrame m #[(.ref a1), (.double (FP.l2d q))] 3)) (Fin s (Q4 Z a1 q w bp bb kP kB x0 x1 y0 y1 h0 n0) ({ frames := 1, cells := 0, slots := 0, locals := 40 } : Room).cells ({ frames := 1, cells := 0, slots := 0, locals := 40 } : Room).slots)
  refine Goes.of (fun t k => castTop (ef_4 m a1 (FP.l2d q)) k) ?_
  have K0 : Keep h0 h0 [a1, bb] := Keep.refl _ _
  show Goes p e below (s₁.setTop (mkF m 0 #[.val (.ref a1), .val (.double (FP.l2d q)), .second] [])) _
  refine Goes.of (fun t k => XS.dloadN X0.here hx rfl (hb hby d4_0) rfl k) ?_
  show Goes p e below (s₁.setTop (mkF m 1 #[.val (.ref a1), .val (.double (FP.l2d q)), .second] [(.double (FP.l2d q))])) _
  refine Goes.of (fun t k => XS.aloadN X0.here hx rfl (hb hby d4_1) rfl rfl k) ?_
  show Goes p e below (s₁.setTop (mkF m 2 #[.val (.ref a1), .val (.double (FP.l2d q)), .second] [(.ref a1), (.double (FP.l2d q))])) _
  obtain ⟨T140, X140, e140, st140⟩ := getF X0 hx hZ hown (host := "") (Or.inl (hw _ (List.mem_of_getElem? (i := 25) rfl))) Via.refl e0 F_bestValue (g := (mkF m 2 #[.val (.ref a1), .val (.double (FP.l2d q)), .second] [(.ref a1), (.double (FP.l2d q))])) rfl rfl (hb hby d4_2)
  refine Goes.of st140 ?_
  show Goes p e below (T140.setTop (mkF m 5 #[.val (.ref a1), .val (.double (FP.l2d q)), .second] [(.double (FP.l2d w)), (.double (FP.l2d q))])) _
  refine Goes.of (fun t k => XS.dcmpS X140.here hx rfl (hb hby d4_5) rfl (dcmpV_w Bq Bw .l) k) ?_
  show Goes p e below (T140.setTop (mkF m 6 #[.val (.ref a1), .val (.double (FP.l2d q)), .second] [(.int (lcmpW q w))])) _
  by_cases hc6_141 : w < q
  · refine Goes.of (fun t k => XS.ifNo X140.here hx rfl (hb hby d4_6) rfl ((if0 _ _).trans (tlt ((lw_gt _ _).mpr hc6_141)).2.2.2) k) ?_
    show Goes p e below (T140.setTop (mkF m 9 #[.val (.ref a1), .val (.double (FP.l2d q)), .second] [])) _
    refine Goes.of (fun t k => XS.aloadN X140.here hx rfl (hb hby d4_9) rfl rfl k) ?_
    show Goes p e below (T140.setTop (mkF m 10 #[.val (.ref a1), .val (.double (FP.l2d q)), .second] [(.ref a1)])) _
    obtain ⟨T142, X142, e142, st142⟩ := getF X140 hx hZ hown (host := "") (Or.inl (hw _ (List.mem_of_getElem? (i := 19) rfl))) Via.refl e140 F_position (g := (mkF m 10 #[.val (.ref a1), .val (.double (FP.l2d q)), .second] [(.ref a1)])) rfl rfl (hb hby d4_10)
    refine Goes.of st142 ?_
    show Goes p e below (T142.setTop (mkF m 13 #[.val (.ref a1), .val (.double (FP.l2d q)), .second] [(.ref bp)])) _
    refine Goes.of (fun t k => XS.iconst X142.here hx rfl (hb hby d4_13) k) ?_
    show Goes p e below (T142.setTop (mkF m 14 #[.val (.ref a1), .val (.double (FP.l2d q)), .second] [(.int (0 : Int32)), (.ref bp)])) _
    refine Goes.of (fun t k => XS.aloadN X142.here hx rfl (hb hby d4_14) rfl rfl k) ?_
    show Goes p e below (T142.setTop (mkF m 15 #[.val (.ref a1), .val (.double (FP.l2d q)), .second] [(.ref a1), (.int (0 : Int32)), (.ref bp)])) _
    obtain ⟨T143, X143, e143, st143⟩ := getF X142 hx hZ hown (host := "") (Or.inl (hw _ (List.mem_of_getElem? (i := 23) rfl))) Via.refl e142 F_best (g := (mkF m 15 #[.val (.ref a1), .val (.double (FP.l2d q)), .second] [(.ref a1), (.int (0 : Int32)), (.ref bp)])) rfl rfl (hb hby d4_15)
    refine Goes.of st143 ?_
    show Goes p e below (T143.setTop (mkF m 18 #[.val (.ref a1), .val (.double (FP.l2d q)), .second] [(.ref bb), (.int (0 : Int32)), (.ref bp)])) _
    refine Goes.of (fun t k => XS.iconst X143.here hx rfl (hb hby d4_18) k) ?_
    show Goes p e below (T143.setTop (mkF m 19 #[.val (.ref a1), .val (.double (FP.l2d q)), .second] [(.int (0 : Int32)), (.ref bb), (.int (0 : Int32)), (.ref bp)])) _
    refine Goes.of (fun t k => XS.aloadN X143.here hx rfl (hb hby d4_19) rfl rfl k) ?_
    show Goes p e below (T143.setTop (mkF m 20 #[.val (.ref a1), .val (.double (FP.l2d q)), .second] [(.ref a1), (.int (0 : Int32)), (.ref bb), (.int (0 : Int32)), (.ref bp)])) _
    obtain ⟨T144, X144, e144, st144⟩ := getF X143 hx hZ hown (host := "") (Or.inl (hw _ (List.mem_of_getElem? (i := 19) rfl))) Via.refl e143 F_position (g := (mkF m 20 #[.val (.ref a1), .val (.double (FP.l2d q)), .second] [(.ref a1), (.int (0 : Int32)), (.ref bb), (.int (0 : Int32)), (.ref bp)])) rfl rfl (hb hby d4_20)
    refine Goes.of st144 ?_
    show Goes p e below (T144.setTop (mkF m 23 #[.val (.ref a1), .val (.double (FP.l2d q)), .second] [(.ref bp), (.int (0 : Int32)), (.ref bb), (.int (0 : Int32)), (.ref bp)])) _
    have Vc145 := VP
    obtain ⟨clc145, Arc145, qc145, Sc145, Nc145, Hc145, Gc145⟩ := Vc145
    refine Goes.of (X144.arraylength hx (by rw [e144]; exact Arc145.1) (State.isArrayOf_alike hZ.alike Arc145.2.1) (g := (mkF m 23 #[.val (.ref a1), .val (.double (FP.l2d q)), .second] [(.ref bp), (.int (0 : Int32)), (.ref bb), (.int (0 : Int32)), (.ref bp)])) rfl rfl (hb hby d4_23)) ?_
    rw [len_of Sc145 Nc145]
    show Goes p e below (T144.setTop (mkF m 24 #[.val (.ref a1), .val (.double (FP.l2d q)), .second] [(.int (2 : Int32)), (.int (0 : Int32)), (.ref bb), (.int (0 : Int32)), (.ref bp)])) _
    obtain ⟨T146, h146, L146, X146, e146, N146, K146, V146, st146⟩ := cpA X144 hx hZ hown (hw _ (List.mem_of_getElem? (i := 37) rfl)) (hw _ (List.mem_of_getElem? (i := 40) rfl)) (hw _ (List.mem_of_getElem? (i := 38) rfl)) (hw _ (List.mem_of_getElem? (i := 39) rfl)) e144 VP VB (us := [(.double (FP.l2d x0)), (.double (FP.l2d x1))]) (Or.inl ⟨rfl, rfl⟩) (by decide) (by decide) (by decide) (by decide) (by decide) rfl (Nat.le_of_ble_eq_true rfl) N0 gb (g := (mkF m 24 #[.val (.ref a1), .val (.double (FP.l2d q)), .second] [(.int (2 : Int32)), (.int (0 : Int32)), (.ref bb), (.int (0 : Int32)), (.ref bp)])) rfl (by rw [hml]; rfl) rfl (hb hby d4_24) (by decide) (W := 0) (by show 2 * 0 + _ ≤ _; exact Nat.le_of_eq rfl) (by decide)
    have V146v : Arv Z h146 bb kB .double (2 : Int32) [(.double (FP.l2d x0)), (.double (FP.l2d x1))] (.double (FP.l2d 0)) := V146
    have K147 : Keep h0 h146 [a1, bb] := K0.trans K146 (allS (Or.inl (List.mem_of_getElem? (i := 1) rfl)) all0)
    have z148 : n0 ≤ h146.size := Nat.le_trans Z0 K146.1
    have f149 := E.keep K146
    have f150 := F_position.keep K146 (ninS n1b nin0)
    have f151 := F_best.keep K146 (ninS n1b nin0)
    have f152 := F_bestValue.keep K146 (ninS n1b nin0)
    have f153 := VP.keep K146 (ninS npb nin0)
    refine Goes.of st146 ?_
    show Goes p e below (T146.setTop (mkF m 27 #[.val (.ref a1), .val (.double (FP.l2d q)), .second] [])) _
    refine Goes.of (fun t k => XS.aloadN X146.here hx rfl (hb hby d4_27) rfl rfl k) ?_
    show Goes p e below (T146.setTop (mkF m 28 #[.val (.ref a1), .val (.double (FP.l2d q)), .second] [(.ref a1)])) _
    refine Goes.of (fun t k => XS.dloadN X146.here hx rfl (hb hby d4_28) rfl k) ?_
    show Goes p e below (T146.setTop (mkF m 29 #[.val (.ref a1), .val (.double (FP.l2d q)), .second] [(.double (FP.l2d q)), (.ref a1)])) _
    obtain ⟨T155, h155, X155, e155, W155, st155⟩ := putF X146 hx hZ hown (host := "") (Or.inl (hw _ (List.mem_of_getElem? (i := 25) rfl))) Via.refl e146 f152 f149 (Or.inl (hw _ (List.mem_of_getElem? (i := 26) rfl))) (hw _ (List.mem_of_getElem? (i := 2) rfl)) (ty := .double) (by decide) rfl rfl (g := (mkF m 29 #[.val (.ref a1), .val (.double (FP.l2d q)), .second] [(.double (FP.l2d q)), (.ref a1)])) rfl rfl (hb hby d4_29)
    have f156 := f152.same W155
    have K157 : Keep h0 h155 [a1, bb] := K147.wr W155 (Or.inl (List.mem_of_getElem? (i := 0) rfl))
    have z158 : n0 ≤ h155.size := Nat.le_trans z148 (Keep.of_wr W155).1
    have f159 := f149.wr W155
    have f160 := f150.other W155 (Or.inr (slot_ne (Or.inr (hw _ (List.mem_of_getElem? (i := 20) rfl))) (Or.inl (hw _ (List.mem_of_getElem? (i := 26) rfl))) (by decide) (t := (.array .double)) (t' := .double) (by decide) (by decide)))
    have f161 := f151.other W155 (Or.inr (slot_ne (Or.inr (hw _ (List.mem_of_getElem? (i := 24) rfl))) (Or.inl (hw _ (List.mem_of_getElem? (i := 26) rfl))) (by decide) (t := (.array .double)) (t' := .double) (by decide) (by decide)))
    have f163 := f153.other W155 (Ne.symm n1p)
    have f164 := V146v.other W155 (Ne.symm n1b)
    have N155 := Fr.snoc X155 N146 g
    refine Goes.of st155 ?_
    show Goes p e below (T155.setTop (mkF m 32 #[.val (.ref a1), .val (.double (FP.l2d q)), .second] [])) _
    refine Goes.of (fun t k => XS.iconst X155.here hx rfl (hb hby d4_32) k) ?_
    show Goes p e below (T155.setTop (mkF m 33 #[.val (.ref a1), .val (.double (FP.l2d q)), .second] [(.int (1 : Int32))])) _
    have eh : T155.heap = h155 := e155
    exact Goes.retN (t := .boolean) X155 hx Bd.returns (by simp) hlocks (hb hby d4_33) (⟨by simp only [if_pos hc6_141]; rfl, N155, by rw [eh]; exact K157, by rw [eh]; exact f159, by rw [eh]; exact f160, by rw [eh]; exact f161, by rw [eh]; simp only [own_pk, if_pos hc6_141]; exact f156, by rw [eh]; exact f163, by rw [eh]; simp only [own_pk, if_pos hc6_141]; exact f164⟩) (by decide) (by decide)
  · refine Goes.of (fun t k => XS.ifYes X140.here hx rfl (pc0 := 6) (pc' := 34) rfl (hb hby d4_6) rfl ((if0 _ _).trans (flt (mt (lw_gt _ _).mp hc6_141)).2.2.2) (by decide) (by decide) k) ?_
    show Goes p e below (T140.setTop (mkF m 34 #[.val (.ref a1), .val (.double (FP.l2d q)), .second] [])) _
    refine Goes.of (fun t k => XS.iconst X140.here hx rfl (hb hby d4_34) k) ?_
    show Goes p e below (T140.setTop (mkF m 35 #[.val (.ref a1), .val (.double (FP.l2d q)), .second] [(.int (0 : Int32))])) _
    have eh : T140.heap = h0 := e140
    exact Goes.retN (t := .boolean) X140 hx Bd.returns (by simp) hlocks (hb hby d4_35) (⟨by simp only [if_neg hc6_141]; rfl, N0, by rw [eh]; exact K0, by rw [eh]; exact E, by rw [eh]; exact F_position, by rw [eh]; exact F_best, by rw [eh]; simp only [own_pk, if_neg hc6_141]; exact F_bestValue, by rw [eh]; exact VP, by rw [eh]; simp only [own_pk, if_neg hc6_141]; exact VB⟩) (by decide) (by decide)
theorem ef_0 (m : MethodId) (x0 : Int32) (x1 : Int32) (x2 : Int32) (x3 : Int32) (x4 : Int32) (x5 : Int32) : entryFrame m #[(.int x0), (.int x1), (.int x2), (.int x3), (.int x4), (.int x5)] maxLocals = mkF m 0 #[.val (.int x0), .val (.int x1), .val (.int x2), .val (.int x3), .val (.int x4), .val (.int x5), .unset, .unset, .unset, .unset, .unset, .unset, .unset, .unset, .unset, .unset, .unset, .unset, .unset, .unset, .unset, .unset, .unset, .unset, .unset, .unset, .unset, .unset, .unset, .unset, .unset, .unset] [] := by first | (simp [entryFrame, mkF, argsToLocals, Value.category, maxLocals]; done) | rfl
def Q0 (Z : State) (p1 : Int32) (p2 : Int32) (p3 : Int32) (p4 : Int32) (p5 : Int32) (p6 : Int32) (h0 : Heap) (n0 : Nat) (v : Option Value) (h : Heap) (L : List Loc) : Prop := v = some (.int 1) ∧ Fr n0 L
set_option maxRecDepth 65536 in
set_option maxHeartbeats 40000000 in
theorem rm0 (l : Launch) (Z : State) (a0 : Array Value) (hw : ∀ d ∈ tables_1, d.before a0 Z = true) (ws : List Jvm.Cond) (p1 : Int32) (p2 : Int32) (p3 : Int32) (p4 : Int32) (p5 : Int32) (p6 : Int32) (h0 : Heap) (n0 : Nat) (Z0 : n0 ≤ h0.size)  :
    MetFree l x (head1 (Jvm.Cond.code x code maxLocals ret :: ws) room_1) (fun a U => a = #[(.int p1), (.int p2), (.int p3), (.int p4), (.int p5), (.int p6)] ∧ Z.Warmed39 U.vm ∧ U.heap = h0) (fun _ _ _ _ _ => True) (fun _ U o U' => ∃ v L, o = .returned v ∧ Q0 Z p1 p2 p3 p4 p5 p6 h0 n0 v U'.heap L ∧ FrameEnd U o U' L room_1.cells room_1.slots) := by
  refine MetFree.of_bodySF (plainFor_of_name pn_1) hisR ?_
  intro p e s m args below meth c s₁ Bd hml0 hP hK
  obtain ⟨rfl, hZ, hh⟩ := hP
  have hx := Bd.exec
  have hby := Bd.bytes
  have hml : c.maxLocals = 32 := hml0
  have hown : s.vm.findClass "com/example/driftswarm/driftswarm/swarm/ParticleOfferBestPinLaw" = some m.cls := findClass_of_methodNamed Bd.named
  have hnm := (name_of_methodNamed Bd.named Bd.method).1
  have hlocks : meth.locks = false := BodyLoose.notSynchronized Bd
  have X0 : Stand p l e room_1 s m #[(.int p1), (.int p2), (.int p3), (.int p4), (.int p5), (.int p6)] below meth c s₁ [] 0 0 := Stand.of_body Bd
  have e0 : s₁.heap = h0 := by rw [← hh, Bd.state]; rfl
  have N0 := Fr.nil n0
  show Goes p e below (s₁.setTop (entryFrame m #[(.int p1), (.int p2), (.int p3), (.int p4), (.int p5), (.int p6)] maxLocals)) (Fin s (Q0 Z p1 p2 p3 p4 p5 p6 h0 n0) room_1.cells room_1.slots)
  refine Goes.of (fun t k => castTop (ef_0 m p1 p2 p3 p4 p5 p6) k) ?_
  show Goes p e below (s₁.setTop (mkF m 0 #[.val (.int p1), .val (.int p2), .val (.int p3), .val (.int p4), .val (.int p5), .val (.int p6), .unset, .unset, .unset, .unset, .unset, .unset, .unset, .unset, .unset, .unset, .unset, .unset, .unset, .unset, .unset, .unset, .unset, .unset, .unset, .unset, .unset, .unset, .unset, .unset, .unset, .unset] [])) _
  refine Goes.of (fun t k => XS.iloadN X0.here hx rfl (hb hby at_0) rfl k) ?_
  show Goes p e below (s₁.setTop (mkF m 1 #[.val (.int p1), .val (.int p2), .val (.int p3), .val (.int p4), .val (.int p5), .val (.int p6), .unset, .unset, .unset, .unset, .unset, .unset, .unset, .unset, .unset, .unset, .unset, .unset, .unset, .unset, .unset, .unset, .unset, .unset, .unset, .unset, .unset, .unset, .unset, .unset, .unset, .unset] [(.int p1)])) _
  refine Goes.of (fun t k => XS.i2dS X0.here hx rfl (hb hby at_1) rfl (i2d_w _) k) ?_
  show Goes p e below (s₁.setTop (mkF m 2 #[.val (.int p1), .val (.int p2), .val (.int p3), .val (.int p4), .val (.int p5), .val (.int p6), .unset, .unset, .unset, .unset, .unset, .unset, .unset, .unset, .unset, .unset, .unset, .unset, .unset, .unset, .unset, .unset, .unset, .unset, .unset, .unset, .unset, .unset, .unset, .unset, .unset, .unset] [(.double (FP.l2d (p1.toInt64)))])) _
  refine Goes.of (fun t k => XS.dstore X0.here hx rfl (hb hby at_2) rfl (l' := #[.val (.int p1), .val (.int p2), .val (.int p3), .val (.int p4), .val (.int p5), .val (.int p6), .val (.double (FP.l2d (p1.toInt64))), .second, .unset, .unset, .unset, .unset, .unset, .unset, .unset, .unset, .unset, .unset, .unset, .unset, .unset, .unset, .unset, .unset, .unset, .unset, .unset, .unset, .unset, .unset, .unset, .unset]) rfl k) ?_
  show Goes p e below (s₁.setTop (mkF m 4 #[.val (.int p1), .val (.int p2), .val (.int p3), .val (.int p4), .val (.int p5), .val (.int p6), .val (.double (FP.l2d (p1.toInt64))), .second, .unset, .unset, .unset, .unset, .unset, .unset, .unset, .unset, .unset, .unset, .unset, .unset, .unset, .unset, .unset, .unset, .unset, .unset, .unset, .unset, .unset, .unset, .unset, .unset] [])) _
  refine Goes.of (fun t k => XS.iload X0.here hx rfl (hb hby at_4) rfl k) ?_
  show Goes p e below (s₁.setTop (mkF m 6 #[.val (.int p1), .val (.int p2), .val (.int p3), .val (.int p4), .val (.int p5), .val (.int p6), .val (.double (FP.l2d (p1.toInt64))), .second, .unset, .unset, .unset, .unset, .unset, .unset, .unset, .unset, .unset, .unset, .unset, .unset, .unset, .unset, .unset, .unset, .unset, .unset, .unset, .unset, .unset, .unset, .unset, .unset] [(.int p6)])) _
  refine Goes.of (fun t k => XS.iconst X0.here hx rfl (hb hby at_6) k) ?_
  show Goes p e below (s₁.setTop (mkF m 7 #[.val (.int p1), .val (.int p2), .val (.int p3), .val (.int p4), .val (.int p5), .val (.int p6), .val (.double (FP.l2d (p1.toInt64))), .second, .unset, .unset, .unset, .unset, .unset, .unset, .unset, .unset, .unset, .unset, .unset, .unset, .unset, .unset, .unset, .unset, .unset, .unset, .unset, .unset, .unset, .unset, .unset, .unset] [(.int (3 : Int32)), (.int p6)])) _
  refine Goes.of (fun t k => XS.iand X0.here hx rfl (hb hby at_7) rfl k) ?_
  show Goes p e below (s₁.setTop (mkF m 8 #[.val (.int p1), .val (.int p2), .val (.int p3), .val (.int p4), .val (.int p5), .val (.int p6), .val (.double (FP.l2d (p1.toInt64))), .second, .unset, .unset, .unset, .unset, .unset, .unset, .unset, .unset, .unset, .unset, .unset, .unset, .unset, .unset, .unset, .unset, .unset, .unset, .unset, .unset, .unset, .unset, .unset, .unset] [(.int (p6 &&& (3 : Int32)))])) _
  refine Goes.of (fun t k => XS.i2l X0.here hx rfl (hb hby at_8) rfl k) ?_
  show Goes p e below (s₁.setTop (mkF m 9 #[.val (.int p1), .val (.int p2), .val (.int p3), .val (.int p4), .val (.int p5), .val (.int p6), .val (.double (FP.l2d (p1.toInt64))), .second, .unset, .unset, .unset, .unset, .unset, .unset, .unset, .unset, .unset, .unset, .unset, .unset, .unset, .unset, .unset, .unset, .unset, .unset, .unset, .unset, .unset, .unset, .unset, .unset] [(.long ((p6 &&& (3 : Int32)).toInt64))])) _
  refine Goes.of (fun t k => XS.lconst X0.here hx rfl (hb hby at_9) k) ?_
  show Goes p e below (s₁.setTop (mkF m 10 #[.val (.int p1), .val (.int p2), .val (.int p3), .val (.int p4), .val (.int p5), .val (.int p6), .val (.double (FP.l2d (p1.toInt64))), .second, .unset, .unset, .unset, .unset, .unset, .unset, .unset, .unset, .unset, .unset, .unset, .unset, .unset, .unset, .unset, .unset, .unset, .unset, .unset, .unset, .unset, .unset, .unset, .unset] [(.long (1 : Int64)), (.long ((p6 &&& (3 : Int32)).toInt64))])) _
  refine Goes.of (fun t k => XS.lsub X0.here hx rfl (hb hby at_10) rfl k) ?_
  show Goes p e below (s₁.setTop (mkF m 11 #[.val (.int p1), .val (.int p2), .val (.int p3), .val (.int p4), .val (.int p5), .val (.int p6), .val (.double (FP.l2d (p1.toInt64))), .second, .unset, .unset, .unset, .unset, .unset, .unset, .unset, .unset, .unset, .unset, .unset, .unset, .unset, .unset, .unset, .unset, .unset, .unset, .unset, .unset, .unset, .unset, .unset, .unset] [(.long (((p6 &&& (3 : Int32)).toInt64) - (1 : Int64)))])) _
  refine Goes.of (fun t k => XS.lstore X0.here hx rfl (hb hby at_11) rfl (l' := #[.val (.int p1), .val (.int p2), .val (.int p3), .val (.int p4), .val (.int p5), .val (.int p6), .val (.double (FP.l2d (p1.toInt64))), .second, .val (.long (((p6 &&& (3 : Int32)).toInt64) - (1 : Int64))), .second, .unset, .unset, .unset, .unset, .unset, .unset, .unset, .unset, .unset, .unset, .unset, .unset, .unset, .unset, .unset, .unset, .unset, .unset, .unset, .unset, .unset, .unset]) rfl k) ?_
  show Goes p e below (s₁.setTop (mkF m 13 #[.val (.int p1), .val (.int p2), .val (.int p3), .val (.int p4), .val (.int p5), .val (.int p6), .val (.double (FP.l2d (p1.toInt64))), .second, .val (.long (((p6 &&& (3 : Int32)).toInt64) - (1 : Int64))), .second, .unset, .unset, .unset, .unset, .unset, .unset, .unset, .unset, .unset, .unset, .unset, .unset, .unset, .unset, .unset, .unset, .unset, .unset, .unset, .unset, .unset, .unset] [])) _
  refine Goes.of (fun t k => XS.iload X0.here hx rfl (hb hby at_13) rfl k) ?_
  show Goes p e below (s₁.setTop (mkF m 15 #[.val (.int p1), .val (.int p2), .val (.int p3), .val (.int p4), .val (.int p5), .val (.int p6), .val (.double (FP.l2d (p1.toInt64))), .second, .val (.long (((p6 &&& (3 : Int32)).toInt64) - (1 : Int64))), .second, .unset, .unset, .unset, .unset, .unset, .unset, .unset, .unset, .unset, .unset, .unset, .unset, .unset, .unset, .unset, .unset, .unset, .unset, .unset, .unset, .unset, .unset] [(.int p6)])) _
  refine Goes.of (fun t k => XS.iconst X0.here hx rfl (hb hby at_15) k) ?_
  show Goes p e below (s₁.setTop (mkF m 16 #[.val (.int p1), .val (.int p2), .val (.int p3), .val (.int p4), .val (.int p5), .val (.int p6), .val (.double (FP.l2d (p1.toInt64))), .second, .val (.long (((p6 &&& (3 : Int32)).toInt64) - (1 : Int64))), .second, .unset, .unset, .unset, .unset, .unset, .unset, .unset, .unset, .unset, .unset, .unset, .unset, .unset, .unset, .unset, .unset, .unset, .unset, .unset, .unset, .unset, .unset] [(.int (4 : Int32)), (.int p6)])) _
  refine Goes.of (fun t k => XS.iand X0.here hx rfl (hb hby at_16) rfl k) ?_
  show Goes p e below (s₁.setTop (mkF m 17 #[.val (.int p1), .val (.int p2), .val (.int p3), .val (.int p4), .val (.int p5), .val (.int p6), .val (.double (FP.l2d (p1.toInt64))), .second, .val (.long (((p6 &&& (3 : Int32)).toInt64) - (1 : Int64))), .second, .unset, .unset, .unset, .unset, .unset, .unset, .unset, .unset, .unset, .unset, .unset, .unset, .unset, .unset, .unset, .unset, .unset, .unset, .unset, .unset, .unset, .unset] [(.int (p6 &&& (4 : Int32)))])) _
  obtain ⟨v165, hv165⟩ : ∃ z : Int64, z = (if (p6 &&& (4 : Int32)) = (0 : Int32) then ((p1.toInt64) + (((p6 &&& (3 : Int32)).toInt64) - (1 : Int64))) else (p2.toInt64)) := ⟨_, rfl⟩
  refine Goes.of (S' := s₁.setTop (mkF m 31 #[.val (.int p1), .val (.int p2), .val (.int p3), .val (.int p4), .val (.int p5), .val (.int p6), .val (.double (FP.l2d (p1.toInt64))), .second, .val (.long (((p6 &&& (3 : Int32)).toInt64) - (1 : Int64))), .second, .unset, .unset, .unset, .unset, .unset, .unset, .unset, .unset, .unset, .unset, .unset, .unset, .unset, .unset, .unset, .unset, .unset, .unset, .unset, .unset, .unset, .unset] [(.double (FP.l2d v165))])) (fun t k => ?_) ?_
  · by_cases hb166 : (p6 &&& (4 : Int32)) = (0 : Int32)
    · refine XS.ifYes X0.here hx rfl (pc0 := 17) (pc' := 25) rfl (hb hby at_17) rfl ((if0 _ _).trans (teq hb166).1) (by decide) (by decide) ?_
      show Steps p.tables e below (s₁.setTop (mkF m 25 #[.val (.int p1), .val (.int p2), .val (.int p3), .val (.int p4), .val (.int p5), .val (.int p6), .val (.double (FP.l2d (p1.toInt64))), .second, .val (.long (((p6 &&& (3 : Int32)).toInt64) - (1 : Int64))), .second, .unset, .unset, .unset, .unset, .unset, .unset, .unset, .unset, .unset, .unset, .unset, .unset, .unset, .unset, .unset, .unset, .unset, .unset, .unset, .unset, .unset, .unset] [])) _
      refine XS.iloadN X0.here hx rfl (hb hby at_25) rfl ?_
      show Steps p.tables e below (s₁.setTop (mkF m 26 #[.val (.int p1), .val (.int p2), .val (.int p3), .val (.int p4), .val (.int p5), .val (.int p6), .val (.double (FP.l2d (p1.toInt64))), .second, .val (.long (((p6 &&& (3 : Int32)).toInt64) - (1 : Int64))), .second, .unset, .unset, .unset, .unset, .unset, .unset, .unset, .unset, .unset, .unset, .unset, .unset, .unset, .unset, .unset, .unset, .unset, .unset, .unset, .unset, .unset, .unset] [(.int p1)])) _
      refine XS.i2l X0.here hx rfl (hb hby at_26) rfl ?_
      show Steps p.tables e below (s₁.setTop (mkF m 27 #[.val (.int p1), .val (.int p2), .val (.int p3), .val (.int p4), .val (.int p5), .val (.int p6), .val (.double (FP.l2d (p1.toInt64))), .second, .val (.long (((p6 &&& (3 : Int32)).toInt64) - (1 : Int64))), .second, .unset, .unset, .unset, .unset, .unset, .unset, .unset, .unset, .unset, .unset, .unset, .unset, .unset, .unset, .unset, .unset, .unset, .unset, .unset, .unset, .unset, .unset] [(.long (p1.toInt64))])) _
      refine XS.lload X0.here hx rfl (hb hby at_27) rfl ?_
      show Steps p.tables e below (s₁.setTop (mkF m 29 #[.val (.int p1), .val (.int p2), .val (.int p3), .val (.int p4), .val (.int p5), .val (.int p6), .val (.double (FP.l2d (p1.toInt64))), .second, .val (.long (((p6 &&& (3 : Int32)).toInt64) - (1 : Int64))), .second, .unset, .unset, .unset, .unset, .unset, .unset, .unset, .unset, .unset, .unset, .unset, .unset, .unset, .unset, .unset, .unset, .unset, .unset, .unset, .unset, .unset, .unset] [(.long (((p6 &&& (3 : Int32)).toInt64) - (1 : Int64))), (.long (p1.toInt64))])) _
      refine XS.ladd X0.here hx rfl (hb hby at_29) rfl ?_
      show Steps p.tables e below (s₁.setTop (mkF m 30 #[.val (.int p1), .val (.int p2), .val (.int p3), .val (.int p4), .val (.int p5), .val (.int p6), .val (.double (FP.l2d (p1.toInt64))), .second, .val (.long (((p6 &&& (3 : Int32)).toInt64) - (1 : Int64))), .second, .unset, .unset, .unset, .unset, .unset, .unset, .unset, .unset, .unset, .unset, .unset, .unset, .unset, .unset, .unset, .unset, .unset, .unset, .unset, .unset, .unset, .unset] [(.long ((p1.toInt64) + (((p6 &&& (3 : Int32)).toInt64) - (1 : Int64))))])) _
      refine XS.l2dS X0.here hx rfl (hb hby at_30) rfl rfl ?_
      show Steps p.tables e below (s₁.setTop (mkF m 31 #[.val (.int p1), .val (.int p2), .val (.int p3), .val (.int p4), .val (.int p5), .val (.int p6), .val (.double (FP.l2d (p1.toInt64))), .second, .val (.long (((p6 &&& (3 : Int32)).toInt64) - (1 : Int64))), .second, .unset, .unset, .unset, .unset, .unset, .unset, .unset, .unset, .unset, .unset, .unset, .unset, .unset, .unset, .unset, .unset, .unset, .unset, .unset, .unset, .unset, .unset] [(.double (FP.l2d ((p1.toInt64) + (((p6 &&& (3 : Int32)).toInt64) - (1 : Int64)))))])) _
      simp only [if_pos hb166] at hv165; subst hv165
      exact k
    · refine XS.ifNo X0.here hx rfl (hb hby at_17) rfl ((if0 _ _).trans (feq hb166).1) ?_
      show Steps p.tables e below (s₁.setTop (mkF m 20 #[.val (.int p1), .val (.int p2), .val (.int p3), .val (.int p4), .val (.int p5), .val (.int p6), .val (.double (FP.l2d (p1.toInt64))), .second, .val (.long (((p6 &&& (3 : Int32)).toInt64) - (1 : Int64))), .second, .unset, .unset, .unset, .unset, .unset, .unset, .unset, .unset, .unset, .unset, .unset, .unset, .unset, .unset, .unset, .unset, .unset, .unset, .unset, .unset, .unset, .unset] [])) _
      refine XS.iloadN X0.here hx rfl (hb hby at_20) rfl ?_
      show Steps p.tables e below (s₁.setTop (mkF m 21 #[.val (.int p1), .val (.int p2), .val (.int p3), .val (.int p4), .val (.int p5), .val (.int p6), .val (.double (FP.l2d (p1.toInt64))), .second, .val (.long (((p6 &&& (3 : Int32)).toInt64) - (1 : Int64))), .second, .unset, .unset, .unset, .unset, .unset, .unset, .unset, .unset, .unset, .unset, .unset, .unset, .unset, .unset, .unset, .unset, .unset, .unset, .unset, .unset, .unset, .unset] [(.int p2)])) _
      refine XS.i2dS X0.here hx rfl (hb hby at_21) rfl (i2d_w _) ?_
      show Steps p.tables e below (s₁.setTop (mkF m 22 #[.val (.int p1), .val (.int p2), .val (.int p3), .val (.int p4), .val (.int p5), .val (.int p6), .val (.double (FP.l2d (p1.toInt64))), .second, .val (.long (((p6 &&& (3 : Int32)).toInt64) - (1 : Int64))), .second, .unset, .unset, .unset, .unset, .unset, .unset, .unset, .unset, .unset, .unset, .unset, .unset, .unset, .unset, .unset, .unset, .unset, .unset, .unset, .unset, .unset, .unset] [(.double (FP.l2d (p2.toInt64)))])) _
      refine XS.goto X0.here hx rfl (pc0 := 22) (pc' := 31) rfl (hb hby at_22) (by decide) (by decide) ?_
      show Steps p.tables e below (s₁.setTop (mkF m 31 #[.val (.int p1), .val (.int p2), .val (.int p3), .val (.int p4), .val (.int p5), .val (.int p6), .val (.double (FP.l2d (p1.toInt64))), .second, .val (.long (((p6 &&& (3 : Int32)).toInt64) - (1 : Int64))), .second, .unset, .unset, .unset, .unset, .unset, .unset, .unset, .unset, .unset, .unset, .unset, .unset, .unset, .unset, .unset, .unset, .unset, .unset, .unset, .unset, .unset, .unset] [(.double (FP.l2d (p2.toInt64)))])) _
      simp only [if_neg hb166] at hv165; subst hv165
      exact k
  show Goes p e below (s₁.setTop (mkF m 31 #[.val (.int p1), .val (.int p2), .val (.int p3), .val (.int p4), .val (.int p5), .val (.int p6), .val (.double (FP.l2d (p1.toInt64))), .second, .val (.long (((p6 &&& (3 : Int32)).toInt64) - (1 : Int64))), .second, .unset, .unset, .unset, .unset, .unset, .unset, .unset, .unset, .unset, .unset, .unset, .unset, .unset, .unset, .unset, .unset, .unset, .unset, .unset, .unset, .unset, .unset] [(.double (FP.l2d v165))])) _
  have Bv1 : B53 v165 := by rw [hv165]; split; exact own_bsum p1 p6; exact own_b32 p2
  refine Goes.of (fun t k => XS.dstore X0.here hx rfl (hb hby at_31) rfl (l' := #[.val (.int p1), .val (.int p2), .val (.int p3), .val (.int p4), .val (.int p5), .val (.int p6), .val (.double (FP.l2d (p1.toInt64))), .second, .val (.long (((p6 &&& (3 : Int32)).toInt64) - (1 : Int64))), .second, .val (.double (FP.l2d v165)), .second, .unset, .unset, .unset, .unset, .unset, .unset, .unset, .unset, .unset, .unset, .unset, .unset, .unset, .unset, .unset, .unset, .unset, .unset, .unset, .unset]) rfl k) ?_
  show Goes p e below (s₁.setTop (mkF m 33 #[.val (.int p1), .val (.int p2), .val (.int p3), .val (.int p4), .val (.int p5), .val (.int p6), .val (.double (FP.l2d (p1.toInt64))), .second, .val (.long (((p6 &&& (3 : Int32)).toInt64) - (1 : Int64))), .second, .val (.double (FP.l2d v165)), .second, .unset, .unset, .unset, .unset, .unset, .unset, .unset, .unset, .unset, .unset, .unset, .unset, .unset, .unset, .unset, .unset, .unset, .unset, .unset, .unset] [])) _
  refine Goes.of (fun t k => XS.iconst X0.here hx rfl (hb hby at_33) k) ?_
  show Goes p e below (s₁.setTop (mkF m 34 #[.val (.int p1), .val (.int p2), .val (.int p3), .val (.int p4), .val (.int p5), .val (.int p6), .val (.double (FP.l2d (p1.toInt64))), .second, .val (.long (((p6 &&& (3 : Int32)).toInt64) - (1 : Int64))), .second, .val (.double (FP.l2d v165)), .second, .unset, .unset, .unset, .unset, .unset, .unset, .unset, .unset, .unset, .unset, .unset, .unset, .unset, .unset, .unset, .unset, .unset, .unset, .unset, .unset] [(.int (2 : Int32))])) _
  obtain ⟨T167, h167, k167, X167, e167, E167, A167, C167, st167⟩ := newPE X0 hx hZ (hw _ (List.mem_of_getElem? (i := 0) rfl)) e0 (g := (mkF m 34 #[.val (.int p1), .val (.int p2), .val (.int p3), .val (.int p4), .val (.int p5), .val (.int p6), .val (.double (FP.l2d (p1.toInt64))), .second, .val (.long (((p6 &&& (3 : Int32)).toInt64) - (1 : Int64))), .second, .val (.double (FP.l2d v165)), .second, .unset, .unset, .unset, .unset, .unset, .unset, .unset, .unset, .unset, .unset, .unset, .unset, .unset, .unset, .unset, .unset, .unset, .unset, .unset, .unset] [(.int (2 : Int32))])) rfl (hb hby at_34) rfl (by decide) (cap := 2) (by decide) (by decide) (by decide) (by decide) (ad := "[D") (by decide)
  obtain ⟨b167, g167⟩ : ∃ z, z = h0.size := ⟨_, rfl⟩
  rw [← g167] at A167 st167 C167
  have g168 : n0 ≤ b167 := Nat.le_trans Z0 (Nat.le_of_eq g167.symm)
  have z169 : n0 ≤ h167.size := Nat.le_trans Z0 E167.1
  have V167 : Arv Z h167 b167 k167 .double (2 : Int32) [(.double (FP.l2d 0)), (.double (FP.l2d 0))] (.double (FP.l2d 0)) := (Arv.newD A167 (by decide)).pad (pad_rep [] (.double (FP.l2d 0)) 2)
  refine Goes.of st167 ?_
  show Goes p e below (T167.setTop (mkF m 36 #[.val (.int p1), .val (.int p2), .val (.int p3), .val (.int p4), .val (.int p5), .val (.int p6), .val (.double (FP.l2d (p1.toInt64))), .second, .val (.long (((p6 &&& (3 : Int32)).toInt64) - (1 : Int64))), .second, .val (.double (FP.l2d v165)), .second, .unset, .unset, .unset, .unset, .unset, .unset, .unset, .unset, .unset, .unset, .unset, .unset, .unset, .unset, .unset, .unset, .unset, .unset, .unset, .unset] [(.ref b167)])) _
  refine Goes.of (fun t k => XS.dup X167.here hx rfl (hb hby at_36) rfl rfl k) ?_
  show Goes p e below (T167.setTop (mkF m 37 #[.val (.int p1), .val (.int p2), .val (.int p3), .val (.int p4), .val (.int p5), .val (.int p6), .val (.double (FP.l2d (p1.toInt64))), .second, .val (.long (((p6 &&& (3 : Int32)).toInt64) - (1 : Int64))), .second, .val (.double (FP.l2d v165)), .second, .unset, .unset, .unset, .unset, .unset, .unset, .unset, .unset, .unset, .unset, .unset, .unset, .unset, .unset, .unset, .unset, .unset, .unset, .unset, .unset] [(.ref b167), (.ref b167)])) _
  refine Goes.of (fun t k => XS.iconst X167.here hx rfl (hb hby at_37) k) ?_
  show Goes p e below (T167.setTop (mkF m 38 #[.val (.int p1), .val (.int p2), .val (.int p3), .val (.int p4), .val (.int p5), .val (.int p6), .val (.double (FP.l2d (p1.toInt64))), .second, .val (.long (((p6 &&& (3 : Int32)).toInt64) - (1 : Int64))), .second, .val (.double (FP.l2d v165)), .second, .unset, .unset, .unset, .unset, .unset, .unset, .unset, .unset, .unset, .unset, .unset, .unset, .unset, .unset, .unset, .unset, .unset, .unset, .unset, .unset] [(.int (0 : Int32)), (.ref b167), (.ref b167)])) _
  refine Goes.of (fun t k => XS.iloadN X167.here hx rfl (hb hby at_38) rfl k) ?_
  show Goes p e below (T167.setTop (mkF m 39 #[.val (.int p1), .val (.int p2), .val (.int p3), .val (.int p4), .val (.int p5), .val (.int p6), .val (.double (FP.l2d (p1.toInt64))), .second, .val (.long (((p6 &&& (3 : Int32)).toInt64) - (1 : Int64))), .second, .val (.double (FP.l2d v165)), .second, .unset, .unset, .unset, .unset, .unset, .unset, .unset, .unset, .unset, .unset, .unset, .unset, .unset, .unset, .unset, .unset, .unset, .unset, .unset, .unset] [(.int p3), (.int (0 : Int32)), (.ref b167), (.ref b167)])) _
  refine Goes.of (fun t k => XS.i2dS X167.here hx rfl (hb hby at_39) rfl (i2d_w _) k) ?_
  show Goes p e below (T167.setTop (mkF m 40 #[.val (.int p1), .val (.int p2), .val (.int p3), .val (.int p4), .val (.int p5), .val (.int p6), .val (.double (FP.l2d (p1.toInt64))), .second, .val (.long (((p6 &&& (3 : Int32)).toInt64) - (1 : Int64))), .second, .val (.double (FP.l2d v165)), .second, .unset, .unset, .unset, .unset, .unset, .unset, .unset, .unset, .unset, .unset, .unset, .unset, .unset, .unset, .unset, .unset, .unset, .unset, .unset, .unset] [(.double (FP.l2d (p3.toInt64))), (.int (0 : Int32)), (.ref b167), (.ref b167)])) _
  have Vc170 := V167
  obtain ⟨clc170, Arc170, qc170, Sc170, Nc170, Hc170, Gc170⟩ := Vc170
  have hin171 : ¬ ((0 : Int32) < 0 ∨ clc170.slots.size ≤ ((0 : Int32)).toNatClampNeg) := inb_of Sc170 ⟨by decide, by decide⟩
  obtain ⟨T172, h172, X172, e172, W172, st172⟩ := stD X167 hx hZ e167 Arc170 (j := (0 : Int32)) hin171 (g := (mkF m 40 #[.val (.int p1), .val (.int p2), .val (.int p3), .val (.int p4), .val (.int p5), .val (.int p6), .val (.double (FP.l2d (p1.toInt64))), .second, .val (.long (((p6 &&& (3 : Int32)).toInt64) - (1 : Int64))), .second, .val (.double (FP.l2d v165)), .second, .unset, .unset, .unset, .unset, .unset, .unset, .unset, .unset, .unset, .unset, .unset, .unset, .unset, .unset, .unset, .unset, .unset, .unset, .unset, .unset] [(.double (FP.l2d (p3.toInt64))), (.int (0 : Int32)), (.ref b167), (.ref b167)])) rfl rfl (hb hby at_40)
  have V172 : Arv Z h172 b167 k167 .double (2 : Int32) [(.double (FP.l2d (p3.toInt64))), (.double (FP.l2d 0))] (.double (FP.l2d 0)) := Arv.set Arc170 qc170 Sc170 Nc170 Hc170 Gc170 rfl W172 0 rfl (Nat.le_of_ble_eq_true rfl)
  have z173 : n0 ≤ h172.size := Nat.le_trans z169 (Keep.of_wr W172).1
  have f174 := C167.wr W172
  have N172 := Fr.snoc X172 N0 g168
  refine Goes.of st172 ?_
  show Goes p e below (T172.setTop (mkF m 41 #[.val (.int p1), .val (.int p2), .val (.int p3), .val (.int p4), .val (.int p5), .val (.int p6), .val (.double (FP.l2d (p1.toInt64))), .second, .val (.long (((p6 &&& (3 : Int32)).toInt64) - (1 : Int64))), .second, .val (.double (FP.l2d v165)), .second, .unset, .unset, .unset, .unset, .unset, .unset, .unset, .unset, .unset, .unset, .unset, .unset, .unset, .unset, .unset, .unset, .unset, .unset, .unset, .unset] [(.ref b167)])) _
  refine Goes.of (fun t k => XS.dup X172.here hx rfl (hb hby at_41) rfl rfl k) ?_
  show Goes p e below (T172.setTop (mkF m 42 #[.val (.int p1), .val (.int p2), .val (.int p3), .val (.int p4), .val (.int p5), .val (.int p6), .val (.double (FP.l2d (p1.toInt64))), .second, .val (.long (((p6 &&& (3 : Int32)).toInt64) - (1 : Int64))), .second, .val (.double (FP.l2d v165)), .second, .unset, .unset, .unset, .unset, .unset, .unset, .unset, .unset, .unset, .unset, .unset, .unset, .unset, .unset, .unset, .unset, .unset, .unset, .unset, .unset] [(.ref b167), (.ref b167)])) _
  refine Goes.of (fun t k => XS.iconst X172.here hx rfl (hb hby at_42) k) ?_
  show Goes p e below (T172.setTop (mkF m 43 #[.val (.int p1), .val (.int p2), .val (.int p3), .val (.int p4), .val (.int p5), .val (.int p6), .val (.double (FP.l2d (p1.toInt64))), .second, .val (.long (((p6 &&& (3 : Int32)).toInt64) - (1 : Int64))), .second, .val (.double (FP.l2d v165)), .second, .unset, .unset, .unset, .unset, .unset, .unset, .unset, .unset, .unset, .unset, .unset, .unset, .unset, .unset, .unset, .unset, .unset, .unset, .unset, .unset] [(.int (1 : Int32)), (.ref b167), (.ref b167)])) _
  refine Goes.of (fun t k => XS.iloadN X172.here hx rfl (hb hby at_43) rfl k) ?_
  show Goes p e below (T172.setTop (mkF m 44 #[.val (.int p1), .val (.int p2), .val (.int p3), .val (.int p4), .val (.int p5), .val (.int p6), .val (.double (FP.l2d (p1.toInt64))), .second, .val (.long (((p6 &&& (3 : Int32)).toInt64) - (1 : Int64))), .second, .val (.double (FP.l2d v165)), .second, .unset, .unset, .unset, .unset, .unset, .unset, .unset, .unset, .unset, .unset, .unset, .unset, .unset, .unset, .unset, .unset, .unset, .unset, .unset, .unset] [(.int p4), (.int (1 : Int32)), (.ref b167), (.ref b167)])) _
  refine Goes.of (fun t k => XS.i2dS X172.here hx rfl (hb hby at_44) rfl (i2d_w _) k) ?_
  show Goes p e below (T172.setTop (mkF m 45 #[.val (.int p1), .val (.int p2), .val (.int p3), .val (.int p4), .val (.int p5), .val (.int p6), .val (.double (FP.l2d (p1.toInt64))), .second, .val (.long (((p6 &&& (3 : Int32)).toInt64) - (1 : Int64))), .second, .val (.double (FP.l2d v165)), .second, .unset, .unset, .unset, .unset, .unset, .unset, .unset, .unset, .unset, .unset, .unset, .unset, .unset, .unset, .unset, .unset, .unset, .unset, .unset, .unset] [(.double (FP.l2d (p4.toInt64))), (.int (1 : Int32)), (.ref b167), (.ref b167)])) _
  have Vc176 := V172
  obtain ⟨clc176, Arc176, qc176, Sc176, Nc176, Hc176, Gc176⟩ := Vc176
  have hin177 : ¬ ((1 : Int32) < 0 ∨ clc176.slots.size ≤ ((1 : Int32)).toNatClampNeg) := inb_of Sc176 ⟨by decide, by decide⟩
  obtain ⟨T178, h178, X178, e178, W178, st178⟩ := stD X172 hx hZ e172 Arc176 (j := (1 : Int32)) hin177 (g := (mkF m 45 #[.val (.int p1), .val (.int p2), .val (.int p3), .val (.int p4), .val (.int p5), .val (.int p6), .val (.double (FP.l2d (p1.toInt64))), .second, .val (.long (((p6 &&& (3 : Int32)).toInt64) - (1 : Int64))), .second, .val (.double (FP.l2d v165)), .second, .unset, .unset, .unset, .unset, .unset, .unset, .unset, .unset, .unset, .unset, .unset, .unset, .unset, .unset, .unset, .unset, .unset, .unset, .unset, .unset] [(.double (FP.l2d (p4.toInt64))), (.int (1 : Int32)), (.ref b167), (.ref b167)])) rfl rfl (hb hby at_45)
  have V178 : Arv Z h178 b167 k167 .double (2 : Int32) [(.double (FP.l2d (p3.toInt64))), (.double (FP.l2d (p4.toInt64)))] (.double (FP.l2d 0)) := Arv.set Arc176 qc176 Sc176 Nc176 Hc176 Gc176 rfl W178 1 rfl (Nat.le_of_ble_eq_true rfl)
  have z179 : n0 ≤ h178.size := Nat.le_trans z173 (Keep.of_wr W178).1
  have f180 := f174.wr W178
  have N178 := Fr.snoc X178 N172 g168
  refine Goes.of st178 ?_
  show Goes p e below (T178.setTop (mkF m 46 #[.val (.int p1), .val (.int p2), .val (.int p3), .val (.int p4), .val (.int p5), .val (.int p6), .val (.double (FP.l2d (p1.toInt64))), .second, .val (.long (((p6 &&& (3 : Int32)).toInt64) - (1 : Int64))), .second, .val (.double (FP.l2d v165)), .second, .unset, .unset, .unset, .unset, .unset, .unset, .unset, .unset, .unset, .unset, .unset, .unset, .unset, .unset, .unset, .unset, .unset, .unset, .unset, .unset] [(.ref b167)])) _
  refine Goes.of (fun t k => XS.astore X178.here hx rfl (hb hby at_46) rfl rfl (l' := #[.val (.int p1), .val (.int p2), .val (.int p3), .val (.int p4), .val (.int p5), .val (.int p6), .val (.double (FP.l2d (p1.toInt64))), .second, .val (.long (((p6 &&& (3 : Int32)).toInt64) - (1 : Int64))), .second, .val (.double (FP.l2d v165)), .second, .val (.ref b167), .unset, .unset, .unset, .unset, .unset, .unset, .unset, .unset, .unset, .unset, .unset, .unset, .unset, .unset, .unset, .unset, .unset, .unset, .unset]) rfl k) ?_
  show Goes p e below (T178.setTop (mkF m 48 #[.val (.int p1), .val (.int p2), .val (.int p3), .val (.int p4), .val (.int p5), .val (.int p6), .val (.double (FP.l2d (p1.toInt64))), .second, .val (.long (((p6 &&& (3 : Int32)).toInt64) - (1 : Int64))), .second, .val (.double (FP.l2d v165)), .second, .val (.ref b167), .unset, .unset, .unset, .unset, .unset, .unset, .unset, .unset, .unset, .unset, .unset, .unset, .unset, .unset, .unset, .unset, .unset, .unset, .unset] [])) _
  refine Goes.of (fun t k => XS.iconst X178.here hx rfl (hb hby at_48) k) ?_
  show Goes p e below (T178.setTop (mkF m 49 #[.val (.int p1), .val (.int p2), .val (.int p3), .val (.int p4), .val (.int p5), .val (.int p6), .val (.double (FP.l2d (p1.toInt64))), .second, .val (.long (((p6 &&& (3 : Int32)).toInt64) - (1 : Int64))), .second, .val (.double (FP.l2d v165)), .second, .val (.ref b167), .unset, .unset, .unset, .unset, .unset, .unset, .unset, .unset, .unset, .unset, .unset, .unset, .unset, .unset, .unset, .unset, .unset, .unset, .unset] [(.int (2 : Int32))])) _
  obtain ⟨T182, h182, k182, X182, e182, E182, A182, C182, st182⟩ := newPE X178 hx hZ (hw _ (List.mem_of_getElem? (i := 0) rfl)) e178 (g := (mkF m 49 #[.val (.int p1), .val (.int p2), .val (.int p3), .val (.int p4), .val (.int p5), .val (.int p6), .val (.double (FP.l2d (p1.toInt64))), .second, .val (.long (((p6 &&& (3 : Int32)).toInt64) - (1 : Int64))), .second, .val (.double (FP.l2d v165)), .second, .val (.ref b167), .unset, .unset, .unset, .unset, .unset, .unset, .unset, .unset, .unset, .unset, .unset, .unset, .unset, .unset, .unset, .unset, .unset, .unset, .unset] [(.int (2 : Int32))])) rfl (hb hby at_49) rfl (by decide) (cap := 2) (by decide) (by decide) (by decide) (by decide) (ad := "[D") (by decide)
  obtain ⟨b182, g182⟩ : ∃ z, z = h178.size := ⟨_, rfl⟩
  rw [← g182] at A182 st182 C182
  have g183 : n0 ≤ b182 := Nat.le_trans z179 (Nat.le_of_eq g182.symm)
  have z184 : n0 ≤ h182.size := Nat.le_trans z179 E182.1
  have q185 : b167 ≠ b182 := Nat.ne_of_lt (Nat.lt_of_lt_of_le f180.lt (Nat.le_of_eq g182.symm))
  have f186 := f180.ext E182
  have f187 := V178.ext E182
  have V182 : Arv Z h182 b182 k182 .double (2 : Int32) [(.double (FP.l2d 0)), (.double (FP.l2d 0))] (.double (FP.l2d 0)) := (Arv.newD A182 (by decide)).pad (pad_rep [] (.double (FP.l2d 0)) 2)
  refine Goes.of st182 ?_
  show Goes p e below (T182.setTop (mkF m 51 #[.val (.int p1), .val (.int p2), .val (.int p3), .val (.int p4), .val (.int p5), .val (.int p6), .val (.double (FP.l2d (p1.toInt64))), .second, .val (.long (((p6 &&& (3 : Int32)).toInt64) - (1 : Int64))), .second, .val (.double (FP.l2d v165)), .second, .val (.ref b167), .unset, .unset, .unset, .unset, .unset, .unset, .unset, .unset, .unset, .unset, .unset, .unset, .unset, .unset, .unset, .unset, .unset, .unset, .unset] [(.ref b182)])) _
  refine Goes.of (fun t k => XS.dup X182.here hx rfl (hb hby at_51) rfl rfl k) ?_
  show Goes p e below (T182.setTop (mkF m 52 #[.val (.int p1), .val (.int p2), .val (.int p3), .val (.int p4), .val (.int p5), .val (.int p6), .val (.double (FP.l2d (p1.toInt64))), .second, .val (.long (((p6 &&& (3 : Int32)).toInt64) - (1 : Int64))), .second, .val (.double (FP.l2d v165)), .second, .val (.ref b167), .unset, .unset, .unset, .unset, .unset, .unset, .unset, .unset, .unset, .unset, .unset, .unset, .unset, .unset, .unset, .unset, .unset, .unset, .unset] [(.ref b182), (.ref b182)])) _
  refine Goes.of (fun t k => XS.iconst X182.here hx rfl (hb hby at_52) k) ?_
  show Goes p e below (T182.setTop (mkF m 53 #[.val (.int p1), .val (.int p2), .val (.int p3), .val (.int p4), .val (.int p5), .val (.int p6), .val (.double (FP.l2d (p1.toInt64))), .second, .val (.long (((p6 &&& (3 : Int32)).toInt64) - (1 : Int64))), .second, .val (.double (FP.l2d v165)), .second, .val (.ref b167), .unset, .unset, .unset, .unset, .unset, .unset, .unset, .unset, .unset, .unset, .unset, .unset, .unset, .unset, .unset, .unset, .unset, .unset, .unset] [(.int (0 : Int32)), (.ref b182), (.ref b182)])) _
  refine Goes.of (fun t k => XS.dconst0 X182.here hx rfl (hb hby at_53) (v := FP.l2d 0) own_dc0 k) ?_
  show Goes p e below (T182.setTop (mkF m 54 #[.val (.int p1), .val (.int p2), .val (.int p3), .val (.int p4), .val (.int p5), .val (.int p6), .val (.double (FP.l2d (p1.toInt64))), .second, .val (.long (((p6 &&& (3 : Int32)).toInt64) - (1 : Int64))), .second, .val (.double (FP.l2d v165)), .second, .val (.ref b167), .unset, .unset, .unset, .unset, .unset, .unset, .unset, .unset, .unset, .unset, .unset, .unset, .unset, .unset, .unset, .unset, .unset, .unset, .unset] [(.double (FP.l2d 0)), (.int (0 : Int32)), (.ref b182), (.ref b182)])) _
  have Vc188 := V182
  obtain ⟨clc188, Arc188, qc188, Sc188, Nc188, Hc188, Gc188⟩ := Vc188
  have hin189 : ¬ ((0 : Int32) < 0 ∨ clc188.slots.size ≤ ((0 : Int32)).toNatClampNeg) := inb_of Sc188 ⟨by decide, by decide⟩
  obtain ⟨T190, h190, X190, e190, W190, st190⟩ := stD X182 hx hZ e182 Arc188 (j := (0 : Int32)) hin189 (g := (mkF m 54 #[.val (.int p1), .val (.int p2), .val (.int p3), .val (.int p4), .val (.int p5), .val (.int p6), .val (.double (FP.l2d (p1.toInt64))), .second, .val (.long (((p6 &&& (3 : Int32)).toInt64) - (1 : Int64))), .second, .val (.double (FP.l2d v165)), .second, .val (.ref b167), .unset, .unset, .unset, .unset, .unset, .unset, .unset, .unset, .unset, .unset, .unset, .unset, .unset, .unset, .unset, .unset, .unset, .unset, .unset] [(.double (FP.l2d 0)), (.int (0 : Int32)), (.ref b182), (.ref b182)])) rfl rfl (hb hby at_54)
  have V190 : Arv Z h190 b182 k182 .double (2 : Int32) [(.double (FP.l2d 0)), (.double (FP.l2d 0))] (.double (FP.l2d 0)) := Arv.set Arc188 qc188 Sc188 Nc188 Hc188 Gc188 rfl W190 0 rfl (Nat.le_of_ble_eq_true rfl)
  have z191 : n0 ≤ h190.size := Nat.le_trans z184 (Keep.of_wr W190).1
  have f192 := f186.wr W190
  have f193 := f187.other W190 q185
  have f194 := C182.wr W190
  have N190 := Fr.snoc X190 N178 g183
  refine Goes.of st190 ?_
  show Goes p e below (T190.setTop (mkF m 55 #[.val (.int p1), .val (.int p2), .val (.int p3), .val (.int p4), .val (.int p5), .val (.int p6), .val (.double (FP.l2d (p1.toInt64))), .second, .val (.long (((p6 &&& (3 : Int32)).toInt64) - (1 : Int64))), .second, .val (.double (FP.l2d v165)), .second, .val (.ref b167), .unset, .unset, .unset, .unset, .unset, .unset, .unset, .unset, .unset, .unset, .unset, .unset, .unset, .unset, .unset, .unset, .unset, .unset, .unset] [(.ref b182)])) _
  refine Goes.of (fun t k => XS.dup X190.here hx rfl (hb hby at_55) rfl rfl k) ?_
  show Goes p e below (T190.setTop (mkF m 56 #[.val (.int p1), .val (.int p2), .val (.int p3), .val (.int p4), .val (.int p5), .val (.int p6), .val (.double (FP.l2d (p1.toInt64))), .second, .val (.long (((p6 &&& (3 : Int32)).toInt64) - (1 : Int64))), .second, .val (.double (FP.l2d v165)), .second, .val (.ref b167), .unset, .unset, .unset, .unset, .unset, .unset, .unset, .unset, .unset, .unset, .unset, .unset, .unset, .unset, .unset, .unset, .unset, .unset, .unset] [(.ref b182), (.ref b182)])) _
  refine Goes.of (fun t k => XS.iconst X190.here hx rfl (hb hby at_56) k) ?_
  show Goes p e below (T190.setTop (mkF m 57 #[.val (.int p1), .val (.int p2), .val (.int p3), .val (.int p4), .val (.int p5), .val (.int p6), .val (.double (FP.l2d (p1.toInt64))), .second, .val (.long (((p6 &&& (3 : Int32)).toInt64) - (1 : Int64))), .second, .val (.double (FP.l2d v165)), .second, .val (.ref b167), .unset, .unset, .unset, .unset, .unset, .unset, .unset, .unset, .unset, .unset, .unset, .unset, .unset, .unset, .unset, .unset, .unset, .unset, .unset] [(.int (1 : Int32)), (.ref b182), (.ref b182)])) _
  refine Goes.of (fun t k => XS.dconst0 X190.here hx rfl (hb hby at_57) (v := FP.l2d 0) own_dc0 k) ?_
  show Goes p e below (T190.setTop (mkF m 58 #[.val (.int p1), .val (.int p2), .val (.int p3), .val (.int p4), .val (.int p5), .val (.int p6), .val (.double (FP.l2d (p1.toInt64))), .second, .val (.long (((p6 &&& (3 : Int32)).toInt64) - (1 : Int64))), .second, .val (.double (FP.l2d v165)), .second, .val (.ref b167), .unset, .unset, .unset, .unset, .unset, .unset, .unset, .unset, .unset, .unset, .unset, .unset, .unset, .unset, .unset, .unset, .unset, .unset, .unset] [(.double (FP.l2d 0)), (.int (1 : Int32)), (.ref b182), (.ref b182)])) _
  have Vc196 := V190
  obtain ⟨clc196, Arc196, qc196, Sc196, Nc196, Hc196, Gc196⟩ := Vc196
  have hin197 : ¬ ((1 : Int32) < 0 ∨ clc196.slots.size ≤ ((1 : Int32)).toNatClampNeg) := inb_of Sc196 ⟨by decide, by decide⟩
  obtain ⟨T198, h198, X198, e198, W198, st198⟩ := stD X190 hx hZ e190 Arc196 (j := (1 : Int32)) hin197 (g := (mkF m 58 #[.val (.int p1), .val (.int p2), .val (.int p3), .val (.int p4), .val (.int p5), .val (.int p6), .val (.double (FP.l2d (p1.toInt64))), .second, .val (.long (((p6 &&& (3 : Int32)).toInt64) - (1 : Int64))), .second, .val (.double (FP.l2d v165)), .second, .val (.ref b167), .unset, .unset, .unset, .unset, .unset, .unset, .unset, .unset, .unset, .unset, .unset, .unset, .unset, .unset, .unset, .unset, .unset, .unset, .unset] [(.double (FP.l2d 0)), (.int (1 : Int32)), (.ref b182), (.ref b182)])) rfl rfl (hb hby at_58)
  have V198 : Arv Z h198 b182 k182 .double (2 : Int32) [(.double (FP.l2d 0)), (.double (FP.l2d 0))] (.double (FP.l2d 0)) := Arv.set Arc196 qc196 Sc196 Nc196 Hc196 Gc196 rfl W198 1 rfl (Nat.le_of_ble_eq_true rfl)
  have z199 : n0 ≤ h198.size := Nat.le_trans z191 (Keep.of_wr W198).1
  have f200 := f192.wr W198
  have f201 := f193.other W198 q185
  have f202 := f194.wr W198
  have N198 := Fr.snoc X198 N190 g183
  refine Goes.of st198 ?_
  show Goes p e below (T198.setTop (mkF m 59 #[.val (.int p1), .val (.int p2), .val (.int p3), .val (.int p4), .val (.int p5), .val (.int p6), .val (.double (FP.l2d (p1.toInt64))), .second, .val (.long (((p6 &&& (3 : Int32)).toInt64) - (1 : Int64))), .second, .val (.double (FP.l2d v165)), .second, .val (.ref b167), .unset, .unset, .unset, .unset, .unset, .unset, .unset, .unset, .unset, .unset, .unset, .unset, .unset, .unset, .unset, .unset, .unset, .unset, .unset] [(.ref b182)])) _
  refine Goes.of (fun t k => XS.astore X198.here hx rfl (hb hby at_59) rfl rfl (l' := #[.val (.int p1), .val (.int p2), .val (.int p3), .val (.int p4), .val (.int p5), .val (.int p6), .val (.double (FP.l2d (p1.toInt64))), .second, .val (.long (((p6 &&& (3 : Int32)).toInt64) - (1 : Int64))), .second, .val (.double (FP.l2d v165)), .second, .val (.ref b167), .val (.ref b182), .unset, .unset, .unset, .unset, .unset, .unset, .unset, .unset, .unset, .unset, .unset, .unset, .unset, .unset, .unset, .unset, .unset, .unset]) rfl k) ?_
  show Goes p e below (T198.setTop (mkF m 61 #[.val (.int p1), .val (.int p2), .val (.int p3), .val (.int p4), .val (.int p5), .val (.int p6), .val (.double (FP.l2d (p1.toInt64))), .second, .val (.long (((p6 &&& (3 : Int32)).toInt64) - (1 : Int64))), .second, .val (.double (FP.l2d v165)), .second, .val (.ref b167), .val (.ref b182), .unset, .unset, .unset, .unset, .unset, .unset, .unset, .unset, .unset, .unset, .unset, .unset, .unset, .unset, .unset, .unset, .unset, .unset] [])) _
  obtain ⟨T204, h204, X204, e204, E204, A204, D204, -, st204⟩ := newO X198 hx hZ hown (hw _ (List.mem_of_getElem? (i := 1) rfl)) (hw _ (List.mem_of_getElem? (i := 2) rfl)) (hw _ (List.mem_of_getElem? (i := 3) rfl)) e198 (g := (mkF m 61 #[.val (.int p1), .val (.int p2), .val (.int p3), .val (.int p4), .val (.int p5), .val (.int p6), .val (.double (FP.l2d (p1.toInt64))), .second, .val (.long (((p6 &&& (3 : Int32)).toInt64) - (1 : Int64))), .second, .val (.double (FP.l2d v165)), .second, .val (.ref b167), .val (.ref b182), .unset, .unset, .unset, .unset, .unset, .unset, .unset, .unset, .unset, .unset, .unset, .unset, .unset, .unset, .unset, .unset, .unset, .unset] [])) rfl (hb hby at_61) (by decide) (by decide)
  obtain ⟨b204, g204⟩ : ∃ z, z = h198.size := ⟨_, rfl⟩
  rw [← g204] at A204 D204 st204
  have g205 : n0 ≤ b204 := Nat.le_trans z199 (Nat.le_of_eq g204.symm)
  have z206 : n0 ≤ h204.size := Nat.le_trans z199 E204.1
  have q207 : b167 ≠ b204 := Nat.ne_of_lt (Nat.lt_of_lt_of_le f200.lt (Nat.le_of_eq g204.symm))
  have q208 : b182 ≠ b204 := Nat.ne_of_lt (Nat.lt_of_lt_of_le f202.lt (Nat.le_of_eq g204.symm))
  have f209 := f200.ext E204
  have f210 := f201.ext E204
  have f211 := f202.ext E204
  have f212 := V198.ext E204
  have f213 : Fld Z h204 b204 "com/example/driftswarm/driftswarm/swarm/Particle" "position" "[D" .null := D204 (Or.inr (hw _ (List.mem_of_getElem? (i := 20) rfl))) (ty := (.array .double)) (by decide)
  have f214 : Fld Z h204 b204 "com/example/driftswarm/driftswarm/swarm/Particle" "velocity" "[D" .null := D204 (Or.inr (hw _ (List.mem_of_getElem? (i := 22) rfl))) (ty := (.array .double)) (by decide)
  have f215 : Fld Z h204 b204 "com/example/driftswarm/driftswarm/swarm/Particle" "best" "[D" .null := D204 (Or.inr (hw _ (List.mem_of_getElem? (i := 24) rfl))) (ty := (.array .double)) (by decide)
  have f216 : Fld Z h204 b204 "com/example/driftswarm/driftswarm/swarm/Particle" "bestValue" "D" (.double 0) := D204 (Or.inl (hw _ (List.mem_of_getElem? (i := 26) rfl))) (ty := .double) (by decide)
  refine Goes.of st204 ?_
  show Goes p e below (T204.setTop (mkF m 64 #[.val (.int p1), .val (.int p2), .val (.int p3), .val (.int p4), .val (.int p5), .val (.int p6), .val (.double (FP.l2d (p1.toInt64))), .second, .val (.long (((p6 &&& (3 : Int32)).toInt64) - (1 : Int64))), .second, .val (.double (FP.l2d v165)), .second, .val (.ref b167), .val (.ref b182), .unset, .unset, .unset, .unset, .unset, .unset, .unset, .unset, .unset, .unset, .unset, .unset, .unset, .unset, .unset, .unset, .unset, .unset] [(.ref b204)])) _
  refine Goes.of (fun t k => XS.dup X204.here hx rfl (hb hby at_64) rfl rfl k) ?_
  show Goes p e below (T204.setTop (mkF m 65 #[.val (.int p1), .val (.int p2), .val (.int p3), .val (.int p4), .val (.int p5), .val (.int p6), .val (.double (FP.l2d (p1.toInt64))), .second, .val (.long (((p6 &&& (3 : Int32)).toInt64) - (1 : Int64))), .second, .val (.double (FP.l2d v165)), .second, .val (.ref b167), .val (.ref b182), .unset, .unset, .unset, .unset, .unset, .unset, .unset, .unset, .unset, .unset, .unset, .unset, .unset, .unset, .unset, .unset, .unset, .unset] [(.ref b204), (.ref b204)])) _
  refine Goes.of (fun t k => XS.aload X204.here hx rfl (hb hby at_65) rfl rfl k) ?_
  show Goes p e below (T204.setTop (mkF m 67 #[.val (.int p1), .val (.int p2), .val (.int p3), .val (.int p4), .val (.int p5), .val (.int p6), .val (.double (FP.l2d (p1.toInt64))), .second, .val (.long (((p6 &&& (3 : Int32)).toInt64) - (1 : Int64))), .second, .val (.double (FP.l2d v165)), .second, .val (.ref b167), .val (.ref b182), .unset, .unset, .unset, .unset, .unset, .unset, .unset, .unset, .unset, .unset, .unset, .unset, .unset, .unset, .unset, .unset, .unset, .unset] [(.ref b167), (.ref b204), (.ref b204)])) _
  refine Goes.of (fun t k => XS.dload X204.here hx rfl (hb hby at_67) rfl k) ?_
  show Goes p e below (T204.setTop (mkF m 69 #[.val (.int p1), .val (.int p2), .val (.int p3), .val (.int p4), .val (.int p5), .val (.int p6), .val (.double (FP.l2d (p1.toInt64))), .second, .val (.long (((p6 &&& (3 : Int32)).toInt64) - (1 : Int64))), .second, .val (.double (FP.l2d v165)), .second, .val (.ref b167), .val (.ref b182), .unset, .unset, .unset, .unset, .unset, .unset, .unset, .unset, .unset, .unset, .unset, .unset, .unset, .unset, .unset, .unset, .unset, .unset] [(.double (FP.l2d (p1.toInt64))), (.ref b167), (.ref b204), (.ref b204)])) _
  refine Goes.of (fun t k => XS.aload X204.here hx rfl (hb hby at_69) rfl rfl k) ?_
  show Goes p e below (T204.setTop (mkF m 71 #[.val (.int p1), .val (.int p2), .val (.int p3), .val (.int p4), .val (.int p5), .val (.int p6), .val (.double (FP.l2d (p1.toInt64))), .second, .val (.long (((p6 &&& (3 : Int32)).toInt64) - (1 : Int64))), .second, .val (.double (FP.l2d v165)), .second, .val (.ref b167), .val (.ref b182), .unset, .unset, .unset, .unset, .unset, .unset, .unset, .unset, .unset, .unset, .unset, .unset, .unset, .unset, .unset, .unset, .unset, .unset] [(.ref b182), (.double (FP.l2d (p1.toInt64))), (.ref b167), (.ref b204), (.ref b204)])) _
  obtain ⟨_, _, ⟨T217, L217, k217, n217⟩, -, X217, ⟨Lc217, hQ217, l217, y217, z217⟩, st217⟩ := X204.specialBack hx (y := (⟨"com/example/driftswarm/driftswarm/swarm/Particle", "<init>", "([DD[D)V"⟩ : MethodName)) rfl hown (mvT hZ (hw _ (List.mem_of_getElem? (i := 4) rfl))) (mvT hZ (hw _ (List.mem_of_getElem? (i := 5) rfl))) (mvT hZ (hw _ (List.mem_of_getElem? (i := 6) rfl))) (by decide) (backOf (W := 1) (rm1 l Z a0 hw [] b204 b167 b182 (p1.toInt64) _ _ _ _ _ _ h204 n0 z206 A204 g205 f213 f214 f215 f216 f209 f211 f210 f212 (Ne.symm q207) (Ne.symm q208) q185) hZ (hw _ (List.mem_of_getElem? (i := 6) rfl)) (hw _ (List.mem_of_getElem? (i := 3) rfl)) (by decide) (by decide)) (g := (mkF m 71 #[.val (.int p1), .val (.int p2), .val (.int p3), .val (.int p4), .val (.int p5), .val (.int p6), .val (.double (FP.l2d (p1.toInt64))), .second, .val (.long (((p6 &&& (3 : Int32)).toInt64) - (1 : Int64))), .second, .val (.double (FP.l2d v165)), .second, .val (.ref b167), .val (.ref b182), .unset, .unset, .unset, .unset, .unset, .unset, .unset, .unset, .unset, .unset, .unset, .unset, .unset, .unset, .unset, .unset, .unset, .unset] [(.ref b182), (.double (FP.l2d (p1.toInt64))), (.ref b167), (.ref b204), (.ref b204)])) rfl (by rw [hml]; rfl) (Steps.refl _) (a := b204) (argsL := [(.ref b167), (.double (FP.l2d (p1.toInt64))), (.ref b182)]) (rest := [(.ref b204)]) (lenOf pd_2 rfl) rfl (by show 2 * 0 + _ ≤ _; exact Nat.le_of_eq rfl) (hb hby at_71) (fun _ _ => ⟨rfl, e204, (by decide : 3 + 3 ≤ _), (by decide : 8 + 6 ≤ _)⟩)
  dsimp only [Pt.U, Pt.locs, Pt.cells, Pt.slots] at X217 l217 y217 z217 st217 hQ217
  subst l217 y217 z217
  obtain ⟨bp217, bb217, rfl, N217q, K217, zp217, zb217, npb217, E217, F217_position, F217_best, F217_bestValue, VP217, VB217, n1p217, n1b217⟩ := hQ217
  have N217 := Fr.app N198 N217q
  have q218 : b167 ≠ bp217 := Nat.ne_of_lt (Nat.lt_of_lt_of_le f209.lt zp217)
  have q219 : b182 ≠ bp217 := Nat.ne_of_lt (Nat.lt_of_lt_of_le f211.lt zp217)
  have q220 : b204 ≠ bp217 := Nat.ne_of_lt (Nat.lt_of_lt_of_le A204.lt zp217)
  have g221 : n0 ≤ bp217 := Nat.le_trans z206 zp217
  have q222 : b167 ≠ bb217 := Nat.ne_of_lt (Nat.lt_of_lt_of_le f209.lt zb217)
  have q223 : b182 ≠ bb217 := Nat.ne_of_lt (Nat.lt_of_lt_of_le f211.lt zb217)
  have q224 : b204 ≠ bb217 := Nat.ne_of_lt (Nat.lt_of_lt_of_le A204.lt zb217)
  have g225 : n0 ≤ bb217 := Nat.le_trans z206 zb217
  have z226 : n0 ≤ T217.heap.size := Nat.le_trans z206 K217.1
  have f227 := f209.keep K217
  have f228 := f210.keep K217 (ninS q207 nin0)
  have f229 := f211.keep K217
  have f230 := f212.keep K217 (ninS q208 nin0)
  have f231 := A204.keep K217
  refine Goes.of (fun t k => st217.trans k) ?_
  show Goes p e below (T217.setTop (mkF m 74 #[.val (.int p1), .val (.int p2), .val (.int p3), .val (.int p4), .val (.int p5), .val (.int p6), .val (.double (FP.l2d (p1.toInt64))), .second, .val (.long (((p6 &&& (3 : Int32)).toInt64) - (1 : Int64))), .second, .val (.double (FP.l2d v165)), .second, .val (.ref b167), .val (.ref b182), .unset, .unset, .unset, .unset, .unset, .unset, .unset, .unset, .unset, .unset, .unset, .unset, .unset, .unset, .unset, .unset, .unset, .unset] [(.ref b204)])) _
  refine Goes.of (fun t k => XS.astore X217.here hx rfl (hb hby at_74) rfl rfl (l' := #[.val (.int p1), .val (.int p2), .val (.int p3), .val (.int p4), .val (.int p5), .val (.int p6), .val (.double (FP.l2d (p1.toInt64))), .second, .val (.long (((p6 &&& (3 : Int32)).toInt64) - (1 : Int64))), .second, .val (.double (FP.l2d v165)), .second, .val (.ref b167), .val (.ref b182), .val (.ref b204), .unset, .unset, .unset, .unset, .unset, .unset, .unset, .unset, .unset, .unset, .unset, .unset, .unset, .unset, .unset, .unset, .unset]) rfl k) ?_
  show Goes p e below (T217.setTop (mkF m 76 #[.val (.int p1), .val (.int p2), .val (.int p3), .val (.int p4), .val (.int p5), .val (.int p6), .val (.double (FP.l2d (p1.toInt64))), .second, .val (.long (((p6 &&& (3 : Int32)).toInt64) - (1 : Int64))), .second, .val (.double (FP.l2d v165)), .second, .val (.ref b167), .val (.ref b182), .val (.ref b204), .unset, .unset, .unset, .unset, .unset, .unset, .unset, .unset, .unset, .unset, .unset, .unset, .unset, .unset, .unset, .unset, .unset] [])) _
  refine Goes.of (fun t k => XS.aload X217.here hx rfl (hb hby at_76) rfl rfl k) ?_
  show Goes p e below (T217.setTop (mkF m 78 #[.val (.int p1), .val (.int p2), .val (.int p3), .val (.int p4), .val (.int p5), .val (.int p6), .val (.double (FP.l2d (p1.toInt64))), .second, .val (.long (((p6 &&& (3 : Int32)).toInt64) - (1 : Int64))), .second, .val (.double (FP.l2d v165)), .second, .val (.ref b167), .val (.ref b182), .val (.ref b204), .unset, .unset, .unset, .unset, .unset, .unset, .unset, .unset, .unset, .unset, .unset, .unset, .unset, .unset, .unset, .unset, .unset] [(.ref b204)])) _
  obtain ⟨cq236, kq236, q236a, q236b, q236c⟩ := isOf hZ rfl f231
  obtain ⟨_, _, ⟨T236, L236, k236, n236⟩, -, X236, ⟨Lc236, hQ236, l236, y236, z236⟩, st236⟩ := X217.virtualBack hx (y := (⟨"com/example/driftswarm/driftswarm/swarm/Particle", "position", "()[D"⟩ : MethodName)) (z := (⟨"com/example/driftswarm/driftswarm/swarm/Particle", "position", "()[D"⟩ : MethodName)) hown (mvT hZ (hw _ (List.mem_of_getElem? (i := 27) rfl))) (mvT hZ (hw _ (List.mem_of_getElem? (i := 28) rfl))) (notFace_of_selects (args := #[]) (mvT hZ (hw _ (List.mem_of_getElem? (i := 30) rfl)))) (mvT hZ (hw _ (List.mem_of_getElem? (i := 30) rfl))) (mvT hZ (hw _ (List.mem_of_getElem? (i := 29) rfl))) (by decide) (backOf (W := 0) (rm3 l Z a0 hw [] b204 bp217 T217.heap n0 z226 F217_position) hZ (hw _ (List.mem_of_getElem? (i := 31) rfl)) (hw _ (List.mem_of_getElem? (i := 3) rfl)) (by decide) (by decide)) q236a q236c (g := (mkF m 78 #[.val (.int p1), .val (.int p2), .val (.int p3), .val (.int p4), .val (.int p5), .val (.int p6), .val (.double (FP.l2d (p1.toInt64))), .second, .val (.long (((p6 &&& (3 : Int32)).toInt64) - (1 : Int64))), .second, .val (.double (FP.l2d v165)), .second, .val (.ref b167), .val (.ref b182), .val (.ref b204), .unset, .unset, .unset, .unset, .unset, .unset, .unset, .unset, .unset, .unset, .unset, .unset, .unset, .unset, .unset, .unset, .unset] [(.ref b204)])) rfl (by rw [hml]; rfl) (Steps.refl _) (argsL := []) (rest := []) (lenOf pd_3 rfl) rfl (by show 2 * 0 + _ ≤ _; exact Nat.le_of_eq rfl) (hb hby at_78) (fun _ _ => ⟨rfl, rfl, (by decide : 6 + 0 ≤ _), (by decide : 14 + 0 ≤ _)⟩)
  dsimp only [Pt.U, Pt.locs, Pt.cells, Pt.slots] at X236 l236 y236 z236 st236 hQ236
  subst l236 y236 z236
  obtain ⟨rfl, N236q, e236⟩ := hQ236
  have N236 := Fr.app N217 N236q
  refine Goes.of (fun t k => st236.trans k) ?_
  show Goes p e below (T236.setTop (mkF m 81 #[.val (.int p1), .val (.int p2), .val (.int p3), .val (.int p4), .val (.int p5), .val (.int p6), .val (.double (FP.l2d (p1.toInt64))), .second, .val (.long (((p6 &&& (3 : Int32)).toInt64) - (1 : Int64))), .second, .val (.double (FP.l2d v165)), .second, .val (.ref b167), .val (.ref b182), .val (.ref b204), .unset, .unset, .unset, .unset, .unset, .unset, .unset, .unset, .unset, .unset, .unset, .unset, .unset, .unset, .unset, .unset, .unset] [(.ref bp217)])) _
  refine Goes.of (fun t k => XS.astore X236.here hx rfl (hb hby at_81) rfl rfl (l' := #[.val (.int p1), .val (.int p2), .val (.int p3), .val (.int p4), .val (.int p5), .val (.int p6), .val (.double (FP.l2d (p1.toInt64))), .second, .val (.long (((p6 &&& (3 : Int32)).toInt64) - (1 : Int64))), .second, .val (.double (FP.l2d v165)), .second, .val (.ref b167), .val (.ref b182), .val (.ref b204), .val (.ref bp217), .unset, .unset, .unset, .unset, .unset, .unset, .unset, .unset, .unset, .unset, .unset, .unset, .unset, .unset, .unset, .unset]) rfl k) ?_
  show Goes p e below (T236.setTop (mkF m 83 #[.val (.int p1), .val (.int p2), .val (.int p3), .val (.int p4), .val (.int p5), .val (.int p6), .val (.double (FP.l2d (p1.toInt64))), .second, .val (.long (((p6 &&& (3 : Int32)).toInt64) - (1 : Int64))), .second, .val (.double (FP.l2d v165)), .second, .val (.ref b167), .val (.ref b182), .val (.ref b204), .val (.ref bp217), .unset, .unset, .unset, .unset, .unset, .unset, .unset, .unset, .unset, .unset, .unset, .unset, .unset, .unset, .unset, .unset] [])) _
  refine Goes.of (fun t k => XS.iload X236.here hx rfl (hb hby at_83) rfl k) ?_
  show Goes p e below (T236.setTop (mkF m 85 #[.val (.int p1), .val (.int p2), .val (.int p3), .val (.int p4), .val (.int p5), .val (.int p6), .val (.double (FP.l2d (p1.toInt64))), .second, .val (.long (((p6 &&& (3 : Int32)).toInt64) - (1 : Int64))), .second, .val (.double (FP.l2d v165)), .second, .val (.ref b167), .val (.ref b182), .val (.ref b204), .val (.ref bp217), .unset, .unset, .unset, .unset, .unset, .unset, .unset, .unset, .unset, .unset, .unset, .unset, .unset, .unset, .unset, .unset] [(.int p5)])) _
  refine Goes.of (fun t k => XS.i2dS X236.here hx rfl (hb hby at_85) rfl (i2d_w _) k) ?_
  show Goes p e below (T236.setTop (mkF m 86 #[.val (.int p1), .val (.int p2), .val (.int p3), .val (.int p4), .val (.int p5), .val (.int p6), .val (.double (FP.l2d (p1.toInt64))), .second, .val (.long (((p6 &&& (3 : Int32)).toInt64) - (1 : Int64))), .second, .val (.double (FP.l2d v165)), .second, .val (.ref b167), .val (.ref b182), .val (.ref b204), .val (.ref bp217), .unset, .unset, .unset, .unset, .unset, .unset, .unset, .unset, .unset, .unset, .unset, .unset, .unset, .unset, .unset, .unset] [(.double (FP.l2d (p5.toInt64)))])) _
  refine Goes.of (fun t k => XS.dstore X236.here hx rfl (hb hby at_86) rfl (l' := #[.val (.int p1), .val (.int p2), .val (.int p3), .val (.int p4), .val (.int p5), .val (.int p6), .val (.double (FP.l2d (p1.toInt64))), .second, .val (.long (((p6 &&& (3 : Int32)).toInt64) - (1 : Int64))), .second, .val (.double (FP.l2d v165)), .second, .val (.ref b167), .val (.ref b182), .val (.ref b204), .val (.ref bp217), .val (.double (FP.l2d (p5.toInt64))), .second, .unset, .unset, .unset, .unset, .unset, .unset, .unset, .unset, .unset, .unset, .unset, .unset, .unset, .unset]) rfl k) ?_
  show Goes p e below (T236.setTop (mkF m 88 #[.val (.int p1), .val (.int p2), .val (.int p3), .val (.int p4), .val (.int p5), .val (.int p6), .val (.double (FP.l2d (p1.toInt64))), .second, .val (.long (((p6 &&& (3 : Int32)).toInt64) - (1 : Int64))), .second, .val (.double (FP.l2d v165)), .second, .val (.ref b167), .val (.ref b182), .val (.ref b204), .val (.ref bp217), .val (.double (FP.l2d (p5.toInt64))), .second, .unset, .unset, .unset, .unset, .unset, .unset, .unset, .unset, .unset, .unset, .unset, .unset, .unset, .unset] [])) _
  refine Goes.of (fun t k => XS.iloadN X236.here hx rfl (hb hby at_88) rfl k) ?_
  show Goes p e below (T236.setTop (mkF m 89 #[.val (.int p1), .val (.int p2), .val (.int p3), .val (.int p4), .val (.int p5), .val (.int p6), .val (.double (FP.l2d (p1.toInt64))), .second, .val (.long (((p6 &&& (3 : Int32)).toInt64) - (1 : Int64))), .second, .val (.double (FP.l2d v165)), .second, .val (.ref b167), .val (.ref b182), .val (.ref b204), .val (.ref bp217), .val (.double (FP.l2d (p5.toInt64))), .second, .unset, .unset, .unset, .unset, .unset, .unset, .unset, .unset, .unset, .unset, .unset, .unset, .unset, .unset] [(.int p4)])) _
  refine Goes.of (fun t k => XS.i2l X236.here hx rfl (hb hby at_89) rfl k) ?_
  show Goes p e below (T236.setTop (mkF m 90 #[.val (.int p1), .val (.int p2), .val (.int p3), .val (.int p4), .val (.int p5), .val (.int p6), .val (.double (FP.l2d (p1.toInt64))), .second, .val (.long (((p6 &&& (3 : Int32)).toInt64) - (1 : Int64))), .second, .val (.double (FP.l2d v165)), .second, .val (.ref b167), .val (.ref b182), .val (.ref b204), .val (.ref bp217), .val (.double (FP.l2d (p5.toInt64))), .second, .unset, .unset, .unset, .unset, .unset, .unset, .unset, .unset, .unset, .unset, .unset, .unset, .unset, .unset] [(.long (p4.toInt64))])) _
  refine Goes.of (fun t k => XS.lconst X236.here hx rfl (hb hby at_90) k) ?_
  show Goes p e below (T236.setTop (mkF m 91 #[.val (.int p1), .val (.int p2), .val (.int p3), .val (.int p4), .val (.int p5), .val (.int p6), .val (.double (FP.l2d (p1.toInt64))), .second, .val (.long (((p6 &&& (3 : Int32)).toInt64) - (1 : Int64))), .second, .val (.double (FP.l2d v165)), .second, .val (.ref b167), .val (.ref b182), .val (.ref b204), .val (.ref bp217), .val (.double (FP.l2d (p5.toInt64))), .second, .unset, .unset, .unset, .unset, .unset, .unset, .unset, .unset, .unset, .unset, .unset, .unset, .unset, .unset] [(.long (1 : Int64)), (.long (p4.toInt64))])) _
  refine Goes.of (fun t k => XS.lsub X236.here hx rfl (hb hby at_91) rfl k) ?_
  show Goes p e below (T236.setTop (mkF m 92 #[.val (.int p1), .val (.int p2), .val (.int p3), .val (.int p4), .val (.int p5), .val (.int p6), .val (.double (FP.l2d (p1.toInt64))), .second, .val (.long (((p6 &&& (3 : Int32)).toInt64) - (1 : Int64))), .second, .val (.double (FP.l2d v165)), .second, .val (.ref b167), .val (.ref b182), .val (.ref b204), .val (.ref bp217), .val (.double (FP.l2d (p5.toInt64))), .second, .unset, .unset, .unset, .unset, .unset, .unset, .unset, .unset, .unset, .unset, .unset, .unset, .unset, .unset] [(.long ((p4.toInt64) - (1 : Int64)))])) _
  refine Goes.of (fun t k => XS.l2dS X236.here hx rfl (hb hby at_92) rfl rfl k) ?_
  show Goes p e below (T236.setTop (mkF m 93 #[.val (.int p1), .val (.int p2), .val (.int p3), .val (.int p4), .val (.int p5), .val (.int p6), .val (.double (FP.l2d (p1.toInt64))), .second, .val (.long (((p6 &&& (3 : Int32)).toInt64) - (1 : Int64))), .second, .val (.double (FP.l2d v165)), .second, .val (.ref b167), .val (.ref b182), .val (.ref b204), .val (.ref bp217), .val (.double (FP.l2d (p5.toInt64))), .second, .unset, .unset, .unset, .unset, .unset, .unset, .unset, .unset, .unset, .unset, .unset, .unset, .unset, .unset] [(.double (FP.l2d ((p4.toInt64) - (1 : Int64))))])) _
  refine Goes.of (fun t k => XS.dstore X236.here hx rfl (hb hby at_93) rfl (l' := #[.val (.int p1), .val (.int p2), .val (.int p3), .val (.int p4), .val (.int p5), .val (.int p6), .val (.double (FP.l2d (p1.toInt64))), .second, .val (.long (((p6 &&& (3 : Int32)).toInt64) - (1 : Int64))), .second, .val (.double (FP.l2d v165)), .second, .val (.ref b167), .val (.ref b182), .val (.ref b204), .val (.ref bp217), .val (.double (FP.l2d (p5.toInt64))), .second, .val (.double (FP.l2d ((p4.toInt64) - (1 : Int64)))), .second, .unset, .unset, .unset, .unset, .unset, .unset, .unset, .unset, .unset, .unset, .unset, .unset]) rfl k) ?_
  show Goes p e below (T236.setTop (mkF m 95 #[.val (.int p1), .val (.int p2), .val (.int p3), .val (.int p4), .val (.int p5), .val (.int p6), .val (.double (FP.l2d (p1.toInt64))), .second, .val (.long (((p6 &&& (3 : Int32)).toInt64) - (1 : Int64))), .second, .val (.double (FP.l2d v165)), .second, .val (.ref b167), .val (.ref b182), .val (.ref b204), .val (.ref bp217), .val (.double (FP.l2d (p5.toInt64))), .second, .val (.double (FP.l2d ((p4.toInt64) - (1 : Int64)))), .second, .unset, .unset, .unset, .unset, .unset, .unset, .unset, .unset, .unset, .unset, .unset, .unset] [])) _
  refine Goes.of (fun t k => XS.aload X236.here hx rfl (hb hby at_95) rfl rfl k) ?_
  show Goes p e below (T236.setTop (mkF m 97 #[.val (.int p1), .val (.int p2), .val (.int p3), .val (.int p4), .val (.int p5), .val (.int p6), .val (.double (FP.l2d (p1.toInt64))), .second, .val (.long (((p6 &&& (3 : Int32)).toInt64) - (1 : Int64))), .second, .val (.double (FP.l2d v165)), .second, .val (.ref b167), .val (.ref b182), .val (.ref b204), .val (.ref bp217), .val (.double (FP.l2d (p5.toInt64))), .second, .val (.double (FP.l2d ((p4.toInt64) - (1 : Int64)))), .second, .unset, .unset, .unset, .unset, .unset, .unset, .unset, .unset, .unset, .unset, .unset, .unset] [(.ref bp217)])) _
  refine Goes.of (fun t k => XS.iconst X236.here hx rfl (hb hby at_97) k) ?_
  show Goes p e below (T236.setTop (mkF m 98 #[.val (.int p1), .val (.int p2), .val (.int p3), .val (.int p4), .val (.int p5), .val (.int p6), .val (.double (FP.l2d (p1.toInt64))), .second, .val (.long (((p6 &&& (3 : Int32)).toInt64) - (1 : Int64))), .second, .val (.double (FP.l2d v165)), .second, .val (.ref b167), .val (.ref b182), .val (.ref b204), .val (.ref bp217), .val (.double (FP.l2d (p5.toInt64))), .second, .val (.double (FP.l2d ((p4.toInt64) - (1 : Int64)))), .second, .unset, .unset, .unset, .unset, .unset, .unset, .unset, .unset, .unset, .unset, .unset, .unset] [(.int (0 : Int32)), (.ref bp217)])) _
  refine Goes.of (fun t k => XS.dload X236.here hx rfl (hb hby at_98) rfl k) ?_
  show Goes p e below (T236.setTop (mkF m 100 #[.val (.int p1), .val (.int p2), .val (.int p3), .val (.int p4), .val (.int p5), .val (.int p6), .val (.double (FP.l2d (p1.toInt64))), .second, .val (.long (((p6 &&& (3 : Int32)).toInt64) - (1 : Int64))), .second, .val (.double (FP.l2d v165)), .second, .val (.ref b167), .val (.ref b182), .val (.ref b204), .val (.ref bp217), .val (.double (FP.l2d (p5.toInt64))), .second, .val (.double (FP.l2d ((p4.toInt64) - (1 : Int64)))), .second, .unset, .unset, .unset, .unset, .unset, .unset, .unset, .unset, .unset, .unset, .unset, .unset] [(.double (FP.l2d (p5.toInt64))), (.int (0 : Int32)), (.ref bp217)])) _
  have Vc237 := VP217
  obtain ⟨clc237, Arc237, qc237, Sc237, Nc237, Hc237, Gc237⟩ := Vc237
  have hin238 : ¬ ((0 : Int32) < 0 ∨ clc237.slots.size ≤ ((0 : Int32)).toNatClampNeg) := inb_of Sc237 ⟨by decide, by decide⟩
  obtain ⟨T239, h239, X239, e239, W239, st239⟩ := stD X236 hx hZ e236 Arc237 (j := (0 : Int32)) hin238 (g := (mkF m 100 #[.val (.int p1), .val (.int p2), .val (.int p3), .val (.int p4), .val (.int p5), .val (.int p6), .val (.double (FP.l2d (p1.toInt64))), .second, .val (.long (((p6 &&& (3 : Int32)).toInt64) - (1 : Int64))), .second, .val (.double (FP.l2d v165)), .second, .val (.ref b167), .val (.ref b182), .val (.ref b204), .val (.ref bp217), .val (.double (FP.l2d (p5.toInt64))), .second, .val (.double (FP.l2d ((p4.toInt64) - (1 : Int64)))), .second, .unset, .unset, .unset, .unset, .unset, .unset, .unset, .unset, .unset, .unset, .unset, .unset] [(.double (FP.l2d (p5.toInt64))), (.int (0 : Int32)), (.ref bp217)])) rfl rfl (hb hby at_100)
  have V239 : Arv Z h239 bp217 k167 .double (2 : Int32) [(.double (FP.l2d (p5.toInt64))), (.double (FP.l2d (p4.toInt64)))] (.double (FP.l2d 0)) := Arv.set Arc237 qc237 Sc237 Nc237 Hc237 Gc237 rfl W239 0 rfl (Nat.le_of_ble_eq_true rfl)
  have z240 : n0 ≤ h239.size := Nat.le_trans z226 (Keep.of_wr W239).1
  have f241 := f227.wr W239
  have f242 := f228.other W239 q218
  have f243 := f229.wr W239
  have f244 := f230.other W239 q219
  have f245 := f231.wr W239
  have f246 := F217_position.other W239 (Or.inl n1p217)
  have f247 := F217_best.other W239 (Or.inl n1p217)
  have f248 := F217_bestValue.other W239 (Or.inl n1p217)
  have f250 := VB217.other W239 (Ne.symm npb217)
  have N239 := Fr.snoc X239 N236 g221
  refine Goes.of st239 ?_
  show Goes p e below (T239.setTop (mkF m 101 #[.val (.int p1), .val (.int p2), .val (.int p3), .val (.int p4), .val (.int p5), .val (.int p6), .val (.double (FP.l2d (p1.toInt64))), .second, .val (.long (((p6 &&& (3 : Int32)).toInt64) - (1 : Int64))), .second, .val (.double (FP.l2d v165)), .second, .val (.ref b167), .val (.ref b182), .val (.ref b204), .val (.ref bp217), .val (.double (FP.l2d (p5.toInt64))), .second, .val (.double (FP.l2d ((p4.toInt64) - (1 : Int64)))), .second, .unset, .unset, .unset, .unset, .unset, .unset, .unset, .unset, .unset, .unset, .unset, .unset] [])) _
  refine Goes.of (fun t k => XS.aload X239.here hx rfl (hb hby at_101) rfl rfl k) ?_
  show Goes p e below (T239.setTop (mkF m 103 #[.val (.int p1), .val (.int p2), .val (.int p3), .val (.int p4), .val (.int p5), .val (.int p6), .val (.double (FP.l2d (p1.toInt64))), .second, .val (.long (((p6 &&& (3 : Int32)).toInt64) - (1 : Int64))), .second, .val (.double (FP.l2d v165)), .second, .val (.ref b167), .val (.ref b182), .val (.ref b204), .val (.ref bp217), .val (.double (FP.l2d (p5.toInt64))), .second, .val (.double (FP.l2d ((p4.toInt64) - (1 : Int64)))), .second, .unset, .unset, .unset, .unset, .unset, .unset, .unset, .unset, .unset, .unset, .unset, .unset] [(.ref bp217)])) _
  refine Goes.of (fun t k => XS.iconst X239.here hx rfl (hb hby at_103) k) ?_
  show Goes p e below (T239.setTop (mkF m 104 #[.val (.int p1), .val (.int p2), .val (.int p3), .val (.int p4), .val (.int p5), .val (.int p6), .val (.double (FP.l2d (p1.toInt64))), .second, .val (.long (((p6 &&& (3 : Int32)).toInt64) - (1 : Int64))), .second, .val (.double (FP.l2d v165)), .second, .val (.ref b167), .val (.ref b182), .val (.ref b204), .val (.ref bp217), .val (.double (FP.l2d (p5.toInt64))), .second, .val (.double (FP.l2d ((p4.toInt64) - (1 : Int64)))), .second, .unset, .unset, .unset, .unset, .unset, .unset, .unset, .unset, .unset, .unset, .unset, .unset] [(.int (1 : Int32)), (.ref bp217)])) _
  refine Goes.of (fun t k => XS.dload X239.here hx rfl (hb hby at_104) rfl k) ?_
  show Goes p e below (T239.setTop (mkF m 106 #[.val (.int p1), .val (.int p2), .val (.int p3), .val (.int p4), .val (.int p5), .val (.int p6), .val (.double (FP.l2d (p1.toInt64))), .second, .val (.long (((p6 &&& (3 : Int32)).toInt64) - (1 : Int64))), .second, .val (.double (FP.l2d v165)), .second, .val (.ref b167), .val (.ref b182), .val (.ref b204), .val (.ref bp217), .val (.double (FP.l2d (p5.toInt64))), .second, .val (.double (FP.l2d ((p4.toInt64) - (1 : Int64)))), .second, .unset, .unset, .unset, .unset, .unset, .unset, .unset, .unset, .unset, .unset, .unset, .unset] [(.double (FP.l2d ((p4.toInt64) - (1 : Int64)))), (.int (1 : Int32)), (.ref bp217)])) _
  have Vc251 := V239
  obtain ⟨clc251, Arc251, qc251, Sc251, Nc251, Hc251, Gc251⟩ := Vc251
  have hin252 : ¬ ((1 : Int32) < 0 ∨ clc251.slots.size ≤ ((1 : Int32)).toNatClampNeg) := inb_of Sc251 ⟨by decide, by decide⟩
  obtain ⟨T253, h253, X253, e253, W253, st253⟩ := stD X239 hx hZ e239 Arc251 (j := (1 : Int32)) hin252 (g := (mkF m 106 #[.val (.int p1), .val (.int p2), .val (.int p3), .val (.int p4), .val (.int p5), .val (.int p6), .val (.double (FP.l2d (p1.toInt64))), .second, .val (.long (((p6 &&& (3 : Int32)).toInt64) - (1 : Int64))), .second, .val (.double (FP.l2d v165)), .second, .val (.ref b167), .val (.ref b182), .val (.ref b204), .val (.ref bp217), .val (.double (FP.l2d (p5.toInt64))), .second, .val (.double (FP.l2d ((p4.toInt64) - (1 : Int64)))), .second, .unset, .unset, .unset, .unset, .unset, .unset, .unset, .unset, .unset, .unset, .unset, .unset] [(.double (FP.l2d ((p4.toInt64) - (1 : Int64)))), (.int (1 : Int32)), (.ref bp217)])) rfl rfl (hb hby at_106)
  have V253 : Arv Z h253 bp217 k167 .double (2 : Int32) [(.double (FP.l2d (p5.toInt64))), (.double (FP.l2d ((p4.toInt64) - (1 : Int64))))] (.double (FP.l2d 0)) := Arv.set Arc251 qc251 Sc251 Nc251 Hc251 Gc251 rfl W253 1 rfl (Nat.le_of_ble_eq_true rfl)
  have z254 : n0 ≤ h253.size := Nat.le_trans z240 (Keep.of_wr W253).1
  have f255 := f241.wr W253
  have f256 := f242.other W253 q218
  have f257 := f243.wr W253
  have f258 := f244.other W253 q219
  have f259 := f245.wr W253
  have f260 := f246.other W253 (Or.inl n1p217)
  have f261 := f247.other W253 (Or.inl n1p217)
  have f262 := f248.other W253 (Or.inl n1p217)
  have f264 := f250.other W253 (Ne.symm npb217)
  have N253 := Fr.snoc X253 N239 g221
  refine Goes.of st253 ?_
  show Goes p e below (T253.setTop (mkF m 107 #[.val (.int p1), .val (.int p2), .val (.int p3), .val (.int p4), .val (.int p5), .val (.int p6), .val (.double (FP.l2d (p1.toInt64))), .second, .val (.long (((p6 &&& (3 : Int32)).toInt64) - (1 : Int64))), .second, .val (.double (FP.l2d v165)), .second, .val (.ref b167), .val (.ref b182), .val (.ref b204), .val (.ref bp217), .val (.double (FP.l2d (p5.toInt64))), .second, .val (.double (FP.l2d ((p4.toInt64) - (1 : Int64)))), .second, .unset, .unset, .unset, .unset, .unset, .unset, .unset, .unset, .unset, .unset, .unset, .unset] [])) _
  refine Goes.of (fun t k => XS.dload X253.here hx rfl (hb hby at_107) rfl k) ?_
  show Goes p e below (T253.setTop (mkF m 109 #[.val (.int p1), .val (.int p2), .val (.int p3), .val (.int p4), .val (.int p5), .val (.int p6), .val (.double (FP.l2d (p1.toInt64))), .second, .val (.long (((p6 &&& (3 : Int32)).toInt64) - (1 : Int64))), .second, .val (.double (FP.l2d v165)), .second, .val (.ref b167), .val (.ref b182), .val (.ref b204), .val (.ref bp217), .val (.double (FP.l2d (p5.toInt64))), .second, .val (.double (FP.l2d ((p4.toInt64) - (1 : Int64)))), .second, .unset, .unset, .unset, .unset, .unset, .unset, .unset, .unset, .unset, .unset, .unset, .unset] [(.double (FP.l2d v165))])) _
  refine Goes.of (fun t k => XS.dload X253.here hx rfl (hb hby at_109) rfl k) ?_
  show Goes p e below (T253.setTop (mkF m 111 #[.val (.int p1), .val (.int p2), .val (.int p3), .val (.int p4), .val (.int p5), .val (.int p6), .val (.double (FP.l2d (p1.toInt64))), .second, .val (.long (((p6 &&& (3 : Int32)).toInt64) - (1 : Int64))), .second, .val (.double (FP.l2d v165)), .second, .val (.ref b167), .val (.ref b182), .val (.ref b204), .val (.ref bp217), .val (.double (FP.l2d (p5.toInt64))), .second, .val (.double (FP.l2d ((p4.toInt64) - (1 : Int64)))), .second, .unset, .unset, .unset, .unset, .unset, .unset, .unset, .unset, .unset, .unset, .unset, .unset] [(.double (FP.l2d (p1.toInt64))), (.double (FP.l2d v165))])) _
  refine Goes.of (fun t k => XS.dcmpS X253.here hx rfl (hb hby at_111) rfl (dcmpV_w Bv1 (own_b32 p1) .l) k) ?_
  show Goes p e below (T253.setTop (mkF m 112 #[.val (.int p1), .val (.int p2), .val (.int p3), .val (.int p4), .val (.int p5), .val (.int p6), .val (.double (FP.l2d (p1.toInt64))), .second, .val (.long (((p6 &&& (3 : Int32)).toInt64) - (1 : Int64))), .second, .val (.double (FP.l2d v165)), .second, .val (.ref b167), .val (.ref b182), .val (.ref b204), .val (.ref bp217), .val (.double (FP.l2d (p5.toInt64))), .second, .val (.double (FP.l2d ((p4.toInt64) - (1 : Int64)))), .second, .unset, .unset, .unset, .unset, .unset, .unset, .unset, .unset, .unset, .unset, .unset, .unset] [(.int (lcmpW v165 (p1.toInt64)))])) _
  obtain ⟨v265, hv265⟩ : ∃ z : Int32, z = (if (p1.toInt64) < v165 then (1 : Int32) else (0 : Int32)) := ⟨_, rfl⟩
  refine Goes.of (S' := T253.setTop (mkF m 120 #[.val (.int p1), .val (.int p2), .val (.int p3), .val (.int p4), .val (.int p5), .val (.int p6), .val (.double (FP.l2d (p1.toInt64))), .second, .val (.long (((p6 &&& (3 : Int32)).toInt64) - (1 : Int64))), .second, .val (.double (FP.l2d v165)), .second, .val (.ref b167), .val (.ref b182), .val (.ref b204), .val (.ref bp217), .val (.double (FP.l2d (p5.toInt64))), .second, .val (.double (FP.l2d ((p4.toInt64) - (1 : Int64)))), .second, .unset, .unset, .unset, .unset, .unset, .unset, .unset, .unset, .unset, .unset, .unset, .unset] [(.int v265)])) (fun t k => ?_) ?_
  · by_cases hb266 : (p1.toInt64) < v165
    · refine XS.ifNo X253.here hx rfl (hb hby at_112) rfl ((if0 _ _).trans (tlt ((lw_gt _ _).mpr hb266)).2.2.2) ?_
      show Steps p.tables e below (T253.setTop (mkF m 115 #[.val (.int p1), .val (.int p2), .val (.int p3), .val (.int p4), .val (.int p5), .val (.int p6), .val (.double (FP.l2d (p1.toInt64))), .second, .val (.long (((p6 &&& (3 : Int32)).toInt64) - (1 : Int64))), .second, .val (.double (FP.l2d v165)), .second, .val (.ref b167), .val (.ref b182), .val (.ref b204), .val (.ref bp217), .val (.double (FP.l2d (p5.toInt64))), .second, .val (.double (FP.l2d ((p4.toInt64) - (1 : Int64)))), .second, .unset, .unset, .unset, .unset, .unset, .unset, .unset, .unset, .unset, .unset, .unset, .unset] [])) _
      refine XS.iconst X253.here hx rfl (hb hby at_115) ?_
      show Steps p.tables e below (T253.setTop (mkF m 116 #[.val (.int p1), .val (.int p2), .val (.int p3), .val (.int p4), .val (.int p5), .val (.int p6), .val (.double (FP.l2d (p1.toInt64))), .second, .val (.long (((p6 &&& (3 : Int32)).toInt64) - (1 : Int64))), .second, .val (.double (FP.l2d v165)), .second, .val (.ref b167), .val (.ref b182), .val (.ref b204), .val (.ref bp217), .val (.double (FP.l2d (p5.toInt64))), .second, .val (.double (FP.l2d ((p4.toInt64) - (1 : Int64)))), .second, .unset, .unset, .unset, .unset, .unset, .unset, .unset, .unset, .unset, .unset, .unset, .unset] [(.int (1 : Int32))])) _
      refine XS.goto X253.here hx rfl (pc0 := 116) (pc' := 120) rfl (hb hby at_116) (by decide) (by decide) ?_
      show Steps p.tables e below (T253.setTop (mkF m 120 #[.val (.int p1), .val (.int p2), .val (.int p3), .val (.int p4), .val (.int p5), .val (.int p6), .val (.double (FP.l2d (p1.toInt64))), .second, .val (.long (((p6 &&& (3 : Int32)).toInt64) - (1 : Int64))), .second, .val (.double (FP.l2d v165)), .second, .val (.ref b167), .val (.ref b182), .val (.ref b204), .val (.ref bp217), .val (.double (FP.l2d (p5.toInt64))), .second, .val (.double (FP.l2d ((p4.toInt64) - (1 : Int64)))), .second, .unset, .unset, .unset, .unset, .unset, .unset, .unset, .unset, .unset, .unset, .unset, .unset] [(.int (1 : Int32))])) _
      simp only [if_pos hb266] at hv265; subst hv265
      exact k
    · refine XS.ifYes X253.here hx rfl (pc0 := 112) (pc' := 119) rfl (hb hby at_112) rfl ((if0 _ _).trans (flt (mt (lw_gt _ _).mp hb266)).2.2.2) (by decide) (by decide) ?_
      show Steps p.tables e below (T253.setTop (mkF m 119 #[.val (.int p1), .val (.int p2), .val (.int p3), .val (.int p4), .val (.int p5), .val (.int p6), .val (.double (FP.l2d (p1.toInt64))), .second, .val (.long (((p6 &&& (3 : Int32)).toInt64) - (1 : Int64))), .second, .val (.double (FP.l2d v165)), .second, .val (.ref b167), .val (.ref b182), .val (.ref b204), .val (.ref bp217), .val (.double (FP.l2d (p5.toInt64))), .second, .val (.double (FP.l2d ((p4.toInt64) - (1 : Int64)))), .second, .unset, .unset, .unset, .unset, .unset, .unset, .unset, .unset, .unset, .unset, .unset, .unset] [])) _
      refine XS.iconst X253.here hx rfl (hb hby at_119) ?_
      show Steps p.tables e below (T253.setTop (mkF m 120 #[.val (.int p1), .val (.int p2), .val (.int p3), .val (.int p4), .val (.int p5), .val (.int p6), .val (.double (FP.l2d (p1.toInt64))), .second, .val (.long (((p6 &&& (3 : Int32)).toInt64) - (1 : Int64))), .second, .val (.double (FP.l2d v165)), .second, .val (.ref b167), .val (.ref b182), .val (.ref b204), .val (.ref bp217), .val (.double (FP.l2d (p5.toInt64))), .second, .val (.double (FP.l2d ((p4.toInt64) - (1 : Int64)))), .second, .unset, .unset, .unset, .unset, .unset, .unset, .unset, .unset, .unset, .unset, .unset, .unset] [(.int (0 : Int32))])) _
      simp only [if_neg hb266] at hv265; subst hv265
      exact k
  show Goes p e below (T253.setTop (mkF m 120 #[.val (.int p1), .val (.int p2), .val (.int p3), .val (.int p4), .val (.int p5), .val (.int p6), .val (.double (FP.l2d (p1.toInt64))), .second, .val (.long (((p6 &&& (3 : Int32)).toInt64) - (1 : Int64))), .second, .val (.double (FP.l2d v165)), .second, .val (.ref b167), .val (.ref b182), .val (.ref b204), .val (.ref bp217), .val (.double (FP.l2d (p5.toInt64))), .second, .val (.double (FP.l2d ((p4.toInt64) - (1 : Int64)))), .second, .unset, .unset, .unset, .unset, .unset, .unset, .unset, .unset, .unset, .unset, .unset, .unset] [(.int v265)])) _
  refine Goes.of (fun t k => XS.istore X253.here hx rfl (hb hby at_120) rfl (l' := #[.val (.int p1), .val (.int p2), .val (.int p3), .val (.int p4), .val (.int p5), .val (.int p6), .val (.double (FP.l2d (p1.toInt64))), .second, .val (.long (((p6 &&& (3 : Int32)).toInt64) - (1 : Int64))), .second, .val (.double (FP.l2d v165)), .second, .val (.ref b167), .val (.ref b182), .val (.ref b204), .val (.ref bp217), .val (.double (FP.l2d (p5.toInt64))), .second, .val (.double (FP.l2d ((p4.toInt64) - (1 : Int64)))), .second, .val (.int v265), .unset, .unset, .unset, .unset, .unset, .unset, .unset, .unset, .unset, .unset, .unset]) rfl k) ?_
  show Goes p e below (T253.setTop (mkF m 122 #[.val (.int p1), .val (.int p2), .val (.int p3), .val (.int p4), .val (.int p5), .val (.int p6), .val (.double (FP.l2d (p1.toInt64))), .second, .val (.long (((p6 &&& (3 : Int32)).toInt64) - (1 : Int64))), .second, .val (.double (FP.l2d v165)), .second, .val (.ref b167), .val (.ref b182), .val (.ref b204), .val (.ref bp217), .val (.double (FP.l2d (p5.toInt64))), .second, .val (.double (FP.l2d ((p4.toInt64) - (1 : Int64)))), .second, .val (.int v265), .unset, .unset, .unset, .unset, .unset, .unset, .unset, .unset, .unset, .unset, .unset] [])) _
  refine Goes.of (fun t k => XS.aload X253.here hx rfl (hb hby at_122) rfl rfl k) ?_
  show Goes p e below (T253.setTop (mkF m 124 #[.val (.int p1), .val (.int p2), .val (.int p3), .val (.int p4), .val (.int p5), .val (.int p6), .val (.double (FP.l2d (p1.toInt64))), .second, .val (.long (((p6 &&& (3 : Int32)).toInt64) - (1 : Int64))), .second, .val (.double (FP.l2d v165)), .second, .val (.ref b167), .val (.ref b182), .val (.ref b204), .val (.ref bp217), .val (.double (FP.l2d (p5.toInt64))), .second, .val (.double (FP.l2d ((p4.toInt64) - (1 : Int64)))), .second, .val (.int v265), .unset, .unset, .unset, .unset, .unset, .unset, .unset, .unset, .unset, .unset, .unset] [(.ref b204)])) _
  refine Goes.of (fun t k => XS.dload X253.here hx rfl (hb hby at_124) rfl k) ?_
  show Goes p e below (T253.setTop (mkF m 126 #[.val (.int p1), .val (.int p2), .val (.int p3), .val (.int p4), .val (.int p5), .val (.int p6), .val (.double (FP.l2d (p1.toInt64))), .second, .val (.long (((p6 &&& (3 : Int32)).toInt64) - (1 : Int64))), .second, .val (.double (FP.l2d v165)), .second, .val (.ref b167), .val (.ref b182), .val (.ref b204), .val (.ref bp217), .val (.double (FP.l2d (p5.toInt64))), .second, .val (.double (FP.l2d ((p4.toInt64) - (1 : Int64)))), .second, .val (.int v265), .unset, .unset, .unset, .unset, .unset, .unset, .unset, .unset, .unset, .unset, .unset] [(.double (FP.l2d v165)), (.ref b204)])) _
  obtain ⟨cq267, kq267, q267a, q267b, q267c⟩ := isOf hZ e253 f259
  obtain ⟨_, _, ⟨T267, L267, k267, n267⟩, -, X267, ⟨Lc267, hQ267, l267, y267, z267⟩, st267⟩ := X253.virtualBack hx (y := (⟨"com/example/driftswarm/driftswarm/swarm/Particle", "offerBest", "(D)Z"⟩ : MethodName)) (z := (⟨"com/example/driftswarm/driftswarm/swarm/Particle", "offerBest", "(D)Z"⟩ : MethodName)) hown (mvT hZ (hw _ (List.mem_of_getElem? (i := 32) rfl))) (mvT hZ (hw _ (List.mem_of_getElem? (i := 33) rfl))) (notFace_of_selects (args := #[]) (mvT hZ (hw _ (List.mem_of_getElem? (i := 35) rfl)))) (mvT hZ (hw _ (List.mem_of_getElem? (i := 35) rfl))) (mvT hZ (hw _ (List.mem_of_getElem? (i := 34) rfl))) (by decide) (backOf (W := 0) (rm4 l Z a0 hw [] b204 v165 (p1.toInt64) bp217 bb217 _ _ _ _ _ _ h253 n0 z254 f259 g205 g225 f260 f261 f262 V253 f264 n1p217 n1b217 npb217 Bv1 (own_b32 p1)) hZ (hw _ (List.mem_of_getElem? (i := 36) rfl)) (hw _ (List.mem_of_getElem? (i := 3) rfl)) (by decide) (by decide)) q267a q267c (g := (mkF m 126 #[.val (.int p1), .val (.int p2), .val (.int p3), .val (.int p4), .val (.int p5), .val (.int p6), .val (.double (FP.l2d (p1.toInt64))), .second, .val (.long (((p6 &&& (3 : Int32)).toInt64) - (1 : Int64))), .second, .val (.double (FP.l2d v165)), .second, .val (.ref b167), .val (.ref b182), .val (.ref b204), .val (.ref bp217), .val (.double (FP.l2d (p5.toInt64))), .second, .val (.double (FP.l2d ((p4.toInt64) - (1 : Int64)))), .second, .val (.int v265), .unset, .unset, .unset, .unset, .unset, .unset, .unset, .unset, .unset, .unset, .unset] [(.double (FP.l2d v165)), (.ref b204)])) rfl (by rw [hml]; rfl) (Steps.refl _) (argsL := [(.double (FP.l2d v165))]) (rest := []) (lenOf pd_4 rfl) rfl (by show 2 * 0 + _ ≤ _; exact Nat.le_of_eq rfl) (hb hby at_126) (fun _ _ => ⟨rfl, e253, (by decide : 6 + 0 ≤ _), (by decide : 14 + 0 ≤ _)⟩)
  dsimp only [Pt.U, Pt.locs, Pt.cells, Pt.slots] at X267 l267 y267 z267 st267 hQ267
  subst l267 y267 z267
  obtain ⟨rfl, N267q, K267, E267, F267_position, F267_best, F267_bestValue, VP267, VB267⟩ := hQ267
  have N267 := Fr.app N253 N267q
  have z268 : n0 ≤ T267.heap.size := Nat.le_trans z254 K267.1
  have f269 := f255.keep K267
  have f270 := f256.keep K267 (ninS q207 (ninS q222 nin0))
  have f271 := f257.keep K267
  have f272 := f258.keep K267 (ninS q208 (ninS q223 nin0))
  have f273 := f259.keep K267
  have f277 := V253.keep K267 (ninS (Ne.symm n1p217) (ninS npb217 nin0))
  refine Goes.of (fun t k => st267.trans k) ?_
  show Goes p e below (T267.setTop (mkF m 129 #[.val (.int p1), .val (.int p2), .val (.int p3), .val (.int p4), .val (.int p5), .val (.int p6), .val (.double (FP.l2d (p1.toInt64))), .second, .val (.long (((p6 &&& (3 : Int32)).toInt64) - (1 : Int64))), .second, .val (.double (FP.l2d v165)), .second, .val (.ref b167), .val (.ref b182), .val (.ref b204), .val (.ref bp217), .val (.double (FP.l2d (p5.toInt64))), .second, .val (.double (FP.l2d ((p4.toInt64) - (1 : Int64)))), .second, .val (.int v265), .unset, .unset, .unset, .unset, .unset, .unset, .unset, .unset, .unset, .unset, .unset] [(.int (if (p1.toInt64) < v165 then 1 else 0))])) _
  refine Goes.of (fun t k => XS.istore X267.here hx rfl (hb hby at_129) rfl (l' := #[.val (.int p1), .val (.int p2), .val (.int p3), .val (.int p4), .val (.int p5), .val (.int p6), .val (.double (FP.l2d (p1.toInt64))), .second, .val (.long (((p6 &&& (3 : Int32)).toInt64) - (1 : Int64))), .second, .val (.double (FP.l2d v165)), .second, .val (.ref b167), .val (.ref b182), .val (.ref b204), .val (.ref bp217), .val (.double (FP.l2d (p5.toInt64))), .second, .val (.double (FP.l2d ((p4.toInt64) - (1 : Int64)))), .second, .val (.int v265), .val (.int (if (p1.toInt64) < v165 then 1 else 0)), .unset, .unset, .unset, .unset, .unset, .unset, .unset, .unset, .unset, .unset]) rfl k) ?_
  show Goes p e below (T267.setTop (mkF m 131 #[.val (.int p1), .val (.int p2), .val (.int p3), .val (.int p4), .val (.int p5), .val (.int p6), .val (.double (FP.l2d (p1.toInt64))), .second, .val (.long (((p6 &&& (3 : Int32)).toInt64) - (1 : Int64))), .second, .val (.double (FP.l2d v165)), .second, .val (.ref b167), .val (.ref b182), .val (.ref b204), .val (.ref bp217), .val (.double (FP.l2d (p5.toInt64))), .second, .val (.double (FP.l2d ((p4.toInt64) - (1 : Int64)))), .second, .val (.int v265), .val (.int (if (p1.toInt64) < v165 then 1 else 0)), .unset, .unset, .unset, .unset, .unset, .unset, .unset, .unset, .unset, .unset] [])) _
  refine Goes.of (fun t k => XS.iload X267.here hx rfl (hb hby at_131) rfl k) ?_
  show Goes p e below (T267.setTop (mkF m 133 #[.val (.int p1), .val (.int p2), .val (.int p3), .val (.int p4), .val (.int p5), .val (.int p6), .val (.double (FP.l2d (p1.toInt64))), .second, .val (.long (((p6 &&& (3 : Int32)).toInt64) - (1 : Int64))), .second, .val (.double (FP.l2d v165)), .second, .val (.ref b167), .val (.ref b182), .val (.ref b204), .val (.ref bp217), .val (.double (FP.l2d (p5.toInt64))), .second, .val (.double (FP.l2d ((p4.toInt64) - (1 : Int64)))), .second, .val (.int v265), .val (.int (if (p1.toInt64) < v165 then 1 else 0)), .unset, .unset, .unset, .unset, .unset, .unset, .unset, .unset, .unset, .unset] [(.int v265)])) _
  obtain ⟨v279, hv279⟩ : ∃ z : Int64, z = (if v265 = (0 : Int32) then (p1.toInt64) else v165) := ⟨_, rfl⟩
  refine Goes.of (S' := T267.setTop (mkF m 143 #[.val (.int p1), .val (.int p2), .val (.int p3), .val (.int p4), .val (.int p5), .val (.int p6), .val (.double (FP.l2d (p1.toInt64))), .second, .val (.long (((p6 &&& (3 : Int32)).toInt64) - (1 : Int64))), .second, .val (.double (FP.l2d v165)), .second, .val (.ref b167), .val (.ref b182), .val (.ref b204), .val (.ref bp217), .val (.double (FP.l2d (p5.toInt64))), .second, .val (.double (FP.l2d ((p4.toInt64) - (1 : Int64)))), .second, .val (.int v265), .val (.int (if (p1.toInt64) < v165 then 1 else 0)), .unset, .unset, .unset, .unset, .unset, .unset, .unset, .unset, .unset, .unset] [(.double (FP.l2d v279))])) (fun t k => ?_) ?_
  · by_cases hb280 : v265 = (0 : Int32)
    · refine XS.ifYes X267.here hx rfl (pc0 := 133) (pc' := 141) rfl (hb hby at_133) rfl ((if0 _ _).trans (teq hb280).1) (by decide) (by decide) ?_
      show Steps p.tables e below (T267.setTop (mkF m 141 #[.val (.int p1), .val (.int p2), .val (.int p3), .val (.int p4), .val (.int p5), .val (.int p6), .val (.double (FP.l2d (p1.toInt64))), .second, .val (.long (((p6 &&& (3 : Int32)).toInt64) - (1 : Int64))), .second, .val (.double (FP.l2d v165)), .second, .val (.ref b167), .val (.ref b182), .val (.ref b204), .val (.ref bp217), .val (.double (FP.l2d (p5.toInt64))), .second, .val (.double (FP.l2d ((p4.toInt64) - (1 : Int64)))), .second, .val (.int v265), .val (.int (if (p1.toInt64) < v165 then 1 else 0)), .unset, .unset, .unset, .unset, .unset, .unset, .unset, .unset, .unset, .unset] [])) _
      refine XS.dload X267.here hx rfl (hb hby at_141) rfl ?_
      show Steps p.tables e below (T267.setTop (mkF m 143 #[.val (.int p1), .val (.int p2), .val (.int p3), .val (.int p4), .val (.int p5), .val (.int p6), .val (.double (FP.l2d (p1.toInt64))), .second, .val (.long (((p6 &&& (3 : Int32)).toInt64) - (1 : Int64))), .second, .val (.double (FP.l2d v165)), .second, .val (.ref b167), .val (.ref b182), .val (.ref b204), .val (.ref bp217), .val (.double (FP.l2d (p5.toInt64))), .second, .val (.double (FP.l2d ((p4.toInt64) - (1 : Int64)))), .second, .val (.int v265), .val (.int (if (p1.toInt64) < v165 then 1 else 0)), .unset, .unset, .unset, .unset, .unset, .unset, .unset, .unset, .unset, .unset] [(.double (FP.l2d (p1.toInt64)))])) _
      simp only [if_pos hb280] at hv279; subst hv279
      exact k
    · refine XS.ifNo X267.here hx rfl (hb hby at_133) rfl ((if0 _ _).trans (feq hb280).1) ?_
      show Steps p.tables e below (T267.setTop (mkF m 136 #[.val (.int p1), .val (.int p2), .val (.int p3), .val (.int p4), .val (.int p5), .val (.int p6), .val (.double (FP.l2d (p1.toInt64))), .second, .val (.long (((p6 &&& (3 : Int32)).toInt64) - (1 : Int64))), .second, .val (.double (FP.l2d v165)), .second, .val (.ref b167), .val (.ref b182), .val (.ref b204), .val (.ref bp217), .val (.double (FP.l2d (p5.toInt64))), .second, .val (.double (FP.l2d ((p4.toInt64) - (1 : Int64)))), .second, .val (.int v265), .val (.int (if (p1.toInt64) < v165 then 1 else 0)), .unset, .unset, .unset, .unset, .unset, .unset, .unset, .unset, .unset, .unset] [])) _
      refine XS.dload X267.here hx rfl (hb hby at_136) rfl ?_
      show Steps p.tables e below (T267.setTop (mkF m 138 #[.val (.int p1), .val (.int p2), .val (.int p3), .val (.int p4), .val (.int p5), .val (.int p6), .val (.double (FP.l2d (p1.toInt64))), .second, .val (.long (((p6 &&& (3 : Int32)).toInt64) - (1 : Int64))), .second, .val (.double (FP.l2d v165)), .second, .val (.ref b167), .val (.ref b182), .val (.ref b204), .val (.ref bp217), .val (.double (FP.l2d (p5.toInt64))), .second, .val (.double (FP.l2d ((p4.toInt64) - (1 : Int64)))), .second, .val (.int v265), .val (.int (if (p1.toInt64) < v165 then 1 else 0)), .unset, .unset, .unset, .unset, .unset, .unset, .unset, .unset, .unset, .unset] [(.double (FP.l2d v165))])) _
      refine XS.goto X267.here hx rfl (pc0 := 138) (pc' := 143) rfl (hb hby at_138) (by decide) (by decide) ?_
      show Steps p.tables e below (T267.setTop (mkF m 143 #[.val (.int p1), .val (.int p2), .val (.int p3), .val (.int p4), .val (.int p5), .val (.int p6), .val (.double (FP.l2d (p1.toInt64))), .second, .val (.long (((p6 &&& (3 : Int32)).toInt64) - (1 : Int64))), .second, .val (.double (FP.l2d v165)), .second, .val (.ref b167), .val (.ref b182), .val (.ref b204), .val (.ref bp217), .val (.double (FP.l2d (p5.toInt64))), .second, .val (.double (FP.l2d ((p4.toInt64) - (1 : Int64)))), .second, .val (.int v265), .val (.int (if (p1.toInt64) < v165 then 1 else 0)), .unset, .unset, .unset, .unset, .unset, .unset, .unset, .unset, .unset, .unset] [(.double (FP.l2d v165))])) _
      simp only [if_neg hb280] at hv279; subst hv279
      exact k
  show Goes p e below (T267.setTop (mkF m 143 #[.val (.int p1), .val (.int p2), .val (.int p3), .val (.int p4), .val (.int p5), .val (.int p6), .val (.double (FP.l2d (p1.toInt64))), .second, .val (.long (((p6 &&& (3 : Int32)).toInt64) - (1 : Int64))), .second, .val (.double (FP.l2d v165)), .second, .val (.ref b167), .val (.ref b182), .val (.ref b204), .val (.ref bp217), .val (.double (FP.l2d (p5.toInt64))), .second, .val (.double (FP.l2d ((p4.toInt64) - (1 : Int64)))), .second, .val (.int v265), .val (.int (if (p1.toInt64) < v165 then 1 else 0)), .unset, .unset, .unset, .unset, .unset, .unset, .unset, .unset, .unset, .unset] [(.double (FP.l2d v279))])) _
  refine Goes.of (fun t k => XS.dstore X267.here hx rfl (hb hby at_143) rfl (l' := #[.val (.int p1), .val (.int p2), .val (.int p3), .val (.int p4), .val (.int p5), .val (.int p6), .val (.double (FP.l2d (p1.toInt64))), .second, .val (.long (((p6 &&& (3 : Int32)).toInt64) - (1 : Int64))), .second, .val (.double (FP.l2d v165)), .second, .val (.ref b167), .val (.ref b182), .val (.ref b204), .val (.ref bp217), .val (.double (FP.l2d (p5.toInt64))), .second, .val (.double (FP.l2d ((p4.toInt64) - (1 : Int64)))), .second, .val (.int v265), .val (.int (if (p1.toInt64) < v165 then 1 else 0)), .val (.double (FP.l2d v279)), .second, .unset, .unset, .unset, .unset, .unset, .unset, .unset, .unset]) rfl k) ?_
  show Goes p e below (T267.setTop (mkF m 145 #[.val (.int p1), .val (.int p2), .val (.int p3), .val (.int p4), .val (.int p5), .val (.int p6), .val (.double (FP.l2d (p1.toInt64))), .second, .val (.long (((p6 &&& (3 : Int32)).toInt64) - (1 : Int64))), .second, .val (.double (FP.l2d v165)), .second, .val (.ref b167), .val (.ref b182), .val (.ref b204), .val (.ref bp217), .val (.double (FP.l2d (p5.toInt64))), .second, .val (.double (FP.l2d ((p4.toInt64) - (1 : Int64)))), .second, .val (.int v265), .val (.int (if (p1.toInt64) < v165 then 1 else 0)), .val (.double (FP.l2d v279)), .second, .unset, .unset, .unset, .unset, .unset, .unset, .unset, .unset] [])) _
  refine Goes.of (fun t k => XS.iload X267.here hx rfl (hb hby at_145) rfl k) ?_
  show Goes p e below (T267.setTop (mkF m 147 #[.val (.int p1), .val (.int p2), .val (.int p3), .val (.int p4), .val (.int p5), .val (.int p6), .val (.double (FP.l2d (p1.toInt64))), .second, .val (.long (((p6 &&& (3 : Int32)).toInt64) - (1 : Int64))), .second, .val (.double (FP.l2d v165)), .second, .val (.ref b167), .val (.ref b182), .val (.ref b204), .val (.ref bp217), .val (.double (FP.l2d (p5.toInt64))), .second, .val (.double (FP.l2d ((p4.toInt64) - (1 : Int64)))), .second, .val (.int v265), .val (.int (if (p1.toInt64) < v165 then 1 else 0)), .val (.double (FP.l2d v279)), .second, .unset, .unset, .unset, .unset, .unset, .unset, .unset, .unset] [(.int v265)])) _
  obtain ⟨v281, hv281⟩ : ∃ z : Int64, z = (if v265 = (0 : Int32) then (p3.toInt64) else (p5.toInt64)) := ⟨_, rfl⟩
  refine Goes.of (S' := T267.setTop (mkF m 157 #[.val (.int p1), .val (.int p2), .val (.int p3), .val (.int p4), .val (.int p5), .val (.int p6), .val (.double (FP.l2d (p1.toInt64))), .second, .val (.long (((p6 &&& (3 : Int32)).toInt64) - (1 : Int64))), .second, .val (.double (FP.l2d v165)), .second, .val (.ref b167), .val (.ref b182), .val (.ref b204), .val (.ref bp217), .val (.double (FP.l2d (p5.toInt64))), .second, .val (.double (FP.l2d ((p4.toInt64) - (1 : Int64)))), .second, .val (.int v265), .val (.int (if (p1.toInt64) < v165 then 1 else 0)), .val (.double (FP.l2d v279)), .second, .unset, .unset, .unset, .unset, .unset, .unset, .unset, .unset] [(.double (FP.l2d v281))])) (fun t k => ?_) ?_
  · by_cases hb282 : v265 = (0 : Int32)
    · refine XS.ifYes X267.here hx rfl (pc0 := 147) (pc' := 155) rfl (hb hby at_147) rfl ((if0 _ _).trans (teq hb282).1) (by decide) (by decide) ?_
      show Steps p.tables e below (T267.setTop (mkF m 155 #[.val (.int p1), .val (.int p2), .val (.int p3), .val (.int p4), .val (.int p5), .val (.int p6), .val (.double (FP.l2d (p1.toInt64))), .second, .val (.long (((p6 &&& (3 : Int32)).toInt64) - (1 : Int64))), .second, .val (.double (FP.l2d v165)), .second, .val (.ref b167), .val (.ref b182), .val (.ref b204), .val (.ref bp217), .val (.double (FP.l2d (p5.toInt64))), .second, .val (.double (FP.l2d ((p4.toInt64) - (1 : Int64)))), .second, .val (.int v265), .val (.int (if (p1.toInt64) < v165 then 1 else 0)), .val (.double (FP.l2d v279)), .second, .unset, .unset, .unset, .unset, .unset, .unset, .unset, .unset] [])) _
      refine XS.iloadN X267.here hx rfl (hb hby at_155) rfl ?_
      show Steps p.tables e below (T267.setTop (mkF m 156 #[.val (.int p1), .val (.int p2), .val (.int p3), .val (.int p4), .val (.int p5), .val (.int p6), .val (.double (FP.l2d (p1.toInt64))), .second, .val (.long (((p6 &&& (3 : Int32)).toInt64) - (1 : Int64))), .second, .val (.double (FP.l2d v165)), .second, .val (.ref b167), .val (.ref b182), .val (.ref b204), .val (.ref bp217), .val (.double (FP.l2d (p5.toInt64))), .second, .val (.double (FP.l2d ((p4.toInt64) - (1 : Int64)))), .second, .val (.int v265), .val (.int (if (p1.toInt64) < v165 then 1 else 0)), .val (.double (FP.l2d v279)), .second, .unset, .unset, .unset, .unset, .unset, .unset, .unset, .unset] [(.int p3)])) _
      refine XS.i2dS X267.here hx rfl (hb hby at_156) rfl (i2d_w _) ?_
      show Steps p.tables e below (T267.setTop (mkF m 157 #[.val (.int p1), .val (.int p2), .val (.int p3), .val (.int p4), .val (.int p5), .val (.int p6), .val (.double (FP.l2d (p1.toInt64))), .second, .val (.long (((p6 &&& (3 : Int32)).toInt64) - (1 : Int64))), .second, .val (.double (FP.l2d v165)), .second, .val (.ref b167), .val (.ref b182), .val (.ref b204), .val (.ref bp217), .val (.double (FP.l2d (p5.toInt64))), .second, .val (.double (FP.l2d ((p4.toInt64) - (1 : Int64)))), .second, .val (.int v265), .val (.int (if (p1.toInt64) < v165 then 1 else 0)), .val (.double (FP.l2d v279)), .second, .unset, .unset, .unset, .unset, .unset, .unset, .unset, .unset] [(.double (FP.l2d (p3.toInt64)))])) _
      simp only [if_pos hb282] at hv281; subst hv281
      exact k
    · refine XS.ifNo X267.here hx rfl (hb hby at_147) rfl ((if0 _ _).trans (feq hb282).1) ?_
      show Steps p.tables e below (T267.setTop (mkF m 150 #[.val (.int p1), .val (.int p2), .val (.int p3), .val (.int p4), .val (.int p5), .val (.int p6), .val (.double (FP.l2d (p1.toInt64))), .second, .val (.long (((p6 &&& (3 : Int32)).toInt64) - (1 : Int64))), .second, .val (.double (FP.l2d v165)), .second, .val (.ref b167), .val (.ref b182), .val (.ref b204), .val (.ref bp217), .val (.double (FP.l2d (p5.toInt64))), .second, .val (.double (FP.l2d ((p4.toInt64) - (1 : Int64)))), .second, .val (.int v265), .val (.int (if (p1.toInt64) < v165 then 1 else 0)), .val (.double (FP.l2d v279)), .second, .unset, .unset, .unset, .unset, .unset, .unset, .unset, .unset] [])) _
      refine XS.dload X267.here hx rfl (hb hby at_150) rfl ?_
      show Steps p.tables e below (T267.setTop (mkF m 152 #[.val (.int p1), .val (.int p2), .val (.int p3), .val (.int p4), .val (.int p5), .val (.int p6), .val (.double (FP.l2d (p1.toInt64))), .second, .val (.long (((p6 &&& (3 : Int32)).toInt64) - (1 : Int64))), .second, .val (.double (FP.l2d v165)), .second, .val (.ref b167), .val (.ref b182), .val (.ref b204), .val (.ref bp217), .val (.double (FP.l2d (p5.toInt64))), .second, .val (.double (FP.l2d ((p4.toInt64) - (1 : Int64)))), .second, .val (.int v265), .val (.int (if (p1.toInt64) < v165 then 1 else 0)), .val (.double (FP.l2d v279)), .second, .unset, .unset, .unset, .unset, .unset, .unset, .unset, .unset] [(.double (FP.l2d (p5.toInt64)))])) _
      refine XS.goto X267.here hx rfl (pc0 := 152) (pc' := 157) rfl (hb hby at_152) (by decide) (by decide) ?_
      show Steps p.tables e below (T267.setTop (mkF m 157 #[.val (.int p1), .val (.int p2), .val (.int p3), .val (.int p4), .val (.int p5), .val (.int p6), .val (.double (FP.l2d (p1.toInt64))), .second, .val (.long (((p6 &&& (3 : Int32)).toInt64) - (1 : Int64))), .second, .val (.double (FP.l2d v165)), .second, .val (.ref b167), .val (.ref b182), .val (.ref b204), .val (.ref bp217), .val (.double (FP.l2d (p5.toInt64))), .second, .val (.double (FP.l2d ((p4.toInt64) - (1 : Int64)))), .second, .val (.int v265), .val (.int (if (p1.toInt64) < v165 then 1 else 0)), .val (.double (FP.l2d v279)), .second, .unset, .unset, .unset, .unset, .unset, .unset, .unset, .unset] [(.double (FP.l2d (p5.toInt64)))])) _
      simp only [if_neg hb282] at hv281; subst hv281
      exact k
  show Goes p e below (T267.setTop (mkF m 157 #[.val (.int p1), .val (.int p2), .val (.int p3), .val (.int p4), .val (.int p5), .val (.int p6), .val (.double (FP.l2d (p1.toInt64))), .second, .val (.long (((p6 &&& (3 : Int32)).toInt64) - (1 : Int64))), .second, .val (.double (FP.l2d v165)), .second, .val (.ref b167), .val (.ref b182), .val (.ref b204), .val (.ref bp217), .val (.double (FP.l2d (p5.toInt64))), .second, .val (.double (FP.l2d ((p4.toInt64) - (1 : Int64)))), .second, .val (.int v265), .val (.int (if (p1.toInt64) < v165 then 1 else 0)), .val (.double (FP.l2d v279)), .second, .unset, .unset, .unset, .unset, .unset, .unset, .unset, .unset] [(.double (FP.l2d v281))])) _
  refine Goes.of (fun t k => XS.dstore X267.here hx rfl (hb hby at_157) rfl (l' := #[.val (.int p1), .val (.int p2), .val (.int p3), .val (.int p4), .val (.int p5), .val (.int p6), .val (.double (FP.l2d (p1.toInt64))), .second, .val (.long (((p6 &&& (3 : Int32)).toInt64) - (1 : Int64))), .second, .val (.double (FP.l2d v165)), .second, .val (.ref b167), .val (.ref b182), .val (.ref b204), .val (.ref bp217), .val (.double (FP.l2d (p5.toInt64))), .second, .val (.double (FP.l2d ((p4.toInt64) - (1 : Int64)))), .second, .val (.int v265), .val (.int (if (p1.toInt64) < v165 then 1 else 0)), .val (.double (FP.l2d v279)), .second, .val (.double (FP.l2d v281)), .second, .unset, .unset, .unset, .unset, .unset, .unset]) rfl k) ?_
  show Goes p e below (T267.setTop (mkF m 159 #[.val (.int p1), .val (.int p2), .val (.int p3), .val (.int p4), .val (.int p5), .val (.int p6), .val (.double (FP.l2d (p1.toInt64))), .second, .val (.long (((p6 &&& (3 : Int32)).toInt64) - (1 : Int64))), .second, .val (.double (FP.l2d v165)), .second, .val (.ref b167), .val (.ref b182), .val (.ref b204), .val (.ref bp217), .val (.double (FP.l2d (p5.toInt64))), .second, .val (.double (FP.l2d ((p4.toInt64) - (1 : Int64)))), .second, .val (.int v265), .val (.int (if (p1.toInt64) < v165 then 1 else 0)), .val (.double (FP.l2d v279)), .second, .val (.double (FP.l2d v281)), .second, .unset, .unset, .unset, .unset, .unset, .unset] [])) _
  refine Goes.of (fun t k => XS.iload X267.here hx rfl (hb hby at_159) rfl k) ?_
  show Goes p e below (T267.setTop (mkF m 161 #[.val (.int p1), .val (.int p2), .val (.int p3), .val (.int p4), .val (.int p5), .val (.int p6), .val (.double (FP.l2d (p1.toInt64))), .second, .val (.long (((p6 &&& (3 : Int32)).toInt64) - (1 : Int64))), .second, .val (.double (FP.l2d v165)), .second, .val (.ref b167), .val (.ref b182), .val (.ref b204), .val (.ref bp217), .val (.double (FP.l2d (p5.toInt64))), .second, .val (.double (FP.l2d ((p4.toInt64) - (1 : Int64)))), .second, .val (.int v265), .val (.int (if (p1.toInt64) < v165 then 1 else 0)), .val (.double (FP.l2d v279)), .second, .val (.double (FP.l2d v281)), .second, .unset, .unset, .unset, .unset, .unset, .unset] [(.int v265)])) _
  obtain ⟨v283, hv283⟩ : ∃ z : Int64, z = (if v265 = (0 : Int32) then (p4.toInt64) else ((p4.toInt64) - (1 : Int64))) := ⟨_, rfl⟩
  refine Goes.of (S' := T267.setTop (mkF m 171 #[.val (.int p1), .val (.int p2), .val (.int p3), .val (.int p4), .val (.int p5), .val (.int p6), .val (.double (FP.l2d (p1.toInt64))), .second, .val (.long (((p6 &&& (3 : Int32)).toInt64) - (1 : Int64))), .second, .val (.double (FP.l2d v165)), .second, .val (.ref b167), .val (.ref b182), .val (.ref b204), .val (.ref bp217), .val (.double (FP.l2d (p5.toInt64))), .second, .val (.double (FP.l2d ((p4.toInt64) - (1 : Int64)))), .second, .val (.int v265), .val (.int (if (p1.toInt64) < v165 then 1 else 0)), .val (.double (FP.l2d v279)), .second, .val (.double (FP.l2d v281)), .second, .unset, .unset, .unset, .unset, .unset, .unset] [(.double (FP.l2d v283))])) (fun t k => ?_) ?_
  · by_cases hb284 : v265 = (0 : Int32)
    · refine XS.ifYes X267.here hx rfl (pc0 := 161) (pc' := 169) rfl (hb hby at_161) rfl ((if0 _ _).trans (teq hb284).1) (by decide) (by decide) ?_
      show Steps p.tables e below (T267.setTop (mkF m 169 #[.val (.int p1), .val (.int p2), .val (.int p3), .val (.int p4), .val (.int p5), .val (.int p6), .val (.double (FP.l2d (p1.toInt64))), .second, .val (.long (((p6 &&& (3 : Int32)).toInt64) - (1 : Int64))), .second, .val (.double (FP.l2d v165)), .second, .val (.ref b167), .val (.ref b182), .val (.ref b204), .val (.ref bp217), .val (.double (FP.l2d (p5.toInt64))), .second, .val (.double (FP.l2d ((p4.toInt64) - (1 : Int64)))), .second, .val (.int v265), .val (.int (if (p1.toInt64) < v165 then 1 else 0)), .val (.double (FP.l2d v279)), .second, .val (.double (FP.l2d v281)), .second, .unset, .unset, .unset, .unset, .unset, .unset] [])) _
      refine XS.iloadN X267.here hx rfl (hb hby at_169) rfl ?_
      show Steps p.tables e below (T267.setTop (mkF m 170 #[.val (.int p1), .val (.int p2), .val (.int p3), .val (.int p4), .val (.int p5), .val (.int p6), .val (.double (FP.l2d (p1.toInt64))), .second, .val (.long (((p6 &&& (3 : Int32)).toInt64) - (1 : Int64))), .second, .val (.double (FP.l2d v165)), .second, .val (.ref b167), .val (.ref b182), .val (.ref b204), .val (.ref bp217), .val (.double (FP.l2d (p5.toInt64))), .second, .val (.double (FP.l2d ((p4.toInt64) - (1 : Int64)))), .second, .val (.int v265), .val (.int (if (p1.toInt64) < v165 then 1 else 0)), .val (.double (FP.l2d v279)), .second, .val (.double (FP.l2d v281)), .second, .unset, .unset, .unset, .unset, .unset, .unset] [(.int p4)])) _
      refine XS.i2dS X267.here hx rfl (hb hby at_170) rfl (i2d_w _) ?_
      show Steps p.tables e below (T267.setTop (mkF m 171 #[.val (.int p1), .val (.int p2), .val (.int p3), .val (.int p4), .val (.int p5), .val (.int p6), .val (.double (FP.l2d (p1.toInt64))), .second, .val (.long (((p6 &&& (3 : Int32)).toInt64) - (1 : Int64))), .second, .val (.double (FP.l2d v165)), .second, .val (.ref b167), .val (.ref b182), .val (.ref b204), .val (.ref bp217), .val (.double (FP.l2d (p5.toInt64))), .second, .val (.double (FP.l2d ((p4.toInt64) - (1 : Int64)))), .second, .val (.int v265), .val (.int (if (p1.toInt64) < v165 then 1 else 0)), .val (.double (FP.l2d v279)), .second, .val (.double (FP.l2d v281)), .second, .unset, .unset, .unset, .unset, .unset, .unset] [(.double (FP.l2d (p4.toInt64)))])) _
      simp only [if_pos hb284] at hv283; subst hv283
      exact k
    · refine XS.ifNo X267.here hx rfl (hb hby at_161) rfl ((if0 _ _).trans (feq hb284).1) ?_
      show Steps p.tables e below (T267.setTop (mkF m 164 #[.val (.int p1), .val (.int p2), .val (.int p3), .val (.int p4), .val (.int p5), .val (.int p6), .val (.double (FP.l2d (p1.toInt64))), .second, .val (.long (((p6 &&& (3 : Int32)).toInt64) - (1 : Int64))), .second, .val (.double (FP.l2d v165)), .second, .val (.ref b167), .val (.ref b182), .val (.ref b204), .val (.ref bp217), .val (.double (FP.l2d (p5.toInt64))), .second, .val (.double (FP.l2d ((p4.toInt64) - (1 : Int64)))), .second, .val (.int v265), .val (.int (if (p1.toInt64) < v165 then 1 else 0)), .val (.double (FP.l2d v279)), .second, .val (.double (FP.l2d v281)), .second, .unset, .unset, .unset, .unset, .unset, .unset] [])) _
      refine XS.dload X267.here hx rfl (hb hby at_164) rfl ?_
      show Steps p.tables e below (T267.setTop (mkF m 166 #[.val (.int p1), .val (.int p2), .val (.int p3), .val (.int p4), .val (.int p5), .val (.int p6), .val (.double (FP.l2d (p1.toInt64))), .second, .val (.long (((p6 &&& (3 : Int32)).toInt64) - (1 : Int64))), .second, .val (.double (FP.l2d v165)), .second, .val (.ref b167), .val (.ref b182), .val (.ref b204), .val (.ref bp217), .val (.double (FP.l2d (p5.toInt64))), .second, .val (.double (FP.l2d ((p4.toInt64) - (1 : Int64)))), .second, .val (.int v265), .val (.int (if (p1.toInt64) < v165 then 1 else 0)), .val (.double (FP.l2d v279)), .second, .val (.double (FP.l2d v281)), .second, .unset, .unset, .unset, .unset, .unset, .unset] [(.double (FP.l2d ((p4.toInt64) - (1 : Int64))))])) _
      refine XS.goto X267.here hx rfl (pc0 := 166) (pc' := 171) rfl (hb hby at_166) (by decide) (by decide) ?_
      show Steps p.tables e below (T267.setTop (mkF m 171 #[.val (.int p1), .val (.int p2), .val (.int p3), .val (.int p4), .val (.int p5), .val (.int p6), .val (.double (FP.l2d (p1.toInt64))), .second, .val (.long (((p6 &&& (3 : Int32)).toInt64) - (1 : Int64))), .second, .val (.double (FP.l2d v165)), .second, .val (.ref b167), .val (.ref b182), .val (.ref b204), .val (.ref bp217), .val (.double (FP.l2d (p5.toInt64))), .second, .val (.double (FP.l2d ((p4.toInt64) - (1 : Int64)))), .second, .val (.int v265), .val (.int (if (p1.toInt64) < v165 then 1 else 0)), .val (.double (FP.l2d v279)), .second, .val (.double (FP.l2d v281)), .second, .unset, .unset, .unset, .unset, .unset, .unset] [(.double (FP.l2d ((p4.toInt64) - (1 : Int64))))])) _
      simp only [if_neg hb284] at hv283; subst hv283
      exact k
  show Goes p e below (T267.setTop (mkF m 171 #[.val (.int p1), .val (.int p2), .val (.int p3), .val (.int p4), .val (.int p5), .val (.int p6), .val (.double (FP.l2d (p1.toInt64))), .second, .val (.long (((p6 &&& (3 : Int32)).toInt64) - (1 : Int64))), .second, .val (.double (FP.l2d v165)), .second, .val (.ref b167), .val (.ref b182), .val (.ref b204), .val (.ref bp217), .val (.double (FP.l2d (p5.toInt64))), .second, .val (.double (FP.l2d ((p4.toInt64) - (1 : Int64)))), .second, .val (.int v265), .val (.int (if (p1.toInt64) < v165 then 1 else 0)), .val (.double (FP.l2d v279)), .second, .val (.double (FP.l2d v281)), .second, .unset, .unset, .unset, .unset, .unset, .unset] [(.double (FP.l2d v283))])) _
  refine Goes.of (fun t k => XS.dstore X267.here hx rfl (hb hby at_171) rfl (l' := #[.val (.int p1), .val (.int p2), .val (.int p3), .val (.int p4), .val (.int p5), .val (.int p6), .val (.double (FP.l2d (p1.toInt64))), .second, .val (.long (((p6 &&& (3 : Int32)).toInt64) - (1 : Int64))), .second, .val (.double (FP.l2d v165)), .second, .val (.ref b167), .val (.ref b182), .val (.ref b204), .val (.ref bp217), .val (.double (FP.l2d (p5.toInt64))), .second, .val (.double (FP.l2d ((p4.toInt64) - (1 : Int64)))), .second, .val (.int v265), .val (.int (if (p1.toInt64) < v165 then 1 else 0)), .val (.double (FP.l2d v279)), .second, .val (.double (FP.l2d v281)), .second, .val (.double (FP.l2d v283)), .second, .unset, .unset, .unset, .unset]) rfl k) ?_
  show Goes p e below (T267.setTop (mkF m 173 #[.val (.int p1), .val (.int p2), .val (.int p3), .val (.int p4), .val (.int p5), .val (.int p6), .val (.double (FP.l2d (p1.toInt64))), .second, .val (.long (((p6 &&& (3 : Int32)).toInt64) - (1 : Int64))), .second, .val (.double (FP.l2d v165)), .second, .val (.ref b167), .val (.ref b182), .val (.ref b204), .val (.ref bp217), .val (.double (FP.l2d (p5.toInt64))), .second, .val (.double (FP.l2d ((p4.toInt64) - (1 : Int64)))), .second, .val (.int v265), .val (.int (if (p1.toInt64) < v165 then 1 else 0)), .val (.double (FP.l2d v279)), .second, .val (.double (FP.l2d v281)), .second, .val (.double (FP.l2d v283)), .second, .unset, .unset, .unset, .unset] [])) _
  refine Goes.of (fun t k => XS.aload X267.here hx rfl (hb hby at_173) rfl rfl k) ?_
  show Goes p e below (T267.setTop (mkF m 175 #[.val (.int p1), .val (.int p2), .val (.int p3), .val (.int p4), .val (.int p5), .val (.int p6), .val (.double (FP.l2d (p1.toInt64))), .second, .val (.long (((p6 &&& (3 : Int32)).toInt64) - (1 : Int64))), .second, .val (.double (FP.l2d v165)), .second, .val (.ref b167), .val (.ref b182), .val (.ref b204), .val (.ref bp217), .val (.double (FP.l2d (p5.toInt64))), .second, .val (.double (FP.l2d ((p4.toInt64) - (1 : Int64)))), .second, .val (.int v265), .val (.int (if (p1.toInt64) < v165 then 1 else 0)), .val (.double (FP.l2d v279)), .second, .val (.double (FP.l2d v281)), .second, .val (.double (FP.l2d v283)), .second, .unset, .unset, .unset, .unset] [(.ref b204)])) _
  have hx20 : v265 = if (p1.toInt64) < v165 then (1 : Int32) else 0 := hv265
  have hev : v279 = (own_pk (p1.toInt64) v165 v165 (p1.toInt64)) := by rw [hv279, hx20, own_pk]; by_cases hq : (p1.toInt64) < v165 <;> simp [hq]
  have he0 : v281 = (own_pk (p1.toInt64) v165 (p5.toInt64) (p3.toInt64)) := by rw [hv281, hx20, own_pk]; by_cases hq : (p1.toInt64) < v165 <;> simp [hq]
  have he1 : v283 = (own_pk (p1.toInt64) v165 ((p4.toInt64) - (1 : Int64)) (p4.toInt64)) := by rw [hv283, hx20, own_pk]; by_cases hq : (p1.toInt64) < v165 <;> simp [hq]
  have Bw1 : B53 (own_pk (p1.toInt64) v165 v165 (p1.toInt64)) := by rw [own_pk]; split; exact Bv1; exact own_b32 p1
  have Bev : B53 v279 := by rw [hev]; exact Bw1
  have Be0 : B53 v281 := by rw [he0, own_pk]; split; exact own_b32 p5; exact own_b32 p3
  have Be1 : B53 v283 := by rw [he1, own_pk]; split; exact own_bm1 p4; exact own_b32 p4
  obtain ⟨cq285, kq285, q285a, q285b, q285c⟩ := isOf hZ rfl f273
  obtain ⟨_, _, ⟨T285, L285, k285, n285⟩, -, X285, ⟨Lc285, hQ285, l285, y285, z285⟩, st285⟩ := X267.virtualBack hx (y := (⟨"com/example/driftswarm/driftswarm/swarm/Particle", "bestValue", "()D"⟩ : MethodName)) (z := (⟨"com/example/driftswarm/driftswarm/swarm/Particle", "bestValue", "()D"⟩ : MethodName)) hown (mvT hZ (hw _ (List.mem_of_getElem? (i := 41) rfl))) (mvT hZ (hw _ (List.mem_of_getElem? (i := 42) rfl))) (notFace_of_selects (args := #[]) (mvT hZ (hw _ (List.mem_of_getElem? (i := 44) rfl)))) (mvT hZ (hw _ (List.mem_of_getElem? (i := 44) rfl))) (mvT hZ (hw _ (List.mem_of_getElem? (i := 43) rfl))) (by decide) (backOf (W := 0) (rm5 l Z a0 hw [] b204 (own_pk (p1.toInt64) v165 v165 (p1.toInt64)) T267.heap n0 z268 F267_bestValue) hZ (hw _ (List.mem_of_getElem? (i := 45) rfl)) (hw _ (List.mem_of_getElem? (i := 3) rfl)) (by decide) (by decide)) q285a q285c (g := (mkF m 175 #[.val (.int p1), .val (.int p2), .val (.int p3), .val (.int p4), .val (.int p5), .val (.int p6), .val (.double (FP.l2d (p1.toInt64))), .second, .val (.long (((p6 &&& (3 : Int32)).toInt64) - (1 : Int64))), .second, .val (.double (FP.l2d v165)), .second, .val (.ref b167), .val (.ref b182), .val (.ref b204), .val (.ref bp217), .val (.double (FP.l2d (p5.toInt64))), .second, .val (.double (FP.l2d ((p4.toInt64) - (1 : Int64)))), .second, .val (.int v265), .val (.int (if (p1.toInt64) < v165 then 1 else 0)), .val (.double (FP.l2d v279)), .second, .val (.double (FP.l2d v281)), .second, .val (.double (FP.l2d v283)), .second, .unset, .unset, .unset, .unset] [(.ref b204)])) rfl (by rw [hml]; rfl) (Steps.refl _) (argsL := []) (rest := []) (lenOf pd_5 rfl) rfl (by show 2 * 0 + _ ≤ _; exact Nat.le_of_eq rfl) (hb hby at_175) (fun _ _ => ⟨rfl, rfl, (by decide : 6 + 0 ≤ _), (by decide : 14 + 0 ≤ _)⟩)
  dsimp only [Pt.U, Pt.locs, Pt.cells, Pt.slots] at X285 l285 y285 z285 st285 hQ285
  subst l285 y285 z285
  obtain ⟨rfl, N285q, e285⟩ := hQ285
  have N285 := Fr.app N267 N285q
  refine Goes.of (fun t k => st285.trans k) ?_
  show Goes p e below (T285.setTop (mkF m 178 #[.val (.int p1), .val (.int p2), .val (.int p3), .val (.int p4), .val (.int p5), .val (.int p6), .val (.double (FP.l2d (p1.toInt64))), .second, .val (.long (((p6 &&& (3 : Int32)).toInt64) - (1 : Int64))), .second, .val (.double (FP.l2d v165)), .second, .val (.ref b167), .val (.ref b182), .val (.ref b204), .val (.ref bp217), .val (.double (FP.l2d (p5.toInt64))), .second, .val (.double (FP.l2d ((p4.toInt64) - (1 : Int64)))), .second, .val (.int v265), .val (.int (if (p1.toInt64) < v165 then 1 else 0)), .val (.double (FP.l2d v279)), .second, .val (.double (FP.l2d v281)), .second, .val (.double (FP.l2d v283)), .second, .unset, .unset, .unset, .unset] [(.double (FP.l2d (own_pk (p1.toInt64) v165 v165 (p1.toInt64))))])) _
  refine Goes.of (fun t k => XS.dstore X285.here hx rfl (hb hby at_178) rfl (l' := #[.val (.int p1), .val (.int p2), .val (.int p3), .val (.int p4), .val (.int p5), .val (.int p6), .val (.double (FP.l2d (p1.toInt64))), .second, .val (.long (((p6 &&& (3 : Int32)).toInt64) - (1 : Int64))), .second, .val (.double (FP.l2d v165)), .second, .val (.ref b167), .val (.ref b182), .val (.ref b204), .val (.ref bp217), .val (.double (FP.l2d (p5.toInt64))), .second, .val (.double (FP.l2d ((p4.toInt64) - (1 : Int64)))), .second, .val (.int v265), .val (.int (if (p1.toInt64) < v165 then 1 else 0)), .val (.double (FP.l2d v279)), .second, .val (.double (FP.l2d v281)), .second, .val (.double (FP.l2d v283)), .second, .val (.double (FP.l2d (own_pk (p1.toInt64) v165 v165 (p1.toInt64)))), .second, .unset, .unset]) rfl k) ?_
  show Goes p e below (T285.setTop (mkF m 180 #[.val (.int p1), .val (.int p2), .val (.int p3), .val (.int p4), .val (.int p5), .val (.int p6), .val (.double (FP.l2d (p1.toInt64))), .second, .val (.long (((p6 &&& (3 : Int32)).toInt64) - (1 : Int64))), .second, .val (.double (FP.l2d v165)), .second, .val (.ref b167), .val (.ref b182), .val (.ref b204), .val (.ref bp217), .val (.double (FP.l2d (p5.toInt64))), .second, .val (.double (FP.l2d ((p4.toInt64) - (1 : Int64)))), .second, .val (.int v265), .val (.int (if (p1.toInt64) < v165 then 1 else 0)), .val (.double (FP.l2d v279)), .second, .val (.double (FP.l2d v281)), .second, .val (.double (FP.l2d v283)), .second, .val (.double (FP.l2d (own_pk (p1.toInt64) v165 v165 (p1.toInt64)))), .second, .unset, .unset] [])) _
  refine Goes.of (fun t k => XS.aload X285.here hx rfl (hb hby at_180) rfl rfl k) ?_
  show Goes p e below (T285.setTop (mkF m 182 #[.val (.int p1), .val (.int p2), .val (.int p3), .val (.int p4), .val (.int p5), .val (.int p6), .val (.double (FP.l2d (p1.toInt64))), .second, .val (.long (((p6 &&& (3 : Int32)).toInt64) - (1 : Int64))), .second, .val (.double (FP.l2d v165)), .second, .val (.ref b167), .val (.ref b182), .val (.ref b204), .val (.ref bp217), .val (.double (FP.l2d (p5.toInt64))), .second, .val (.double (FP.l2d ((p4.toInt64) - (1 : Int64)))), .second, .val (.int v265), .val (.int (if (p1.toInt64) < v165 then 1 else 0)), .val (.double (FP.l2d v279)), .second, .val (.double (FP.l2d v281)), .second, .val (.double (FP.l2d v283)), .second, .val (.double (FP.l2d (own_pk (p1.toInt64) v165 v165 (p1.toInt64)))), .second, .unset, .unset] [(.ref b204)])) _
  refine Goes.of (fun t k => XS.dload X285.here hx rfl (hb hby at_182) rfl k) ?_
  show Goes p e below (T285.setTop (mkF m 184 #[.val (.int p1), .val (.int p2), .val (.int p3), .val (.int p4), .val (.int p5), .val (.int p6), .val (.double (FP.l2d (p1.toInt64))), .second, .val (.long (((p6 &&& (3 : Int32)).toInt64) - (1 : Int64))), .second, .val (.double (FP.l2d v165)), .second, .val (.ref b167), .val (.ref b182), .val (.ref b204), .val (.ref bp217), .val (.double (FP.l2d (p5.toInt64))), .second, .val (.double (FP.l2d ((p4.toInt64) - (1 : Int64)))), .second, .val (.int v265), .val (.int (if (p1.toInt64) < v165 then 1 else 0)), .val (.double (FP.l2d v279)), .second, .val (.double (FP.l2d v281)), .second, .val (.double (FP.l2d v283)), .second, .val (.double (FP.l2d (own_pk (p1.toInt64) v165 v165 (p1.toInt64)))), .second, .unset, .unset] [(.double (FP.l2d v279)), (.ref b204)])) _
  obtain ⟨cq286, kq286, q286a, q286b, q286c⟩ := isOf hZ e285 f273
  obtain ⟨_, _, ⟨T286, L286, k286, n286⟩, -, X286, ⟨Lc286, hQ286, l286, y286, z286⟩, st286⟩ := X285.virtualBack hx (y := (⟨"com/example/driftswarm/driftswarm/swarm/Particle", "offerBest", "(D)Z"⟩ : MethodName)) (z := (⟨"com/example/driftswarm/driftswarm/swarm/Particle", "offerBest", "(D)Z"⟩ : MethodName)) hown (mvT hZ (hw _ (List.mem_of_getElem? (i := 32) rfl))) (mvT hZ (hw _ (List.mem_of_getElem? (i := 33) rfl))) (notFace_of_selects (args := #[]) (mvT hZ (hw _ (List.mem_of_getElem? (i := 35) rfl)))) (mvT hZ (hw _ (List.mem_of_getElem? (i := 35) rfl))) (mvT hZ (hw _ (List.mem_of_getElem? (i := 34) rfl))) (by decide) (backOf (W := 0) (rm4 l Z a0 hw [] b204 v279 (own_pk (p1.toInt64) v165 v165 (p1.toInt64)) bp217 bb217 _ _ _ _ _ _ T267.heap n0 z268 f273 g205 g225 F267_position F267_best F267_bestValue VP267 VB267 n1p217 n1b217 npb217 Bev Bw1) hZ (hw _ (List.mem_of_getElem? (i := 36) rfl)) (hw _ (List.mem_of_getElem? (i := 3) rfl)) (by decide) (by decide)) q286a q286c (g := (mkF m 184 #[.val (.int p1), .val (.int p2), .val (.int p3), .val (.int p4), .val (.int p5), .val (.int p6), .val (.double (FP.l2d (p1.toInt64))), .second, .val (.long (((p6 &&& (3 : Int32)).toInt64) - (1 : Int64))), .second, .val (.double (FP.l2d v165)), .second, .val (.ref b167), .val (.ref b182), .val (.ref b204), .val (.ref bp217), .val (.double (FP.l2d (p5.toInt64))), .second, .val (.double (FP.l2d ((p4.toInt64) - (1 : Int64)))), .second, .val (.int v265), .val (.int (if (p1.toInt64) < v165 then 1 else 0)), .val (.double (FP.l2d v279)), .second, .val (.double (FP.l2d v281)), .second, .val (.double (FP.l2d v283)), .second, .val (.double (FP.l2d (own_pk (p1.toInt64) v165 v165 (p1.toInt64)))), .second, .unset, .unset] [(.double (FP.l2d v279)), (.ref b204)])) rfl (by rw [hml]; rfl) (Steps.refl _) (argsL := [(.double (FP.l2d v279))]) (rest := []) (lenOf pd_4 rfl) rfl (by show 2 * 0 + _ ≤ _; exact Nat.le_of_eq rfl) (hb hby at_184) (fun _ _ => ⟨rfl, e285, (by decide : 6 + 0 ≤ _), (by decide : 14 + 0 ≤ _)⟩)
  dsimp only [Pt.U, Pt.locs, Pt.cells, Pt.slots] at X286 l286 y286 z286 st286 hQ286
  subst l286 y286 z286
  obtain ⟨rfl, N286q, K286, E286, F286_position, F286_best, F286_bestValue, VP286, VB286⟩ := hQ286
  have N286 := Fr.app N285 N286q
  have z287 : n0 ≤ T286.heap.size := Nat.le_trans z268 K286.1
  have f288 := f269.keep K286
  have f289 := f270.keep K286 (ninS q207 (ninS q222 nin0))
  have f290 := f271.keep K286
  have f291 := f272.keep K286 (ninS q208 (ninS q223 nin0))
  have f292 := f273.keep K286
  have f293 := VP267.keep K286 (ninS (Ne.symm n1p217) (ninS npb217 nin0))
  refine Goes.of (fun t k => st286.trans k) ?_
  show Goes p e below (T286.setTop (mkF m 187 #[.val (.int p1), .val (.int p2), .val (.int p3), .val (.int p4), .val (.int p5), .val (.int p6), .val (.double (FP.l2d (p1.toInt64))), .second, .val (.long (((p6 &&& (3 : Int32)).toInt64) - (1 : Int64))), .second, .val (.double (FP.l2d v165)), .second, .val (.ref b167), .val (.ref b182), .val (.ref b204), .val (.ref bp217), .val (.double (FP.l2d (p5.toInt64))), .second, .val (.double (FP.l2d ((p4.toInt64) - (1 : Int64)))), .second, .val (.int v265), .val (.int (if (p1.toInt64) < v165 then 1 else 0)), .val (.double (FP.l2d v279)), .second, .val (.double (FP.l2d v281)), .second, .val (.double (FP.l2d v283)), .second, .val (.double (FP.l2d (own_pk (p1.toInt64) v165 v165 (p1.toInt64)))), .second, .unset, .unset] [(.int (if (own_pk (p1.toInt64) v165 v165 (p1.toInt64)) < v279 then 1 else 0))])) _
  refine Goes.of (fun t k => XS.istore X286.here hx rfl (hb hby at_187) rfl (l' := #[.val (.int p1), .val (.int p2), .val (.int p3), .val (.int p4), .val (.int p5), .val (.int p6), .val (.double (FP.l2d (p1.toInt64))), .second, .val (.long (((p6 &&& (3 : Int32)).toInt64) - (1 : Int64))), .second, .val (.double (FP.l2d v165)), .second, .val (.ref b167), .val (.ref b182), .val (.ref b204), .val (.ref bp217), .val (.double (FP.l2d (p5.toInt64))), .second, .val (.double (FP.l2d ((p4.toInt64) - (1 : Int64)))), .second, .val (.int v265), .val (.int (if (p1.toInt64) < v165 then 1 else 0)), .val (.double (FP.l2d v279)), .second, .val (.double (FP.l2d v281)), .second, .val (.double (FP.l2d v283)), .second, .val (.double (FP.l2d (own_pk (p1.toInt64) v165 v165 (p1.toInt64)))), .second, .val (.int (if (own_pk (p1.toInt64) v165 v165 (p1.toInt64)) < v279 then 1 else 0)), .unset]) rfl k) ?_
  show Goes p e below (T286.setTop (mkF m 189 #[.val (.int p1), .val (.int p2), .val (.int p3), .val (.int p4), .val (.int p5), .val (.int p6), .val (.double (FP.l2d (p1.toInt64))), .second, .val (.long (((p6 &&& (3 : Int32)).toInt64) - (1 : Int64))), .second, .val (.double (FP.l2d v165)), .second, .val (.ref b167), .val (.ref b182), .val (.ref b204), .val (.ref bp217), .val (.double (FP.l2d (p5.toInt64))), .second, .val (.double (FP.l2d ((p4.toInt64) - (1 : Int64)))), .second, .val (.int v265), .val (.int (if (p1.toInt64) < v165 then 1 else 0)), .val (.double (FP.l2d v279)), .second, .val (.double (FP.l2d v281)), .second, .val (.double (FP.l2d v283)), .second, .val (.double (FP.l2d (own_pk (p1.toInt64) v165 v165 (p1.toInt64)))), .second, .val (.int (if (own_pk (p1.toInt64) v165 v165 (p1.toInt64)) < v279 then 1 else 0)), .unset] [])) _
  refine Goes.of (fun t k => XS.aload X286.here hx rfl (hb hby at_189) rfl rfl k) ?_
  show Goes p e below (T286.setTop (mkF m 191 #[.val (.int p1), .val (.int p2), .val (.int p3), .val (.int p4), .val (.int p5), .val (.int p6), .val (.double (FP.l2d (p1.toInt64))), .second, .val (.long (((p6 &&& (3 : Int32)).toInt64) - (1 : Int64))), .second, .val (.double (FP.l2d v165)), .second, .val (.ref b167), .val (.ref b182), .val (.ref b204), .val (.ref bp217), .val (.double (FP.l2d (p5.toInt64))), .second, .val (.double (FP.l2d ((p4.toInt64) - (1 : Int64)))), .second, .val (.int v265), .val (.int (if (p1.toInt64) < v165 then 1 else 0)), .val (.double (FP.l2d v279)), .second, .val (.double (FP.l2d v281)), .second, .val (.double (FP.l2d v283)), .second, .val (.double (FP.l2d (own_pk (p1.toInt64) v165 v165 (p1.toInt64)))), .second, .val (.int (if (own_pk (p1.toInt64) v165 v165 (p1.toInt64)) < v279 then 1 else 0)), .unset] [(.ref b204)])) _
  have hno : ¬ ((own_pk (p1.toInt64) v165 v165 (p1.toInt64)) < v279) := by rw [hev]; exact Int64.lt_irrefl
  have hw2 : (own_pk (own_pk (p1.toInt64) v165 v165 (p1.toInt64)) v279 v279 (own_pk (p1.toInt64) v165 v165 (p1.toInt64))) = (own_pk (p1.toInt64) v165 v165 (p1.toInt64)) := by rw [own_pk, if_neg hno]
  have hy0 : (own_pk (own_pk (p1.toInt64) v165 v165 (p1.toInt64)) v279 (p5.toInt64) (own_pk (p1.toInt64) v165 (p5.toInt64) (p3.toInt64))) = v281 := by rw [own_pk, if_neg hno]; exact he0.symm
  have hy1 : (own_pk (own_pk (p1.toInt64) v165 v165 (p1.toInt64)) v279 ((p4.toInt64) - (1 : Int64)) (own_pk (p1.toInt64) v165 ((p4.toInt64) - (1 : Int64)) (p4.toInt64))) = v283 := by rw [own_pk, if_neg hno]; exact he1.symm
  have Bw2 : B53 (own_pk (own_pk (p1.toInt64) v165 v165 (p1.toInt64)) v279 v279 (own_pk (p1.toInt64) v165 v165 (p1.toInt64))) := by rw [hw2]; exact Bw1
  have By0 : B53 (own_pk (own_pk (p1.toInt64) v165 v165 (p1.toInt64)) v279 (p5.toInt64) (own_pk (p1.toInt64) v165 (p5.toInt64) (p3.toInt64))) := by rw [hy0]; exact Be0
  have By1 : B53 (own_pk (own_pk (p1.toInt64) v165 v165 (p1.toInt64)) v279 ((p4.toInt64) - (1 : Int64)) (own_pk (p1.toInt64) v165 ((p4.toInt64) - (1 : Int64)) (p4.toInt64))) := by rw [hy1]; exact Be1
  obtain ⟨cq298, kq298, q298a, q298b, q298c⟩ := isOf hZ rfl f292
  obtain ⟨_, _, ⟨T298, L298, k298, n298⟩, -, X298, ⟨Lc298, hQ298, l298, y298, z298⟩, st298⟩ := X286.virtualBack hx (y := (⟨"com/example/driftswarm/driftswarm/swarm/Particle", "best", "()[D"⟩ : MethodName)) (z := (⟨"com/example/driftswarm/driftswarm/swarm/Particle", "best", "()[D"⟩ : MethodName)) hown (mvT hZ (hw _ (List.mem_of_getElem? (i := 46) rfl))) (mvT hZ (hw _ (List.mem_of_getElem? (i := 47) rfl))) (notFace_of_selects (args := #[]) (mvT hZ (hw _ (List.mem_of_getElem? (i := 49) rfl)))) (mvT hZ (hw _ (List.mem_of_getElem? (i := 49) rfl))) (mvT hZ (hw _ (List.mem_of_getElem? (i := 48) rfl))) (by decide) (backOf (W := 0) (rm6 l Z a0 hw [] b204 bb217 T286.heap n0 z287 F286_best) hZ (hw _ (List.mem_of_getElem? (i := 50) rfl)) (hw _ (List.mem_of_getElem? (i := 3) rfl)) (by decide) (by decide)) q298a q298c (g := (mkF m 191 #[.val (.int p1), .val (.int p2), .val (.int p3), .val (.int p4), .val (.int p5), .val (.int p6), .val (.double (FP.l2d (p1.toInt64))), .second, .val (.long (((p6 &&& (3 : Int32)).toInt64) - (1 : Int64))), .second, .val (.double (FP.l2d v165)), .second, .val (.ref b167), .val (.ref b182), .val (.ref b204), .val (.ref bp217), .val (.double (FP.l2d (p5.toInt64))), .second, .val (.double (FP.l2d ((p4.toInt64) - (1 : Int64)))), .second, .val (.int v265), .val (.int (if (p1.toInt64) < v165 then 1 else 0)), .val (.double (FP.l2d v279)), .second, .val (.double (FP.l2d v281)), .second, .val (.double (FP.l2d v283)), .second, .val (.double (FP.l2d (own_pk (p1.toInt64) v165 v165 (p1.toInt64)))), .second, .val (.int (if (own_pk (p1.toInt64) v165 v165 (p1.toInt64)) < v279 then 1 else 0)), .unset] [(.ref b204)])) rfl (by rw [hml]; rfl) (Steps.refl _) (argsL := []) (rest := []) (lenOf pd_3 rfl) rfl (by show 2 * 0 + _ ≤ _; exact Nat.le_of_eq rfl) (hb hby at_191) (fun _ _ => ⟨rfl, rfl, (by decide : 6 + 0 ≤ _), (by decide : 14 + 0 ≤ _)⟩)
  dsimp only [Pt.U, Pt.locs, Pt.cells, Pt.slots] at X298 l298 y298 z298 st298 hQ298
  subst l298 y298 z298
  obtain ⟨rfl, N298q, e298⟩ := hQ298
  have N298 := Fr.app N286 N298q
  refine Goes.of (fun t k => st298.trans k) ?_
  show Goes p e below (T298.setTop (mkF m 194 #[.val (.int p1), .val (.int p2), .val (.int p3), .val (.int p4), .val (.int p5), .val (.int p6), .val (.double (FP.l2d (p1.toInt64))), .second, .val (.long (((p6 &&& (3 : Int32)).toInt64) - (1 : Int64))), .second, .val (.double (FP.l2d v165)), .second, .val (.ref b167), .val (.ref b182), .val (.ref b204), .val (.ref bp217), .val (.double (FP.l2d (p5.toInt64))), .second, .val (.double (FP.l2d ((p4.toInt64) - (1 : Int64)))), .second, .val (.int v265), .val (.int (if (p1.toInt64) < v165 then 1 else 0)), .val (.double (FP.l2d v279)), .second, .val (.double (FP.l2d v281)), .second, .val (.double (FP.l2d v283)), .second, .val (.double (FP.l2d (own_pk (p1.toInt64) v165 v165 (p1.toInt64)))), .second, .val (.int (if (own_pk (p1.toInt64) v165 v165 (p1.toInt64)) < v279 then 1 else 0)), .unset] [(.ref bb217)])) _
  refine Goes.of (fun t k => XS.astore X298.here hx rfl (hb hby at_194) rfl rfl (l' := #[.val (.int p1), .val (.int p2), .val (.int p3), .val (.int p4), .val (.int p5), .val (.int p6), .val (.double (FP.l2d (p1.toInt64))), .second, .val (.long (((p6 &&& (3 : Int32)).toInt64) - (1 : Int64))), .second, .val (.double (FP.l2d v165)), .second, .val (.ref b167), .val (.ref b182), .val (.ref b204), .val (.ref bp217), .val (.double (FP.l2d (p5.toInt64))), .second, .val (.double (FP.l2d ((p4.toInt64) - (1 : Int64)))), .second, .val (.int v265), .val (.int (if (p1.toInt64) < v165 then 1 else 0)), .val (.double (FP.l2d v279)), .second, .val (.double (FP.l2d v281)), .second, .val (.double (FP.l2d v283)), .second, .val (.double (FP.l2d (own_pk (p1.toInt64) v165 v165 (p1.toInt64)))), .second, .val (.int (if (own_pk (p1.toInt64) v165 v165 (p1.toInt64)) < v279 then 1 else 0)), .val (.ref bb217)]) rfl k) ?_
  show Goes p e below (T298.setTop (mkF m 196 #[.val (.int p1), .val (.int p2), .val (.int p3), .val (.int p4), .val (.int p5), .val (.int p6), .val (.double (FP.l2d (p1.toInt64))), .second, .val (.long (((p6 &&& (3 : Int32)).toInt64) - (1 : Int64))), .second, .val (.double (FP.l2d v165)), .second, .val (.ref b167), .val (.ref b182), .val (.ref b204), .val (.ref bp217), .val (.double (FP.l2d (p5.toInt64))), .second, .val (.double (FP.l2d ((p4.toInt64) - (1 : Int64)))), .second, .val (.int v265), .val (.int (if (p1.toInt64) < v165 then 1 else 0)), .val (.double (FP.l2d v279)), .second, .val (.double (FP.l2d v281)), .second, .val (.double (FP.l2d v283)), .second, .val (.double (FP.l2d (own_pk (p1.toInt64) v165 v165 (p1.toInt64)))), .second, .val (.int (if (own_pk (p1.toInt64) v165 v165 (p1.toInt64)) < v279 then 1 else 0)), .val (.ref bb217)] [])) _
  refine Goes.of (fun t k => XS.iload X298.here hx rfl (hb hby at_196) rfl k) ?_
  show Goes p e below (T298.setTop (mkF m 198 #[.val (.int p1), .val (.int p2), .val (.int p3), .val (.int p4), .val (.int p5), .val (.int p6), .val (.double (FP.l2d (p1.toInt64))), .second, .val (.long (((p6 &&& (3 : Int32)).toInt64) - (1 : Int64))), .second, .val (.double (FP.l2d v165)), .second, .val (.ref b167), .val (.ref b182), .val (.ref b204), .val (.ref bp217), .val (.double (FP.l2d (p5.toInt64))), .second, .val (.double (FP.l2d ((p4.toInt64) - (1 : Int64)))), .second, .val (.int v265), .val (.int (if (p1.toInt64) < v165 then 1 else 0)), .val (.double (FP.l2d v279)), .second, .val (.double (FP.l2d v281)), .second, .val (.double (FP.l2d v283)), .second, .val (.double (FP.l2d (own_pk (p1.toInt64) v165 v165 (p1.toInt64)))), .second, .val (.int (if (own_pk (p1.toInt64) v165 v165 (p1.toInt64)) < v279 then 1 else 0)), .val (.ref bb217)] [(.int (if (p1.toInt64) < v165 then 1 else 0))])) _
  refine Goes.of (fun t k => XS.iload X298.here hx rfl (hb hby at_198) rfl k) ?_
  show Goes p e below (T298.setTop (mkF m 200 #[.val (.int p1), .val (.int p2), .val (.int p3), .val (.int p4), .val (.int p5), .val (.int p6), .val (.double (FP.l2d (p1.toInt64))), .second, .val (.long (((p6 &&& (3 : Int32)).toInt64) - (1 : Int64))), .second, .val (.double (FP.l2d v165)), .second, .val (.ref b167), .val (.ref b182), .val (.ref b204), .val (.ref bp217), .val (.double (FP.l2d (p5.toInt64))), .second, .val (.double (FP.l2d ((p4.toInt64) - (1 : Int64)))), .second, .val (.int v265), .val (.int (if (p1.toInt64) < v165 then 1 else 0)), .val (.double (FP.l2d v279)), .second, .val (.double (FP.l2d v281)), .second, .val (.double (FP.l2d v283)), .second, .val (.double (FP.l2d (own_pk (p1.toInt64) v165 v165 (p1.toInt64)))), .second, .val (.int (if (own_pk (p1.toInt64) v165 v165 (p1.toInt64)) < v279 then 1 else 0)), .val (.ref bb217)] [(.int v265), (.int (if (p1.toInt64) < v165 then 1 else 0))])) _
  have hd200_299 : (if (p1.toInt64) < v165 then 1 else 0) = v265 := hx20.symm
  refine Goes.of (fun t k => XS.icmpNo X298.here hx rfl (hb hby at_200) rfl (teq hd200_299).2 k) ?_
  show Goes p e below (T298.setTop (mkF m 203 #[.val (.int p1), .val (.int p2), .val (.int p3), .val (.int p4), .val (.int p5), .val (.int p6), .val (.double (FP.l2d (p1.toInt64))), .second, .val (.long (((p6 &&& (3 : Int32)).toInt64) - (1 : Int64))), .second, .val (.double (FP.l2d v165)), .second, .val (.ref b167), .val (.ref b182), .val (.ref b204), .val (.ref bp217), .val (.double (FP.l2d (p5.toInt64))), .second, .val (.double (FP.l2d ((p4.toInt64) - (1 : Int64)))), .second, .val (.int v265), .val (.int (if (p1.toInt64) < v165 then 1 else 0)), .val (.double (FP.l2d v279)), .second, .val (.double (FP.l2d v281)), .second, .val (.double (FP.l2d v283)), .second, .val (.double (FP.l2d (own_pk (p1.toInt64) v165 v165 (p1.toInt64)))), .second, .val (.int (if (own_pk (p1.toInt64) v165 v165 (p1.toInt64)) < v279 then 1 else 0)), .val (.ref bb217)] [])) _
  refine Goes.of (fun t k => XS.dload X298.here hx rfl (hb hby at_203) rfl k) ?_
  show Goes p e below (T298.setTop (mkF m 205 #[.val (.int p1), .val (.int p2), .val (.int p3), .val (.int p4), .val (.int p5), .val (.int p6), .val (.double (FP.l2d (p1.toInt64))), .second, .val (.long (((p6 &&& (3 : Int32)).toInt64) - (1 : Int64))), .second, .val (.double (FP.l2d v165)), .second, .val (.ref b167), .val (.ref b182), .val (.ref b204), .val (.ref bp217), .val (.double (FP.l2d (p5.toInt64))), .second, .val (.double (FP.l2d ((p4.toInt64) - (1 : Int64)))), .second, .val (.int v265), .val (.int (if (p1.toInt64) < v165 then 1 else 0)), .val (.double (FP.l2d v279)), .second, .val (.double (FP.l2d v281)), .second, .val (.double (FP.l2d v283)), .second, .val (.double (FP.l2d (own_pk (p1.toInt64) v165 v165 (p1.toInt64)))), .second, .val (.int (if (own_pk (p1.toInt64) v165 v165 (p1.toInt64)) < v279 then 1 else 0)), .val (.ref bb217)] [(.double (FP.l2d (own_pk (p1.toInt64) v165 v165 (p1.toInt64))))])) _
  refine Goes.of (fun t k => XS.dload X298.here hx rfl (hb hby at_205) rfl k) ?_
  show Goes p e below (T298.setTop (mkF m 207 #[.val (.int p1), .val (.int p2), .val (.int p3), .val (.int p4), .val (.int p5), .val (.int p6), .val (.double (FP.l2d (p1.toInt64))), .second, .val (.long (((p6 &&& (3 : Int32)).toInt64) - (1 : Int64))), .second, .val (.double (FP.l2d v165)), .second, .val (.ref b167), .val (.ref b182), .val (.ref b204), .val (.ref bp217), .val (.double (FP.l2d (p5.toInt64))), .second, .val (.double (FP.l2d ((p4.toInt64) - (1 : Int64)))), .second, .val (.int v265), .val (.int (if (p1.toInt64) < v165 then 1 else 0)), .val (.double (FP.l2d v279)), .second, .val (.double (FP.l2d v281)), .second, .val (.double (FP.l2d v283)), .second, .val (.double (FP.l2d (own_pk (p1.toInt64) v165 v165 (p1.toInt64)))), .second, .val (.int (if (own_pk (p1.toInt64) v165 v165 (p1.toInt64)) < v279 then 1 else 0)), .val (.ref bb217)] [(.double (FP.l2d v279)), (.double (FP.l2d (own_pk (p1.toInt64) v165 v165 (p1.toInt64))))])) _
  refine Goes.of (fun t k => XS.dcmpS X298.here hx rfl (hb hby at_207) rfl (dcmpV_w Bw1 Bev .l) k) ?_
  show Goes p e below (T298.setTop (mkF m 208 #[.val (.int p1), .val (.int p2), .val (.int p3), .val (.int p4), .val (.int p5), .val (.int p6), .val (.double (FP.l2d (p1.toInt64))), .second, .val (.long (((p6 &&& (3 : Int32)).toInt64) - (1 : Int64))), .second, .val (.double (FP.l2d v165)), .second, .val (.ref b167), .val (.ref b182), .val (.ref b204), .val (.ref bp217), .val (.double (FP.l2d (p5.toInt64))), .second, .val (.double (FP.l2d ((p4.toInt64) - (1 : Int64)))), .second, .val (.int v265), .val (.int (if (p1.toInt64) < v165 then 1 else 0)), .val (.double (FP.l2d v279)), .second, .val (.double (FP.l2d v281)), .second, .val (.double (FP.l2d v283)), .second, .val (.double (FP.l2d (own_pk (p1.toInt64) v165 v165 (p1.toInt64)))), .second, .val (.int (if (own_pk (p1.toInt64) v165 v165 (p1.toInt64)) < v279 then 1 else 0)), .val (.ref bb217)] [(.int (lcmpW (own_pk (p1.toInt64) v165 v165 (p1.toInt64)) v279))])) _
  have hd208_300 : (own_pk (p1.toInt64) v165 v165 (p1.toInt64)) = v279 := hev.symm
  refine Goes.of (fun t k => XS.ifNo X298.here hx rfl (hb hby at_208) rfl ((if0 _ _).trans (teq ((lw_eq _ _).mpr hd208_300)).2) k) ?_
  show Goes p e below (T298.setTop (mkF m 211 #[.val (.int p1), .val (.int p2), .val (.int p3), .val (.int p4), .val (.int p5), .val (.int p6), .val (.double (FP.l2d (p1.toInt64))), .second, .val (.long (((p6 &&& (3 : Int32)).toInt64) - (1 : Int64))), .second, .val (.double (FP.l2d v165)), .second, .val (.ref b167), .val (.ref b182), .val (.ref b204), .val (.ref bp217), .val (.double (FP.l2d (p5.toInt64))), .second, .val (.double (FP.l2d ((p4.toInt64) - (1 : Int64)))), .second, .val (.int v265), .val (.int (if (p1.toInt64) < v165 then 1 else 0)), .val (.double (FP.l2d v279)), .second, .val (.double (FP.l2d v281)), .second, .val (.double (FP.l2d v283)), .second, .val (.double (FP.l2d (own_pk (p1.toInt64) v165 v165 (p1.toInt64)))), .second, .val (.int (if (own_pk (p1.toInt64) v165 v165 (p1.toInt64)) < v279 then 1 else 0)), .val (.ref bb217)] [])) _
  refine Goes.of (fun t k => XS.iload X298.here hx rfl (hb hby at_211) rfl k) ?_
  show Goes p e below (T298.setTop (mkF m 213 #[.val (.int p1), .val (.int p2), .val (.int p3), .val (.int p4), .val (.int p5), .val (.int p6), .val (.double (FP.l2d (p1.toInt64))), .second, .val (.long (((p6 &&& (3 : Int32)).toInt64) - (1 : Int64))), .second, .val (.double (FP.l2d v165)), .second, .val (.ref b167), .val (.ref b182), .val (.ref b204), .val (.ref bp217), .val (.double (FP.l2d (p5.toInt64))), .second, .val (.double (FP.l2d ((p4.toInt64) - (1 : Int64)))), .second, .val (.int v265), .val (.int (if (p1.toInt64) < v165 then 1 else 0)), .val (.double (FP.l2d v279)), .second, .val (.double (FP.l2d v281)), .second, .val (.double (FP.l2d v283)), .second, .val (.double (FP.l2d (own_pk (p1.toInt64) v165 v165 (p1.toInt64)))), .second, .val (.int (if (own_pk (p1.toInt64) v165 v165 (p1.toInt64)) < v279 then 1 else 0)), .val (.ref bb217)] [(.int (if (own_pk (p1.toInt64) v165 v165 (p1.toInt64)) < v279 then 1 else 0))])) _
  have hd213_301 : (if (own_pk (p1.toInt64) v165 v165 (p1.toInt64)) < v279 then 1 else 0) = (0 : Int32) := by rw [if_neg hno]
  refine Goes.of (fun t k => XS.ifNo X298.here hx rfl (hb hby at_213) rfl ((if0 _ _).trans (teq hd213_301).2) k) ?_
  show Goes p e below (T298.setTop (mkF m 216 #[.val (.int p1), .val (.int p2), .val (.int p3), .val (.int p4), .val (.int p5), .val (.int p6), .val (.double (FP.l2d (p1.toInt64))), .second, .val (.long (((p6 &&& (3 : Int32)).toInt64) - (1 : Int64))), .second, .val (.double (FP.l2d v165)), .second, .val (.ref b167), .val (.ref b182), .val (.ref b204), .val (.ref bp217), .val (.double (FP.l2d (p5.toInt64))), .second, .val (.double (FP.l2d ((p4.toInt64) - (1 : Int64)))), .second, .val (.int v265), .val (.int (if (p1.toInt64) < v165 then 1 else 0)), .val (.double (FP.l2d v279)), .second, .val (.double (FP.l2d v281)), .second, .val (.double (FP.l2d v283)), .second, .val (.double (FP.l2d (own_pk (p1.toInt64) v165 v165 (p1.toInt64)))), .second, .val (.int (if (own_pk (p1.toInt64) v165 v165 (p1.toInt64)) < v279 then 1 else 0)), .val (.ref bb217)] [])) _
  refine Goes.of (fun t k => XS.aload X298.here hx rfl (hb hby at_216) rfl rfl k) ?_
  show Goes p e below (T298.setTop (mkF m 218 #[.val (.int p1), .val (.int p2), .val (.int p3), .val (.int p4), .val (.int p5), .val (.int p6), .val (.double (FP.l2d (p1.toInt64))), .second, .val (.long (((p6 &&& (3 : Int32)).toInt64) - (1 : Int64))), .second, .val (.double (FP.l2d v165)), .second, .val (.ref b167), .val (.ref b182), .val (.ref b204), .val (.ref bp217), .val (.double (FP.l2d (p5.toInt64))), .second, .val (.double (FP.l2d ((p4.toInt64) - (1 : Int64)))), .second, .val (.int v265), .val (.int (if (p1.toInt64) < v165 then 1 else 0)), .val (.double (FP.l2d v279)), .second, .val (.double (FP.l2d v281)), .second, .val (.double (FP.l2d v283)), .second, .val (.double (FP.l2d (own_pk (p1.toInt64) v165 v165 (p1.toInt64)))), .second, .val (.int (if (own_pk (p1.toInt64) v165 v165 (p1.toInt64)) < v279 then 1 else 0)), .val (.ref bb217)] [(.ref b204)])) _
  obtain ⟨cq302, kq302, q302a, q302b, q302c⟩ := isOf hZ e298 f292
  obtain ⟨_, _, ⟨T302, L302, k302, n302⟩, -, X302, ⟨Lc302, hQ302, l302, y302, z302⟩, st302⟩ := X298.virtualBack hx (y := (⟨"com/example/driftswarm/driftswarm/swarm/Particle", "bestValue", "()D"⟩ : MethodName)) (z := (⟨"com/example/driftswarm/driftswarm/swarm/Particle", "bestValue", "()D"⟩ : MethodName)) hown (mvT hZ (hw _ (List.mem_of_getElem? (i := 41) rfl))) (mvT hZ (hw _ (List.mem_of_getElem? (i := 42) rfl))) (notFace_of_selects (args := #[]) (mvT hZ (hw _ (List.mem_of_getElem? (i := 44) rfl)))) (mvT hZ (hw _ (List.mem_of_getElem? (i := 44) rfl))) (mvT hZ (hw _ (List.mem_of_getElem? (i := 43) rfl))) (by decide) (backOf (W := 0) (rm5 l Z a0 hw [] b204 (own_pk (own_pk (p1.toInt64) v165 v165 (p1.toInt64)) v279 v279 (own_pk (p1.toInt64) v165 v165 (p1.toInt64))) T286.heap n0 z287 F286_bestValue) hZ (hw _ (List.mem_of_getElem? (i := 45) rfl)) (hw _ (List.mem_of_getElem? (i := 3) rfl)) (by decide) (by decide)) q302a q302c (g := (mkF m 218 #[.val (.int p1), .val (.int p2), .val (.int p3), .val (.int p4), .val (.int p5), .val (.int p6), .val (.double (FP.l2d (p1.toInt64))), .second, .val (.long (((p6 &&& (3 : Int32)).toInt64) - (1 : Int64))), .second, .val (.double (FP.l2d v165)), .second, .val (.ref b167), .val (.ref b182), .val (.ref b204), .val (.ref bp217), .val (.double (FP.l2d (p5.toInt64))), .second, .val (.double (FP.l2d ((p4.toInt64) - (1 : Int64)))), .second, .val (.int v265), .val (.int (if (p1.toInt64) < v165 then 1 else 0)), .val (.double (FP.l2d v279)), .second, .val (.double (FP.l2d v281)), .second, .val (.double (FP.l2d v283)), .second, .val (.double (FP.l2d (own_pk (p1.toInt64) v165 v165 (p1.toInt64)))), .second, .val (.int (if (own_pk (p1.toInt64) v165 v165 (p1.toInt64)) < v279 then 1 else 0)), .val (.ref bb217)] [(.ref b204)])) rfl (by rw [hml]; rfl) (Steps.refl _) (argsL := []) (rest := []) (lenOf pd_5 rfl) rfl (by show 2 * 0 + _ ≤ _; exact Nat.le_of_eq rfl) (hb hby at_218) (fun _ _ => ⟨rfl, e298, (by decide : 6 + 0 ≤ _), (by decide : 14 + 0 ≤ _)⟩)
  dsimp only [Pt.U, Pt.locs, Pt.cells, Pt.slots] at X302 l302 y302 z302 st302 hQ302
  subst l302 y302 z302
  obtain ⟨rfl, N302q, e302⟩ := hQ302
  have N302 := Fr.app N298 N302q
  refine Goes.of (fun t k => st302.trans k) ?_
  show Goes p e below (T302.setTop (mkF m 221 #[.val (.int p1), .val (.int p2), .val (.int p3), .val (.int p4), .val (.int p5), .val (.int p6), .val (.double (FP.l2d (p1.toInt64))), .second, .val (.long (((p6 &&& (3 : Int32)).toInt64) - (1 : Int64))), .second, .val (.double (FP.l2d v165)), .second, .val (.ref b167), .val (.ref b182), .val (.ref b204), .val (.ref bp217), .val (.double (FP.l2d (p5.toInt64))), .second, .val (.double (FP.l2d ((p4.toInt64) - (1 : Int64)))), .second, .val (.int v265), .val (.int (if (p1.toInt64) < v165 then 1 else 0)), .val (.double (FP.l2d v279)), .second, .val (.double (FP.l2d v281)), .second, .val (.double (FP.l2d v283)), .second, .val (.double (FP.l2d (own_pk (p1.toInt64) v165 v165 (p1.toInt64)))), .second, .val (.int (if (own_pk (p1.toInt64) v165 v165 (p1.toInt64)) < v279 then 1 else 0)), .val (.ref bb217)] [(.double (FP.l2d (own_pk (own_pk (p1.toInt64) v165 v165 (p1.toInt64)) v279 v279 (own_pk (p1.toInt64) v165 v165 (p1.toInt64)))))])) _
  refine Goes.of (fun t k => XS.dload X302.here hx rfl (hb hby at_221) rfl k) ?_
  show Goes p e below (T302.setTop (mkF m 223 #[.val (.int p1), .val (.int p2), .val (.int p3), .val (.int p4), .val (.int p5), .val (.int p6), .val (.double (FP.l2d (p1.toInt64))), .second, .val (.long (((p6 &&& (3 : Int32)).toInt64) - (1 : Int64))), .second, .val (.double (FP.l2d v165)), .second, .val (.ref b167), .val (.ref b182), .val (.ref b204), .val (.ref bp217), .val (.double (FP.l2d (p5.toInt64))), .second, .val (.double (FP.l2d ((p4.toInt64) - (1 : Int64)))), .second, .val (.int v265), .val (.int (if (p1.toInt64) < v165 then 1 else 0)), .val (.double (FP.l2d v279)), .second, .val (.double (FP.l2d v281)), .second, .val (.double (FP.l2d v283)), .second, .val (.double (FP.l2d (own_pk (p1.toInt64) v165 v165 (p1.toInt64)))), .second, .val (.int (if (own_pk (p1.toInt64) v165 v165 (p1.toInt64)) < v279 then 1 else 0)), .val (.ref bb217)] [(.double (FP.l2d v279)), (.double (FP.l2d (own_pk (own_pk (p1.toInt64) v165 v165 (p1.toInt64)) v279 v279 (own_pk (p1.toInt64) v165 v165 (p1.toInt64)))))])) _
  refine Goes.of (fun t k => XS.dcmpS X302.here hx rfl (hb hby at_223) rfl (dcmpV_w Bw2 Bev .l) k) ?_
  show Goes p e below (T302.setTop (mkF m 224 #[.val (.int p1), .val (.int p2), .val (.int p3), .val (.int p4), .val (.int p5), .val (.int p6), .val (.double (FP.l2d (p1.toInt64))), .second, .val (.long (((p6 &&& (3 : Int32)).toInt64) - (1 : Int64))), .second, .val (.double (FP.l2d v165)), .second, .val (.ref b167), .val (.ref b182), .val (.ref b204), .val (.ref bp217), .val (.double (FP.l2d (p5.toInt64))), .second, .val (.double (FP.l2d ((p4.toInt64) - (1 : Int64)))), .second, .val (.int v265), .val (.int (if (p1.toInt64) < v165 then 1 else 0)), .val (.double (FP.l2d v279)), .second, .val (.double (FP.l2d v281)), .second, .val (.double (FP.l2d v283)), .second, .val (.double (FP.l2d (own_pk (p1.toInt64) v165 v165 (p1.toInt64)))), .second, .val (.int (if (own_pk (p1.toInt64) v165 v165 (p1.toInt64)) < v279 then 1 else 0)), .val (.ref bb217)] [(.int (lcmpW (own_pk (own_pk (p1.toInt64) v165 v165 (p1.toInt64)) v279 v279 (own_pk (p1.toInt64) v165 v165 (p1.toInt64))) v279))])) _
  have hd224_303 : (own_pk (own_pk (p1.toInt64) v165 v165 (p1.toInt64)) v279 v279 (own_pk (p1.toInt64) v165 v165 (p1.toInt64))) = v279 := hw2.trans hev.symm
  refine Goes.of (fun t k => XS.ifNo X302.here hx rfl (hb hby at_224) rfl ((if0 _ _).trans (teq ((lw_eq _ _).mpr hd224_303)).2) k) ?_
  show Goes p e below (T302.setTop (mkF m 227 #[.val (.int p1), .val (.int p2), .val (.int p3), .val (.int p4), .val (.int p5), .val (.int p6), .val (.double (FP.l2d (p1.toInt64))), .second, .val (.long (((p6 &&& (3 : Int32)).toInt64) - (1 : Int64))), .second, .val (.double (FP.l2d v165)), .second, .val (.ref b167), .val (.ref b182), .val (.ref b204), .val (.ref bp217), .val (.double (FP.l2d (p5.toInt64))), .second, .val (.double (FP.l2d ((p4.toInt64) - (1 : Int64)))), .second, .val (.int v265), .val (.int (if (p1.toInt64) < v165 then 1 else 0)), .val (.double (FP.l2d v279)), .second, .val (.double (FP.l2d v281)), .second, .val (.double (FP.l2d v283)), .second, .val (.double (FP.l2d (own_pk (p1.toInt64) v165 v165 (p1.toInt64)))), .second, .val (.int (if (own_pk (p1.toInt64) v165 v165 (p1.toInt64)) < v279 then 1 else 0)), .val (.ref bb217)] [])) _
  refine Goes.of (fun t k => XS.aload X302.here hx rfl (hb hby at_227) rfl rfl k) ?_
  show Goes p e below (T302.setTop (mkF m 229 #[.val (.int p1), .val (.int p2), .val (.int p3), .val (.int p4), .val (.int p5), .val (.int p6), .val (.double (FP.l2d (p1.toInt64))), .second, .val (.long (((p6 &&& (3 : Int32)).toInt64) - (1 : Int64))), .second, .val (.double (FP.l2d v165)), .second, .val (.ref b167), .val (.ref b182), .val (.ref b204), .val (.ref bp217), .val (.double (FP.l2d (p5.toInt64))), .second, .val (.double (FP.l2d ((p4.toInt64) - (1 : Int64)))), .second, .val (.int v265), .val (.int (if (p1.toInt64) < v165 then 1 else 0)), .val (.double (FP.l2d v279)), .second, .val (.double (FP.l2d v281)), .second, .val (.double (FP.l2d v283)), .second, .val (.double (FP.l2d (own_pk (p1.toInt64) v165 v165 (p1.toInt64)))), .second, .val (.int (if (own_pk (p1.toInt64) v165 v165 (p1.toInt64)) < v279 then 1 else 0)), .val (.ref bb217)] [(.ref bb217)])) _
  have Vc304 := VB286
  obtain ⟨clc304, Arc304, qc304, Sc304, Nc304, Hc304, Gc304⟩ := Vc304
  refine Goes.of (X302.arraylength hx (by rw [e302]; exact Arc304.1) (State.isArrayOf_alike hZ.alike Arc304.2.1) (g := (mkF m 229 #[.val (.int p1), .val (.int p2), .val (.int p3), .val (.int p4), .val (.int p5), .val (.int p6), .val (.double (FP.l2d (p1.toInt64))), .second, .val (.long (((p6 &&& (3 : Int32)).toInt64) - (1 : Int64))), .second, .val (.double (FP.l2d v165)), .second, .val (.ref b167), .val (.ref b182), .val (.ref b204), .val (.ref bp217), .val (.double (FP.l2d (p5.toInt64))), .second, .val (.double (FP.l2d ((p4.toInt64) - (1 : Int64)))), .second, .val (.int v265), .val (.int (if (p1.toInt64) < v165 then 1 else 0)), .val (.double (FP.l2d v279)), .second, .val (.double (FP.l2d v281)), .second, .val (.double (FP.l2d v283)), .second, .val (.double (FP.l2d (own_pk (p1.toInt64) v165 v165 (p1.toInt64)))), .second, .val (.int (if (own_pk (p1.toInt64) v165 v165 (p1.toInt64)) < v279 then 1 else 0)), .val (.ref bb217)] [(.ref bb217)])) rfl rfl (hb hby at_229)) ?_
  rw [len_of Sc304 Nc304]
  show Goes p e below (T302.setTop (mkF m 230 #[.val (.int p1), .val (.int p2), .val (.int p3), .val (.int p4), .val (.int p5), .val (.int p6), .val (.double (FP.l2d (p1.toInt64))), .second, .val (.long (((p6 &&& (3 : Int32)).toInt64) - (1 : Int64))), .second, .val (.double (FP.l2d v165)), .second, .val (.ref b167), .val (.ref b182), .val (.ref b204), .val (.ref bp217), .val (.double (FP.l2d (p5.toInt64))), .second, .val (.double (FP.l2d ((p4.toInt64) - (1 : Int64)))), .second, .val (.int v265), .val (.int (if (p1.toInt64) < v165 then 1 else 0)), .val (.double (FP.l2d v279)), .second, .val (.double (FP.l2d v281)), .second, .val (.double (FP.l2d v283)), .second, .val (.double (FP.l2d (own_pk (p1.toInt64) v165 v165 (p1.toInt64)))), .second, .val (.int (if (own_pk (p1.toInt64) v165 v165 (p1.toInt64)) < v279 then 1 else 0)), .val (.ref bb217)] [(.int (2 : Int32))])) _
  refine Goes.of (fun t k => XS.iconst X302.here hx rfl (hb hby at_230) k) ?_
  show Goes p e below (T302.setTop (mkF m 231 #[.val (.int p1), .val (.int p2), .val (.int p3), .val (.int p4), .val (.int p5), .val (.int p6), .val (.double (FP.l2d (p1.toInt64))), .second, .val (.long (((p6 &&& (3 : Int32)).toInt64) - (1 : Int64))), .second, .val (.double (FP.l2d v165)), .second, .val (.ref b167), .val (.ref b182), .val (.ref b204), .val (.ref bp217), .val (.double (FP.l2d (p5.toInt64))), .second, .val (.double (FP.l2d ((p4.toInt64) - (1 : Int64)))), .second, .val (.int v265), .val (.int (if (p1.toInt64) < v165 then 1 else 0)), .val (.double (FP.l2d v279)), .second, .val (.double (FP.l2d v281)), .second, .val (.double (FP.l2d v283)), .second, .val (.double (FP.l2d (own_pk (p1.toInt64) v165 v165 (p1.toInt64)))), .second, .val (.int (if (own_pk (p1.toInt64) v165 v165 (p1.toInt64)) < v279 then 1 else 0)), .val (.ref bb217)] [(.int (2 : Int32)), (.int (2 : Int32))])) _
  refine Goes.of (fun t k => XS.icmpNo X302.here hx rfl (hb hby at_231) rfl (teq (by decide)).2 k) ?_
  show Goes p e below (T302.setTop (mkF m 234 #[.val (.int p1), .val (.int p2), .val (.int p3), .val (.int p4), .val (.int p5), .val (.int p6), .val (.double (FP.l2d (p1.toInt64))), .second, .val (.long (((p6 &&& (3 : Int32)).toInt64) - (1 : Int64))), .second, .val (.double (FP.l2d v165)), .second, .val (.ref b167), .val (.ref b182), .val (.ref b204), .val (.ref bp217), .val (.double (FP.l2d (p5.toInt64))), .second, .val (.double (FP.l2d ((p4.toInt64) - (1 : Int64)))), .second, .val (.int v265), .val (.int (if (p1.toInt64) < v165 then 1 else 0)), .val (.double (FP.l2d v279)), .second, .val (.double (FP.l2d v281)), .second, .val (.double (FP.l2d v283)), .second, .val (.double (FP.l2d (own_pk (p1.toInt64) v165 v165 (p1.toInt64)))), .second, .val (.int (if (own_pk (p1.toInt64) v165 v165 (p1.toInt64)) < v279 then 1 else 0)), .val (.ref bb217)] [])) _
  refine Goes.of (fun t k => XS.aload X302.here hx rfl (hb hby at_234) rfl rfl k) ?_
  show Goes p e below (T302.setTop (mkF m 236 #[.val (.int p1), .val (.int p2), .val (.int p3), .val (.int p4), .val (.int p5), .val (.int p6), .val (.double (FP.l2d (p1.toInt64))), .second, .val (.long (((p6 &&& (3 : Int32)).toInt64) - (1 : Int64))), .second, .val (.double (FP.l2d v165)), .second, .val (.ref b167), .val (.ref b182), .val (.ref b204), .val (.ref bp217), .val (.double (FP.l2d (p5.toInt64))), .second, .val (.double (FP.l2d ((p4.toInt64) - (1 : Int64)))), .second, .val (.int v265), .val (.int (if (p1.toInt64) < v165 then 1 else 0)), .val (.double (FP.l2d v279)), .second, .val (.double (FP.l2d v281)), .second, .val (.double (FP.l2d v283)), .second, .val (.double (FP.l2d (own_pk (p1.toInt64) v165 v165 (p1.toInt64)))), .second, .val (.int (if (own_pk (p1.toInt64) v165 v165 (p1.toInt64)) < v279 then 1 else 0)), .val (.ref bb217)] [(.ref bb217)])) _
  refine Goes.of (fun t k => XS.iconst X302.here hx rfl (hb hby at_236) k) ?_
  show Goes p e below (T302.setTop (mkF m 237 #[.val (.int p1), .val (.int p2), .val (.int p3), .val (.int p4), .val (.int p5), .val (.int p6), .val (.double (FP.l2d (p1.toInt64))), .second, .val (.long (((p6 &&& (3 : Int32)).toInt64) - (1 : Int64))), .second, .val (.double (FP.l2d v165)), .second, .val (.ref b167), .val (.ref b182), .val (.ref b204), .val (.ref bp217), .val (.double (FP.l2d (p5.toInt64))), .second, .val (.double (FP.l2d ((p4.toInt64) - (1 : Int64)))), .second, .val (.int v265), .val (.int (if (p1.toInt64) < v165 then 1 else 0)), .val (.double (FP.l2d v279)), .second, .val (.double (FP.l2d v281)), .second, .val (.double (FP.l2d v283)), .second, .val (.double (FP.l2d (own_pk (p1.toInt64) v165 v165 (p1.toInt64)))), .second, .val (.int (if (own_pk (p1.toInt64) v165 v165 (p1.toInt64)) < v279 then 1 else 0)), .val (.ref bb217)] [(.int (0 : Int32)), (.ref bb217)])) _
  have Vc305 := VB286
  obtain ⟨clc305, Arc305, qc305, Sc305, Nc305, Hc305, Gc305⟩ := Vc305
  have hin306 : ¬ ((0 : Int32) < 0 ∨ clc305.slots.size ≤ ((0 : Int32)).toNatClampNeg) := inb_of Sc305 ⟨by decide, by decide⟩
  have hat307 : clc305.slots[((0 : Int32)).toNatClampNeg]? = some (.double (FP.l2d (own_pk (own_pk (p1.toInt64) v165 v165 (p1.toInt64)) v279 (p5.toInt64) (own_pk (p1.toInt64) v165 (p5.toInt64) (p3.toInt64))))) := Hc305.at hin306 rfl
  refine Goes.of (fun t k => X302.daload hx (j := (0 : Int32)) (v := (.double (FP.l2d (own_pk (own_pk (p1.toInt64) v165 v165 (p1.toInt64)) v279 (p5.toInt64) (own_pk (p1.toInt64) v165 (p5.toInt64) (p3.toInt64)))))) (by rw [e302]; exact Arc305.1) (State.isArrayOf_alike hZ.alike Arc305.2.1) Arc305.2.2 hin306 hat307 (g := (mkF m 237 #[.val (.int p1), .val (.int p2), .val (.int p3), .val (.int p4), .val (.int p5), .val (.int p6), .val (.double (FP.l2d (p1.toInt64))), .second, .val (.long (((p6 &&& (3 : Int32)).toInt64) - (1 : Int64))), .second, .val (.double (FP.l2d v165)), .second, .val (.ref b167), .val (.ref b182), .val (.ref b204), .val (.ref bp217), .val (.double (FP.l2d (p5.toInt64))), .second, .val (.double (FP.l2d ((p4.toInt64) - (1 : Int64)))), .second, .val (.int v265), .val (.int (if (p1.toInt64) < v165 then 1 else 0)), .val (.double (FP.l2d v279)), .second, .val (.double (FP.l2d v281)), .second, .val (.double (FP.l2d v283)), .second, .val (.double (FP.l2d (own_pk (p1.toInt64) v165 v165 (p1.toInt64)))), .second, .val (.int (if (own_pk (p1.toInt64) v165 v165 (p1.toInt64)) < v279 then 1 else 0)), .val (.ref bb217)] [(.int (0 : Int32)), (.ref bb217)])) rfl rfl (hb hby at_237) _ k) ?_
  show Goes p e below (T302.setTop (mkF m 238 #[.val (.int p1), .val (.int p2), .val (.int p3), .val (.int p4), .val (.int p5), .val (.int p6), .val (.double (FP.l2d (p1.toInt64))), .second, .val (.long (((p6 &&& (3 : Int32)).toInt64) - (1 : Int64))), .second, .val (.double (FP.l2d v165)), .second, .val (.ref b167), .val (.ref b182), .val (.ref b204), .val (.ref bp217), .val (.double (FP.l2d (p5.toInt64))), .second, .val (.double (FP.l2d ((p4.toInt64) - (1 : Int64)))), .second, .val (.int v265), .val (.int (if (p1.toInt64) < v165 then 1 else 0)), .val (.double (FP.l2d v279)), .second, .val (.double (FP.l2d v281)), .second, .val (.double (FP.l2d v283)), .second, .val (.double (FP.l2d (own_pk (p1.toInt64) v165 v165 (p1.toInt64)))), .second, .val (.int (if (own_pk (p1.toInt64) v165 v165 (p1.toInt64)) < v279 then 1 else 0)), .val (.ref bb217)] [(.double (FP.l2d (own_pk (own_pk (p1.toInt64) v165 v165 (p1.toInt64)) v279 (p5.toInt64) (own_pk (p1.toInt64) v165 (p5.toInt64) (p3.toInt64)))))])) _
  refine Goes.of (fun t k => XS.dload X302.here hx rfl (hb hby at_238) rfl k) ?_
  show Goes p e below (T302.setTop (mkF m 240 #[.val (.int p1), .val (.int p2), .val (.int p3), .val (.int p4), .val (.int p5), .val (.int p6), .val (.double (FP.l2d (p1.toInt64))), .second, .val (.long (((p6 &&& (3 : Int32)).toInt64) - (1 : Int64))), .second, .val (.double (FP.l2d v165)), .second, .val (.ref b167), .val (.ref b182), .val (.ref b204), .val (.ref bp217), .val (.double (FP.l2d (p5.toInt64))), .second, .val (.double (FP.l2d ((p4.toInt64) - (1 : Int64)))), .second, .val (.int v265), .val (.int (if (p1.toInt64) < v165 then 1 else 0)), .val (.double (FP.l2d v279)), .second, .val (.double (FP.l2d v281)), .second, .val (.double (FP.l2d v283)), .second, .val (.double (FP.l2d (own_pk (p1.toInt64) v165 v165 (p1.toInt64)))), .second, .val (.int (if (own_pk (p1.toInt64) v165 v165 (p1.toInt64)) < v279 then 1 else 0)), .val (.ref bb217)] [(.double (FP.l2d v281)), (.double (FP.l2d (own_pk (own_pk (p1.toInt64) v165 v165 (p1.toInt64)) v279 (p5.toInt64) (own_pk (p1.toInt64) v165 (p5.toInt64) (p3.toInt64)))))])) _
  refine Goes.of (fun t k => XS.dcmpS X302.here hx rfl (hb hby at_240) rfl (dcmpV_w By0 Be0 .l) k) ?_
  show Goes p e below (T302.setTop (mkF m 241 #[.val (.int p1), .val (.int p2), .val (.int p3), .val (.int p4), .val (.int p5), .val (.int p6), .val (.double (FP.l2d (p1.toInt64))), .second, .val (.long (((p6 &&& (3 : Int32)).toInt64) - (1 : Int64))), .second, .val (.double (FP.l2d v165)), .second, .val (.ref b167), .val (.ref b182), .val (.ref b204), .val (.ref bp217), .val (.double (FP.l2d (p5.toInt64))), .second, .val (.double (FP.l2d ((p4.toInt64) - (1 : Int64)))), .second, .val (.int v265), .val (.int (if (p1.toInt64) < v165 then 1 else 0)), .val (.double (FP.l2d v279)), .second, .val (.double (FP.l2d v281)), .second, .val (.double (FP.l2d v283)), .second, .val (.double (FP.l2d (own_pk (p1.toInt64) v165 v165 (p1.toInt64)))), .second, .val (.int (if (own_pk (p1.toInt64) v165 v165 (p1.toInt64)) < v279 then 1 else 0)), .val (.ref bb217)] [(.int (lcmpW (own_pk (own_pk (p1.toInt64) v165 v165 (p1.toInt64)) v279 (p5.toInt64) (own_pk (p1.toInt64) v165 (p5.toInt64) (p3.toInt64))) v281))])) _
  have hd241_308 : (own_pk (own_pk (p1.toInt64) v165 v165 (p1.toInt64)) v279 (p5.toInt64) (own_pk (p1.toInt64) v165 (p5.toInt64) (p3.toInt64))) = v281 := hy0
  refine Goes.of (fun t k => XS.ifNo X302.here hx rfl (hb hby at_241) rfl ((if0 _ _).trans (teq ((lw_eq _ _).mpr hd241_308)).2) k) ?_
  show Goes p e below (T302.setTop (mkF m 244 #[.val (.int p1), .val (.int p2), .val (.int p3), .val (.int p4), .val (.int p5), .val (.int p6), .val (.double (FP.l2d (p1.toInt64))), .second, .val (.long (((p6 &&& (3 : Int32)).toInt64) - (1 : Int64))), .second, .val (.double (FP.l2d v165)), .second, .val (.ref b167), .val (.ref b182), .val (.ref b204), .val (.ref bp217), .val (.double (FP.l2d (p5.toInt64))), .second, .val (.double (FP.l2d ((p4.toInt64) - (1 : Int64)))), .second, .val (.int v265), .val (.int (if (p1.toInt64) < v165 then 1 else 0)), .val (.double (FP.l2d v279)), .second, .val (.double (FP.l2d v281)), .second, .val (.double (FP.l2d v283)), .second, .val (.double (FP.l2d (own_pk (p1.toInt64) v165 v165 (p1.toInt64)))), .second, .val (.int (if (own_pk (p1.toInt64) v165 v165 (p1.toInt64)) < v279 then 1 else 0)), .val (.ref bb217)] [])) _
  refine Goes.of (fun t k => XS.aload X302.here hx rfl (hb hby at_244) rfl rfl k) ?_
  show Goes p e below (T302.setTop (mkF m 246 #[.val (.int p1), .val (.int p2), .val (.int p3), .val (.int p4), .val (.int p5), .val (.int p6), .val (.double (FP.l2d (p1.toInt64))), .second, .val (.long (((p6 &&& (3 : Int32)).toInt64) - (1 : Int64))), .second, .val (.double (FP.l2d v165)), .second, .val (.ref b167), .val (.ref b182), .val (.ref b204), .val (.ref bp217), .val (.double (FP.l2d (p5.toInt64))), .second, .val (.double (FP.l2d ((p4.toInt64) - (1 : Int64)))), .second, .val (.int v265), .val (.int (if (p1.toInt64) < v165 then 1 else 0)), .val (.double (FP.l2d v279)), .second, .val (.double (FP.l2d v281)), .second, .val (.double (FP.l2d v283)), .second, .val (.double (FP.l2d (own_pk (p1.toInt64) v165 v165 (p1.toInt64)))), .second, .val (.int (if (own_pk (p1.toInt64) v165 v165 (p1.toInt64)) < v279 then 1 else 0)), .val (.ref bb217)] [(.ref bb217)])) _
  refine Goes.of (fun t k => XS.iconst X302.here hx rfl (hb hby at_246) k) ?_
  show Goes p e below (T302.setTop (mkF m 247 #[.val (.int p1), .val (.int p2), .val (.int p3), .val (.int p4), .val (.int p5), .val (.int p6), .val (.double (FP.l2d (p1.toInt64))), .second, .val (.long (((p6 &&& (3 : Int32)).toInt64) - (1 : Int64))), .second, .val (.double (FP.l2d v165)), .second, .val (.ref b167), .val (.ref b182), .val (.ref b204), .val (.ref bp217), .val (.double (FP.l2d (p5.toInt64))), .second, .val (.double (FP.l2d ((p4.toInt64) - (1 : Int64)))), .second, .val (.int v265), .val (.int (if (p1.toInt64) < v165 then 1 else 0)), .val (.double (FP.l2d v279)), .second, .val (.double (FP.l2d v281)), .second, .val (.double (FP.l2d v283)), .second, .val (.double (FP.l2d (own_pk (p1.toInt64) v165 v165 (p1.toInt64)))), .second, .val (.int (if (own_pk (p1.toInt64) v165 v165 (p1.toInt64)) < v279 then 1 else 0)), .val (.ref bb217)] [(.int (1 : Int32)), (.ref bb217)])) _
  have Vc309 := VB286
  obtain ⟨clc309, Arc309, qc309, Sc309, Nc309, Hc309, Gc309⟩ := Vc309
  have hin310 : ¬ ((1 : Int32) < 0 ∨ clc309.slots.size ≤ ((1 : Int32)).toNatClampNeg) := inb_of Sc309 ⟨by decide, by decide⟩
  have hat311 : clc309.slots[((1 : Int32)).toNatClampNeg]? = some (.double (FP.l2d (own_pk (own_pk (p1.toInt64) v165 v165 (p1.toInt64)) v279 ((p4.toInt64) - (1 : Int64)) (own_pk (p1.toInt64) v165 ((p4.toInt64) - (1 : Int64)) (p4.toInt64))))) := Hc309.at hin310 rfl
  refine Goes.of (fun t k => X302.daload hx (j := (1 : Int32)) (v := (.double (FP.l2d (own_pk (own_pk (p1.toInt64) v165 v165 (p1.toInt64)) v279 ((p4.toInt64) - (1 : Int64)) (own_pk (p1.toInt64) v165 ((p4.toInt64) - (1 : Int64)) (p4.toInt64)))))) (by rw [e302]; exact Arc309.1) (State.isArrayOf_alike hZ.alike Arc309.2.1) Arc309.2.2 hin310 hat311 (g := (mkF m 247 #[.val (.int p1), .val (.int p2), .val (.int p3), .val (.int p4), .val (.int p5), .val (.int p6), .val (.double (FP.l2d (p1.toInt64))), .second, .val (.long (((p6 &&& (3 : Int32)).toInt64) - (1 : Int64))), .second, .val (.double (FP.l2d v165)), .second, .val (.ref b167), .val (.ref b182), .val (.ref b204), .val (.ref bp217), .val (.double (FP.l2d (p5.toInt64))), .second, .val (.double (FP.l2d ((p4.toInt64) - (1 : Int64)))), .second, .val (.int v265), .val (.int (if (p1.toInt64) < v165 then 1 else 0)), .val (.double (FP.l2d v279)), .second, .val (.double (FP.l2d v281)), .second, .val (.double (FP.l2d v283)), .second, .val (.double (FP.l2d (own_pk (p1.toInt64) v165 v165 (p1.toInt64)))), .second, .val (.int (if (own_pk (p1.toInt64) v165 v165 (p1.toInt64)) < v279 then 1 else 0)), .val (.ref bb217)] [(.int (1 : Int32)), (.ref bb217)])) rfl rfl (hb hby at_247) _ k) ?_
  show Goes p e below (T302.setTop (mkF m 248 #[.val (.int p1), .val (.int p2), .val (.int p3), .val (.int p4), .val (.int p5), .val (.int p6), .val (.double (FP.l2d (p1.toInt64))), .second, .val (.long (((p6 &&& (3 : Int32)).toInt64) - (1 : Int64))), .second, .val (.double (FP.l2d v165)), .second, .val (.ref b167), .val (.ref b182), .val (.ref b204), .val (.ref bp217), .val (.double (FP.l2d (p5.toInt64))), .second, .val (.double (FP.l2d ((p4.toInt64) - (1 : Int64)))), .second, .val (.int v265), .val (.int (if (p1.toInt64) < v165 then 1 else 0)), .val (.double (FP.l2d v279)), .second, .val (.double (FP.l2d v281)), .second, .val (.double (FP.l2d v283)), .second, .val (.double (FP.l2d (own_pk (p1.toInt64) v165 v165 (p1.toInt64)))), .second, .val (.int (if (own_pk (p1.toInt64) v165 v165 (p1.toInt64)) < v279 then 1 else 0)), .val (.ref bb217)] [(.double (FP.l2d (own_pk (own_pk (p1.toInt64) v165 v165 (p1.toInt64)) v279 ((p4.toInt64) - (1 : Int64)) (own_pk (p1.toInt64) v165 ((p4.toInt64) - (1 : Int64)) (p4.toInt64)))))])) _
  refine Goes.of (fun t k => XS.dload X302.here hx rfl (hb hby at_248) rfl k) ?_
  show Goes p e below (T302.setTop (mkF m 250 #[.val (.int p1), .val (.int p2), .val (.int p3), .val (.int p4), .val (.int p5), .val (.int p6), .val (.double (FP.l2d (p1.toInt64))), .second, .val (.long (((p6 &&& (3 : Int32)).toInt64) - (1 : Int64))), .second, .val (.double (FP.l2d v165)), .second, .val (.ref b167), .val (.ref b182), .val (.ref b204), .val (.ref bp217), .val (.double (FP.l2d (p5.toInt64))), .second, .val (.double (FP.l2d ((p4.toInt64) - (1 : Int64)))), .second, .val (.int v265), .val (.int (if (p1.toInt64) < v165 then 1 else 0)), .val (.double (FP.l2d v279)), .second, .val (.double (FP.l2d v281)), .second, .val (.double (FP.l2d v283)), .second, .val (.double (FP.l2d (own_pk (p1.toInt64) v165 v165 (p1.toInt64)))), .second, .val (.int (if (own_pk (p1.toInt64) v165 v165 (p1.toInt64)) < v279 then 1 else 0)), .val (.ref bb217)] [(.double (FP.l2d v283)), (.double (FP.l2d (own_pk (own_pk (p1.toInt64) v165 v165 (p1.toInt64)) v279 ((p4.toInt64) - (1 : Int64)) (own_pk (p1.toInt64) v165 ((p4.toInt64) - (1 : Int64)) (p4.toInt64)))))])) _
  refine Goes.of (fun t k => XS.dcmpS X302.here hx rfl (hb hby at_250) rfl (dcmpV_w By1 Be1 .l) k) ?_
  show Goes p e below (T302.setTop (mkF m 251 #[.val (.int p1), .val (.int p2), .val (.int p3), .val (.int p4), .val (.int p5), .val (.int p6), .val (.double (FP.l2d (p1.toInt64))), .second, .val (.long (((p6 &&& (3 : Int32)).toInt64) - (1 : Int64))), .second, .val (.double (FP.l2d v165)), .second, .val (.ref b167), .val (.ref b182), .val (.ref b204), .val (.ref bp217), .val (.double (FP.l2d (p5.toInt64))), .second, .val (.double (FP.l2d ((p4.toInt64) - (1 : Int64)))), .second, .val (.int v265), .val (.int (if (p1.toInt64) < v165 then 1 else 0)), .val (.double (FP.l2d v279)), .second, .val (.double (FP.l2d v281)), .second, .val (.double (FP.l2d v283)), .second, .val (.double (FP.l2d (own_pk (p1.toInt64) v165 v165 (p1.toInt64)))), .second, .val (.int (if (own_pk (p1.toInt64) v165 v165 (p1.toInt64)) < v279 then 1 else 0)), .val (.ref bb217)] [(.int (lcmpW (own_pk (own_pk (p1.toInt64) v165 v165 (p1.toInt64)) v279 ((p4.toInt64) - (1 : Int64)) (own_pk (p1.toInt64) v165 ((p4.toInt64) - (1 : Int64)) (p4.toInt64))) v283))])) _
  have hd251_312 : (own_pk (own_pk (p1.toInt64) v165 v165 (p1.toInt64)) v279 ((p4.toInt64) - (1 : Int64)) (own_pk (p1.toInt64) v165 ((p4.toInt64) - (1 : Int64)) (p4.toInt64))) = v283 := hy1
  refine Goes.of (fun t k => XS.ifNo X302.here hx rfl (hb hby at_251) rfl ((if0 _ _).trans (teq ((lw_eq _ _).mpr hd251_312)).2) k) ?_
  show Goes p e below (T302.setTop (mkF m 254 #[.val (.int p1), .val (.int p2), .val (.int p3), .val (.int p4), .val (.int p5), .val (.int p6), .val (.double (FP.l2d (p1.toInt64))), .second, .val (.long (((p6 &&& (3 : Int32)).toInt64) - (1 : Int64))), .second, .val (.double (FP.l2d v165)), .second, .val (.ref b167), .val (.ref b182), .val (.ref b204), .val (.ref bp217), .val (.double (FP.l2d (p5.toInt64))), .second, .val (.double (FP.l2d ((p4.toInt64) - (1 : Int64)))), .second, .val (.int v265), .val (.int (if (p1.toInt64) < v165 then 1 else 0)), .val (.double (FP.l2d v279)), .second, .val (.double (FP.l2d v281)), .second, .val (.double (FP.l2d v283)), .second, .val (.double (FP.l2d (own_pk (p1.toInt64) v165 v165 (p1.toInt64)))), .second, .val (.int (if (own_pk (p1.toInt64) v165 v165 (p1.toInt64)) < v279 then 1 else 0)), .val (.ref bb217)] [])) _
  refine Goes.of (fun t k => XS.aload X302.here hx rfl (hb hby at_254) rfl rfl k) ?_
  show Goes p e below (T302.setTop (mkF m 256 #[.val (.int p1), .val (.int p2), .val (.int p3), .val (.int p4), .val (.int p5), .val (.int p6), .val (.double (FP.l2d (p1.toInt64))), .second, .val (.long (((p6 &&& (3 : Int32)).toInt64) - (1 : Int64))), .second, .val (.double (FP.l2d v165)), .second, .val (.ref b167), .val (.ref b182), .val (.ref b204), .val (.ref bp217), .val (.double (FP.l2d (p5.toInt64))), .second, .val (.double (FP.l2d ((p4.toInt64) - (1 : Int64)))), .second, .val (.int v265), .val (.int (if (p1.toInt64) < v165 then 1 else 0)), .val (.double (FP.l2d v279)), .second, .val (.double (FP.l2d v281)), .second, .val (.double (FP.l2d v283)), .second, .val (.double (FP.l2d (own_pk (p1.toInt64) v165 v165 (p1.toInt64)))), .second, .val (.int (if (own_pk (p1.toInt64) v165 v165 (p1.toInt64)) < v279 then 1 else 0)), .val (.ref bb217)] [(.ref bp217)])) _
  refine Goes.of (fun t k => XS.iconst X302.here hx rfl (hb hby at_256) k) ?_
  show Goes p e below (T302.setTop (mkF m 257 #[.val (.int p1), .val (.int p2), .val (.int p3), .val (.int p4), .val (.int p5), .val (.int p6), .val (.double (FP.l2d (p1.toInt64))), .second, .val (.long (((p6 &&& (3 : Int32)).toInt64) - (1 : Int64))), .second, .val (.double (FP.l2d v165)), .second, .val (.ref b167), .val (.ref b182), .val (.ref b204), .val (.ref bp217), .val (.double (FP.l2d (p5.toInt64))), .second, .val (.double (FP.l2d ((p4.toInt64) - (1 : Int64)))), .second, .val (.int v265), .val (.int (if (p1.toInt64) < v165 then 1 else 0)), .val (.double (FP.l2d v279)), .second, .val (.double (FP.l2d v281)), .second, .val (.double (FP.l2d v283)), .second, .val (.double (FP.l2d (own_pk (p1.toInt64) v165 v165 (p1.toInt64)))), .second, .val (.int (if (own_pk (p1.toInt64) v165 v165 (p1.toInt64)) < v279 then 1 else 0)), .val (.ref bb217)] [(.int (0 : Int32)), (.ref bp217)])) _
  have Vc313 := VP286
  obtain ⟨clc313, Arc313, qc313, Sc313, Nc313, Hc313, Gc313⟩ := Vc313
  have hin314 : ¬ ((0 : Int32) < 0 ∨ clc313.slots.size ≤ ((0 : Int32)).toNatClampNeg) := inb_of Sc313 ⟨by decide, by decide⟩
  have hat315 : clc313.slots[((0 : Int32)).toNatClampNeg]? = some (.double (FP.l2d (p5.toInt64))) := Hc313.at hin314 rfl
  refine Goes.of (fun t k => X302.daload hx (j := (0 : Int32)) (v := (.double (FP.l2d (p5.toInt64)))) (by rw [e302]; exact Arc313.1) (State.isArrayOf_alike hZ.alike Arc313.2.1) Arc313.2.2 hin314 hat315 (g := (mkF m 257 #[.val (.int p1), .val (.int p2), .val (.int p3), .val (.int p4), .val (.int p5), .val (.int p6), .val (.double (FP.l2d (p1.toInt64))), .second, .val (.long (((p6 &&& (3 : Int32)).toInt64) - (1 : Int64))), .second, .val (.double (FP.l2d v165)), .second, .val (.ref b167), .val (.ref b182), .val (.ref b204), .val (.ref bp217), .val (.double (FP.l2d (p5.toInt64))), .second, .val (.double (FP.l2d ((p4.toInt64) - (1 : Int64)))), .second, .val (.int v265), .val (.int (if (p1.toInt64) < v165 then 1 else 0)), .val (.double (FP.l2d v279)), .second, .val (.double (FP.l2d v281)), .second, .val (.double (FP.l2d v283)), .second, .val (.double (FP.l2d (own_pk (p1.toInt64) v165 v165 (p1.toInt64)))), .second, .val (.int (if (own_pk (p1.toInt64) v165 v165 (p1.toInt64)) < v279 then 1 else 0)), .val (.ref bb217)] [(.int (0 : Int32)), (.ref bp217)])) rfl rfl (hb hby at_257) _ k) ?_
  show Goes p e below (T302.setTop (mkF m 258 #[.val (.int p1), .val (.int p2), .val (.int p3), .val (.int p4), .val (.int p5), .val (.int p6), .val (.double (FP.l2d (p1.toInt64))), .second, .val (.long (((p6 &&& (3 : Int32)).toInt64) - (1 : Int64))), .second, .val (.double (FP.l2d v165)), .second, .val (.ref b167), .val (.ref b182), .val (.ref b204), .val (.ref bp217), .val (.double (FP.l2d (p5.toInt64))), .second, .val (.double (FP.l2d ((p4.toInt64) - (1 : Int64)))), .second, .val (.int v265), .val (.int (if (p1.toInt64) < v165 then 1 else 0)), .val (.double (FP.l2d v279)), .second, .val (.double (FP.l2d v281)), .second, .val (.double (FP.l2d v283)), .second, .val (.double (FP.l2d (own_pk (p1.toInt64) v165 v165 (p1.toInt64)))), .second, .val (.int (if (own_pk (p1.toInt64) v165 v165 (p1.toInt64)) < v279 then 1 else 0)), .val (.ref bb217)] [(.double (FP.l2d (p5.toInt64)))])) _
  refine Goes.of (fun t k => XS.dload X302.here hx rfl (hb hby at_258) rfl k) ?_
  show Goes p e below (T302.setTop (mkF m 260 #[.val (.int p1), .val (.int p2), .val (.int p3), .val (.int p4), .val (.int p5), .val (.int p6), .val (.double (FP.l2d (p1.toInt64))), .second, .val (.long (((p6 &&& (3 : Int32)).toInt64) - (1 : Int64))), .second, .val (.double (FP.l2d v165)), .second, .val (.ref b167), .val (.ref b182), .val (.ref b204), .val (.ref bp217), .val (.double (FP.l2d (p5.toInt64))), .second, .val (.double (FP.l2d ((p4.toInt64) - (1 : Int64)))), .second, .val (.int v265), .val (.int (if (p1.toInt64) < v165 then 1 else 0)), .val (.double (FP.l2d v279)), .second, .val (.double (FP.l2d v281)), .second, .val (.double (FP.l2d v283)), .second, .val (.double (FP.l2d (own_pk (p1.toInt64) v165 v165 (p1.toInt64)))), .second, .val (.int (if (own_pk (p1.toInt64) v165 v165 (p1.toInt64)) < v279 then 1 else 0)), .val (.ref bb217)] [(.double (FP.l2d (p5.toInt64))), (.double (FP.l2d (p5.toInt64)))])) _
  refine Goes.of (fun t k => XS.dcmpS X302.here hx rfl (hb hby at_260) rfl (dcmpV_w (own_b32 p5) (own_b32 p5) .l) k) ?_
  show Goes p e below (T302.setTop (mkF m 261 #[.val (.int p1), .val (.int p2), .val (.int p3), .val (.int p4), .val (.int p5), .val (.int p6), .val (.double (FP.l2d (p1.toInt64))), .second, .val (.long (((p6 &&& (3 : Int32)).toInt64) - (1 : Int64))), .second, .val (.double (FP.l2d v165)), .second, .val (.ref b167), .val (.ref b182), .val (.ref b204), .val (.ref bp217), .val (.double (FP.l2d (p5.toInt64))), .second, .val (.double (FP.l2d ((p4.toInt64) - (1 : Int64)))), .second, .val (.int v265), .val (.int (if (p1.toInt64) < v165 then 1 else 0)), .val (.double (FP.l2d v279)), .second, .val (.double (FP.l2d v281)), .second, .val (.double (FP.l2d v283)), .second, .val (.double (FP.l2d (own_pk (p1.toInt64) v165 v165 (p1.toInt64)))), .second, .val (.int (if (own_pk (p1.toInt64) v165 v165 (p1.toInt64)) < v279 then 1 else 0)), .val (.ref bb217)] [(.int (lcmpW (p5.toInt64) (p5.toInt64)))])) _
  have hd261_316 : (p5.toInt64) = (p5.toInt64) := rfl
  refine Goes.of (fun t k => XS.ifNo X302.here hx rfl (hb hby at_261) rfl ((if0 _ _).trans (teq ((lw_eq _ _).mpr hd261_316)).2) k) ?_
  show Goes p e below (T302.setTop (mkF m 264 #[.val (.int p1), .val (.int p2), .val (.int p3), .val (.int p4), .val (.int p5), .val (.int p6), .val (.double (FP.l2d (p1.toInt64))), .second, .val (.long (((p6 &&& (3 : Int32)).toInt64) - (1 : Int64))), .second, .val (.double (FP.l2d v165)), .second, .val (.ref b167), .val (.ref b182), .val (.ref b204), .val (.ref bp217), .val (.double (FP.l2d (p5.toInt64))), .second, .val (.double (FP.l2d ((p4.toInt64) - (1 : Int64)))), .second, .val (.int v265), .val (.int (if (p1.toInt64) < v165 then 1 else 0)), .val (.double (FP.l2d v279)), .second, .val (.double (FP.l2d v281)), .second, .val (.double (FP.l2d v283)), .second, .val (.double (FP.l2d (own_pk (p1.toInt64) v165 v165 (p1.toInt64)))), .second, .val (.int (if (own_pk (p1.toInt64) v165 v165 (p1.toInt64)) < v279 then 1 else 0)), .val (.ref bb217)] [])) _
  refine Goes.of (fun t k => XS.aload X302.here hx rfl (hb hby at_264) rfl rfl k) ?_
  show Goes p e below (T302.setTop (mkF m 266 #[.val (.int p1), .val (.int p2), .val (.int p3), .val (.int p4), .val (.int p5), .val (.int p6), .val (.double (FP.l2d (p1.toInt64))), .second, .val (.long (((p6 &&& (3 : Int32)).toInt64) - (1 : Int64))), .second, .val (.double (FP.l2d v165)), .second, .val (.ref b167), .val (.ref b182), .val (.ref b204), .val (.ref bp217), .val (.double (FP.l2d (p5.toInt64))), .second, .val (.double (FP.l2d ((p4.toInt64) - (1 : Int64)))), .second, .val (.int v265), .val (.int (if (p1.toInt64) < v165 then 1 else 0)), .val (.double (FP.l2d v279)), .second, .val (.double (FP.l2d v281)), .second, .val (.double (FP.l2d v283)), .second, .val (.double (FP.l2d (own_pk (p1.toInt64) v165 v165 (p1.toInt64)))), .second, .val (.int (if (own_pk (p1.toInt64) v165 v165 (p1.toInt64)) < v279 then 1 else 0)), .val (.ref bb217)] [(.ref bp217)])) _
  refine Goes.of (fun t k => XS.iconst X302.here hx rfl (hb hby at_266) k) ?_
  show Goes p e below (T302.setTop (mkF m 267 #[.val (.int p1), .val (.int p2), .val (.int p3), .val (.int p4), .val (.int p5), .val (.int p6), .val (.double (FP.l2d (p1.toInt64))), .second, .val (.long (((p6 &&& (3 : Int32)).toInt64) - (1 : Int64))), .second, .val (.double (FP.l2d v165)), .second, .val (.ref b167), .val (.ref b182), .val (.ref b204), .val (.ref bp217), .val (.double (FP.l2d (p5.toInt64))), .second, .val (.double (FP.l2d ((p4.toInt64) - (1 : Int64)))), .second, .val (.int v265), .val (.int (if (p1.toInt64) < v165 then 1 else 0)), .val (.double (FP.l2d v279)), .second, .val (.double (FP.l2d v281)), .second, .val (.double (FP.l2d v283)), .second, .val (.double (FP.l2d (own_pk (p1.toInt64) v165 v165 (p1.toInt64)))), .second, .val (.int (if (own_pk (p1.toInt64) v165 v165 (p1.toInt64)) < v279 then 1 else 0)), .val (.ref bb217)] [(.int (1 : Int32)), (.ref bp217)])) _
  have Vc317 := VP286
  obtain ⟨clc317, Arc317, qc317, Sc317, Nc317, Hc317, Gc317⟩ := Vc317
  have hin318 : ¬ ((1 : Int32) < 0 ∨ clc317.slots.size ≤ ((1 : Int32)).toNatClampNeg) := inb_of Sc317 ⟨by decide, by decide⟩
  have hat319 : clc317.slots[((1 : Int32)).toNatClampNeg]? = some (.double (FP.l2d ((p4.toInt64) - (1 : Int64)))) := Hc317.at hin318 rfl
  refine Goes.of (fun t k => X302.daload hx (j := (1 : Int32)) (v := (.double (FP.l2d ((p4.toInt64) - (1 : Int64))))) (by rw [e302]; exact Arc317.1) (State.isArrayOf_alike hZ.alike Arc317.2.1) Arc317.2.2 hin318 hat319 (g := (mkF m 267 #[.val (.int p1), .val (.int p2), .val (.int p3), .val (.int p4), .val (.int p5), .val (.int p6), .val (.double (FP.l2d (p1.toInt64))), .second, .val (.long (((p6 &&& (3 : Int32)).toInt64) - (1 : Int64))), .second, .val (.double (FP.l2d v165)), .second, .val (.ref b167), .val (.ref b182), .val (.ref b204), .val (.ref bp217), .val (.double (FP.l2d (p5.toInt64))), .second, .val (.double (FP.l2d ((p4.toInt64) - (1 : Int64)))), .second, .val (.int v265), .val (.int (if (p1.toInt64) < v165 then 1 else 0)), .val (.double (FP.l2d v279)), .second, .val (.double (FP.l2d v281)), .second, .val (.double (FP.l2d v283)), .second, .val (.double (FP.l2d (own_pk (p1.toInt64) v165 v165 (p1.toInt64)))), .second, .val (.int (if (own_pk (p1.toInt64) v165 v165 (p1.toInt64)) < v279 then 1 else 0)), .val (.ref bb217)] [(.int (1 : Int32)), (.ref bp217)])) rfl rfl (hb hby at_267) _ k) ?_
  show Goes p e below (T302.setTop (mkF m 268 #[.val (.int p1), .val (.int p2), .val (.int p3), .val (.int p4), .val (.int p5), .val (.int p6), .val (.double (FP.l2d (p1.toInt64))), .second, .val (.long (((p6 &&& (3 : Int32)).toInt64) - (1 : Int64))), .second, .val (.double (FP.l2d v165)), .second, .val (.ref b167), .val (.ref b182), .val (.ref b204), .val (.ref bp217), .val (.double (FP.l2d (p5.toInt64))), .second, .val (.double (FP.l2d ((p4.toInt64) - (1 : Int64)))), .second, .val (.int v265), .val (.int (if (p1.toInt64) < v165 then 1 else 0)), .val (.double (FP.l2d v279)), .second, .val (.double (FP.l2d v281)), .second, .val (.double (FP.l2d v283)), .second, .val (.double (FP.l2d (own_pk (p1.toInt64) v165 v165 (p1.toInt64)))), .second, .val (.int (if (own_pk (p1.toInt64) v165 v165 (p1.toInt64)) < v279 then 1 else 0)), .val (.ref bb217)] [(.double (FP.l2d ((p4.toInt64) - (1 : Int64))))])) _
  refine Goes.of (fun t k => XS.dload X302.here hx rfl (hb hby at_268) rfl k) ?_
  show Goes p e below (T302.setTop (mkF m 270 #[.val (.int p1), .val (.int p2), .val (.int p3), .val (.int p4), .val (.int p5), .val (.int p6), .val (.double (FP.l2d (p1.toInt64))), .second, .val (.long (((p6 &&& (3 : Int32)).toInt64) - (1 : Int64))), .second, .val (.double (FP.l2d v165)), .second, .val (.ref b167), .val (.ref b182), .val (.ref b204), .val (.ref bp217), .val (.double (FP.l2d (p5.toInt64))), .second, .val (.double (FP.l2d ((p4.toInt64) - (1 : Int64)))), .second, .val (.int v265), .val (.int (if (p1.toInt64) < v165 then 1 else 0)), .val (.double (FP.l2d v279)), .second, .val (.double (FP.l2d v281)), .second, .val (.double (FP.l2d v283)), .second, .val (.double (FP.l2d (own_pk (p1.toInt64) v165 v165 (p1.toInt64)))), .second, .val (.int (if (own_pk (p1.toInt64) v165 v165 (p1.toInt64)) < v279 then 1 else 0)), .val (.ref bb217)] [(.double (FP.l2d ((p4.toInt64) - (1 : Int64)))), (.double (FP.l2d ((p4.toInt64) - (1 : Int64))))])) _
  refine Goes.of (fun t k => XS.dcmpS X302.here hx rfl (hb hby at_270) rfl (dcmpV_w (own_bm1 p4) (own_bm1 p4) .l) k) ?_
  show Goes p e below (T302.setTop (mkF m 271 #[.val (.int p1), .val (.int p2), .val (.int p3), .val (.int p4), .val (.int p5), .val (.int p6), .val (.double (FP.l2d (p1.toInt64))), .second, .val (.long (((p6 &&& (3 : Int32)).toInt64) - (1 : Int64))), .second, .val (.double (FP.l2d v165)), .second, .val (.ref b167), .val (.ref b182), .val (.ref b204), .val (.ref bp217), .val (.double (FP.l2d (p5.toInt64))), .second, .val (.double (FP.l2d ((p4.toInt64) - (1 : Int64)))), .second, .val (.int v265), .val (.int (if (p1.toInt64) < v165 then 1 else 0)), .val (.double (FP.l2d v279)), .second, .val (.double (FP.l2d v281)), .second, .val (.double (FP.l2d v283)), .second, .val (.double (FP.l2d (own_pk (p1.toInt64) v165 v165 (p1.toInt64)))), .second, .val (.int (if (own_pk (p1.toInt64) v165 v165 (p1.toInt64)) < v279 then 1 else 0)), .val (.ref bb217)] [(.int (lcmpW ((p4.toInt64) - (1 : Int64)) ((p4.toInt64) - (1 : Int64))))])) _
  have hd271_320 : ((p4.toInt64) - (1 : Int64)) = ((p4.toInt64) - (1 : Int64)) := rfl
  refine Goes.of (fun t k => XS.ifNo X302.here hx rfl (hb hby at_271) rfl ((if0 _ _).trans (teq ((lw_eq _ _).mpr hd271_320)).2) k) ?_
  show Goes p e below (T302.setTop (mkF m 274 #[.val (.int p1), .val (.int p2), .val (.int p3), .val (.int p4), .val (.int p5), .val (.int p6), .val (.double (FP.l2d (p1.toInt64))), .second, .val (.long (((p6 &&& (3 : Int32)).toInt64) - (1 : Int64))), .second, .val (.double (FP.l2d v165)), .second, .val (.ref b167), .val (.ref b182), .val (.ref b204), .val (.ref bp217), .val (.double (FP.l2d (p5.toInt64))), .second, .val (.double (FP.l2d ((p4.toInt64) - (1 : Int64)))), .second, .val (.int v265), .val (.int (if (p1.toInt64) < v165 then 1 else 0)), .val (.double (FP.l2d v279)), .second, .val (.double (FP.l2d v281)), .second, .val (.double (FP.l2d v283)), .second, .val (.double (FP.l2d (own_pk (p1.toInt64) v165 v165 (p1.toInt64)))), .second, .val (.int (if (own_pk (p1.toInt64) v165 v165 (p1.toInt64)) < v279 then 1 else 0)), .val (.ref bb217)] [])) _
  refine Goes.of (fun t k => XS.iconst X302.here hx rfl (hb hby at_274) k) ?_
  show Goes p e below (T302.setTop (mkF m 275 #[.val (.int p1), .val (.int p2), .val (.int p3), .val (.int p4), .val (.int p5), .val (.int p6), .val (.double (FP.l2d (p1.toInt64))), .second, .val (.long (((p6 &&& (3 : Int32)).toInt64) - (1 : Int64))), .second, .val (.double (FP.l2d v165)), .second, .val (.ref b167), .val (.ref b182), .val (.ref b204), .val (.ref bp217), .val (.double (FP.l2d (p5.toInt64))), .second, .val (.double (FP.l2d ((p4.toInt64) - (1 : Int64)))), .second, .val (.int v265), .val (.int (if (p1.toInt64) < v165 then 1 else 0)), .val (.double (FP.l2d v279)), .second, .val (.double (FP.l2d v281)), .second, .val (.double (FP.l2d v283)), .second, .val (.double (FP.l2d (own_pk (p1.toInt64) v165 v165 (p1.toInt64)))), .second, .val (.int (if (own_pk (p1.toInt64) v165 v165 (p1.toInt64)) < v279 then 1 else 0)), .val (.ref bb217)] [(.int (1 : Int32))])) _
  refine Goes.of (fun t k => XS.goto X302.here hx rfl (pc0 := 275) (pc' := 279) rfl (hb hby at_275) (by decide) (by decide) k) ?_
  show Goes p e below (T302.setTop (mkF m 279 #[.val (.int p1), .val (.int p2), .val (.int p3), .val (.int p4), .val (.int p5), .val (.int p6), .val (.double (FP.l2d (p1.toInt64))), .second, .val (.long (((p6 &&& (3 : Int32)).toInt64) - (1 : Int64))), .second, .val (.double (FP.l2d v165)), .second, .val (.ref b167), .val (.ref b182), .val (.ref b204), .val (.ref bp217), .val (.double (FP.l2d (p5.toInt64))), .second, .val (.double (FP.l2d ((p4.toInt64) - (1 : Int64)))), .second, .val (.int v265), .val (.int (if (p1.toInt64) < v165 then 1 else 0)), .val (.double (FP.l2d v279)), .second, .val (.double (FP.l2d v281)), .second, .val (.double (FP.l2d v283)), .second, .val (.double (FP.l2d (own_pk (p1.toInt64) v165 v165 (p1.toInt64)))), .second, .val (.int (if (own_pk (p1.toInt64) v165 v165 (p1.toInt64)) < v279 then 1 else 0)), .val (.ref bb217)] [(.int (1 : Int32))])) _
  exact Goes.retN (t := .boolean) X302 hx Bd.returns (by simp) hlocks (hb hby at_279) (⟨rfl, N302⟩) (by decide) (by decide)
set_option maxRecDepth 65536 in
set_option maxHeartbeats 40000000 in
theorem comes_1 {Post : Tables → Env → Array Value → State → Outcome → State → Prop} (hpost : ∀ tb e args s v u, (limb_1_1.after args s (.returned v) u = true ∧ limb_1_2.after args s (.returned v) u = true ∧ True) → FrameEnd s (.returned v) u (Jvm.fieldLocs frame_1_writes args s ++ Jvm.arrayLocs frame_1_arrays args s ++ Jvm.staticLocs frame_1_statics s) 24 128 → Post tb e args s (.returned v) u) :
    ArmFor flags0 classFile x code maxLocals ret World_1 tables_1 room_1 Calls_1 rest_1 Pre_1 Post := by
  intro l hfl _ _ p e ha hc hk s m args below hf hA hF happ hP
  obtain ⟨hcalls, hrest, hpre⟩ := hP
  obtain ⟨-, -, -, hnamed, -, -, -, hat⟩ := (Spec.applies_iff hf).mp happ
  obtain ⟨hg, hn⟩ := and_e (Cond.before_iff.mp (show (Jvm.Cond.and given_1 narrow_1).before args s = true from hpre))
  obtain ⟨g321, g322⟩ := and_e hg
  obtain ⟨g323, g324⟩ := and_e g322
  obtain ⟨g325, g326⟩ := and_e g324
  obtain ⟨g327, g328⟩ := and_e g326
  obtain ⟨g329, g330⟩ := and_e g328
  obtain ⟨g331, g332⟩ := and_e g330
  obtain ⟨w0, w1, w2, w3, w4, w5, rfl⟩ : ∃ w0 w1 w2 w3 w4 w5 : Value, args = #[w0, w1, w2, w3, w4, w5] := by
    have hs : args.size = 6 := by simpa [Cond.value, given_1] using g321
    obtain ⟨L⟩ := args
    match L, hs with
    | [w0, w1, w2, w3, w4, w5], _ => exact ⟨w0, w1, w2, w3, w4, w5, rfl⟩
  have hw := fun d (hd : d ∈ tables_1) => atoms_spec (ws := Jvm.Cond.code x code maxLocals ret :: tables_1) hat d (List.mem_cons_of_mem _ hd)
  have hfit : Fit s := fun {y c} hc i hi => by
    obtain ⟨ha, rfl⟩ := Array.getElem?_eq_some_iff.mp hc
    have q := List.all_eq_true.mp ((Array.all_eq_true_iff_forall_mem.mp hF) _ (Array.getElem_mem ha)) i (List.mem_range.mpr hi)
    simpa [Array.getElem?_eq_getElem hi] using q
  obtain ⟨i0, ei0⟩ := is_v g323
  obtain rfl : w0 = (.int i0) := Option.some.inj ei0
  obtain ⟨i1, ei1⟩ := is_v g325
  obtain rfl : w1 = (.int i1) := Option.some.inj ei1
  obtain ⟨i2, ei2⟩ := is_v g327
  obtain rfl : w2 = (.int i2) := Option.some.inj ei2
  obtain ⟨i3, ei3⟩ := is_v g329
  obtain rfl : w3 = (.int i3) := Option.some.inj ei3
  obtain ⟨i4, ei4⟩ := is_v g331
  obtain rfl : w4 = (.int i4) := Option.some.inj ei4
  obtain ⟨i5, ei5⟩ := is_v g332
  obtain rfl : w5 = (.int i5) := Option.some.inj ei5
  obtain ⟨n, o, h1, h2, h3, _, L, rfl, ⟨rfl, N⟩, hq⟩ := rm0 l s _ hw tables_1 i0 i1 i2 i3 i4 i5  s.heap s.heap.size (Nat.le_refl _)  p e ha hc hk s m _ below hf ((Spec.applies_iff_loose hf).mp happ).1 ⟨rfl, State.Warmed39.refl s, rfl⟩ trivial
  refine ⟨n, _, h1, h2, h3, hpost _ _ _ _ _ _ ⟨Cond.after_iff.mpr rfl, Cond.after_iff.mpr (eq_i res_at (Term.int_eval (1)) rfl), trivial⟩ ⟨hq.1, hq.2.1, (hq.2.2.sift fun y hy => Or.inr (N y hy)).mono (by decide) (by decide)⟩⟩
theorem main_1_1 : Claimed_1_1 := comes_1 fun _ _ _ _ _ _ h hF => ⟨h.1, hF⟩
theorem main_1_2 : Claimed_1_2 := comes_1 fun _ _ _ _ _ _ h hF => ⟨h.2.1, hF⟩
end Jvm.Pilot.@@N@@
namespace Jvm.Pilot.@@N@@
open Jvm Jvm.ClassFile Sem Op Lib Jvm.Free Jvm.Stand Jvm.Pilot.@@N@@.Jvm.D
/-! MADE BY PROGRAM (witnessworld.py) out of the Statement's table words and the real class files: 10 classes; the members and pool entries that the words name. The judged class is class 1, her method 1. -/
namespace start1
open Jvm.ClassFile
def u (s : String) : CpInfo := .utf8 (stringToUtf16 s)
/-- a pool by its gaps: so many unusable entries, then the entry; so many at the end -/
def gap : Nat → List CpInfo → List CpInfo
  | 0, r => r
  | n + 1, r => .unusable :: gap n r
def poolList (es : List (Nat × CpInfo)) (last : Nat) : List CpInfo := es.foldr (fun e r => gap e.1 (e.2 :: r)) (gap last [])
def pool (es : List (Nat × CpInfo)) (last : Nat) : Array CpInfo := ⟨poolList es last⟩
def fileOf (pool : Array CpInfo) (this : Nat) (attrs : Array Attribute := #[]) (ms : Array MethodInfo := #[]) (fl : Nat := 33) (sup : Nat := 0) (ifs : Array Nat := #[]) (fds : Array FieldInfo := #[]) : ClassFile where
  minorVersion := 0
  majorVersion := 65
  constantPool := pool
  accessFlags := fl
  thisClass := this
  superClass := sup
  interfaces := ifs
  fields := fds
  methods := ms
  attributes := attrs
def plain (name : String) (sup : Option ClassId) : Class where
  name := name
  kind := .ordinary
  loader := none
  accessFlags := 33
  super := sup
  interfaces := #[]
  cf := none
  fields := #[]
  methods := #[]
  instanceTypes := #[]
  staticTypes := #[]
  resolved := #[]
  callSites := []
  init := .initialized
  statics := none
  mirror := none

def pool0 : Array CpInfo := pool [(5, u "<init>"), (0, u "()V"), (1, .class_ 10), (1, u "java/lang/Object"), (85, u "clone"), (0, u "()Ljava/lang/Object;")] 26

def k0c0 : Code := { maxStack := 0, maxLocals := 1, code := object_method_1_code, exceptionTable := #[], attributes := #[] }
def k0m0 : Method := { name := "<init>", desc := "()V", sig := { parameters := [], returnType := none }, accessFlags := 1, code := some k0c0 }
def k0m1 : Method := { name := "clone", desc := "()Ljava/lang/Object;", sig := { parameters := [], returnType := some (.object "java/lang/Object") }, accessFlags := 260, code := none }
/-- java/lang/Object -/
def k0 : Class := { plain "java/lang/Object" none with
  accessFlags := 33
  interfaces := #[]
  cf := some (fileOf pool0 8 #[] #[{ accessFlags := 1, nameIndex := 5, descriptorIndex := 6, attributes := #[] }, { accessFlags := 260, nameIndex := 96, descriptorIndex := 97, attributes := #[] }] 33 0 #[] #[])
  fields := #[]
  methods := #[k0m0, k0m1]
  instanceTypes := #[]
  staticTypes := #[]
  resolved := Array.replicate 124 none
  statics := none }

def pool1 : Array CpInfo := pool [(2, .class_ 4), (1, u "java/lang/Object"), (0, u "<init>"), (0, u "()V"), (0, .class_ 8), (0, u "com/example/driftswarm/driftswarm/swarm/Particle"), (0, .methodref 7 10), (0, .nameAndType 5 11), (0, u "([DD[D)V"), (0, .methodref 7 13), (0, .nameAndType 14 15), (0, u "position"), (0, u "()[D"), (0, .methodref 7 17), (0, .nameAndType 18 19), (0, u "offerBest"), (0, u "(D)Z"), (0, .methodref 7 21), (0, .nameAndType 22 23), (0, u "bestValue"), (0, u "()D"), (0, .methodref 7 25), (0, .nameAndType 26 15), (0, u "best"), (0, .class_ 28), (0, u "com/example/driftswarm/driftswarm/swarm/ParticleOfferBestPinLaw"), (2, u "law"), (0, u "(IIIIII)Z")] 5

def k1m0 : Method := { name := "<init>", desc := "()V", sig := { parameters := [], returnType := none }, accessFlags := 1, code := none }
def k1c1 : Code := { maxStack := 6, maxLocals := 32, code := code, exceptionTable := #[], attributes := #[] }
def k1m1 : Method := { name := "law", desc := "(IIIIII)Z", sig := { parameters := [.int, .int, .int, .int, .int, .int], returnType := some .boolean }, accessFlags := 9, code := some k1c1 }
/-- com/example/driftswarm/driftswarm/swarm/ParticleOfferBestPinLaw -/
def k1 : Class := { plain "com/example/driftswarm/driftswarm/swarm/ParticleOfferBestPinLaw" (some 0) with
  accessFlags := 49
  interfaces := #[]
  cf := some (fileOf pool1 27 #[] #[{ accessFlags := 1, nameIndex := 5, descriptorIndex := 6, attributes := #[] }, { accessFlags := 9, nameIndex := 31, descriptorIndex := 32, attributes := #[] }] 49 2 #[] #[])
  fields := #[]
  methods := #[k1m0, k1m1]
  instanceTypes := #[]
  staticTypes := #[]
  resolved := Array.replicate 38 none
  statics := none }

def pool2 : Array CpInfo := pool [(1, .methodref 2 3), (0, .class_ 4), (0, .nameAndType 5 6), (0, u "java/lang/Object"), (0, u "<init>"), (0, u "()V"), (9, .methodref 17 18), (0, .class_ 19), (0, .nameAndType 20 21), (0, u "[D"), (0, u "clone"), (0, u "()Ljava/lang/Object;"), (0, .fieldref 23 24), (0, .class_ 25), (0, .nameAndType 26 19), (0, u "com/example/driftswarm/driftswarm/swarm/Particle"), (0, u "position"), (0, .fieldref 23 28), (0, .nameAndType 29 19), (0, u "velocity"), (0, .fieldref 23 31), (0, .nameAndType 32 19), (0, u "best"), (0, .fieldref 23 34), (0, .nameAndType 35 36), (0, u "bestValue"), (0, u "D"), (5, u "()D"), (37, .methodref 81 82), (0, .class_ 83), (0, .nameAndType 84 85), (0, u "java/lang/System"), (0, u "arraycopy"), (0, u "(Ljava/lang/Object;ILjava/lang/Object;II)V"), (0, u "([DD[D)V"), (3, u "()[D"), (6, u "offerBest"), (0, u "(D)Z")] 17

def k2c0 : Code := { maxStack := 4, maxLocals := 5, code := prog_43_method_1_code, exceptionTable := #[], attributes := #[] }
def k2m0 : Method := { name := "<init>", desc := "([DD[D)V", sig := { parameters := [(.array .double), .double, (.array .double)], returnType := none }, accessFlags := 1, code := some k2c0 }
def k2c1 : Code := { maxStack := 1, maxLocals := 1, code := prog_43_method_2_code, exceptionTable := #[], attributes := #[] }
def k2m1 : Method := { name := "position", desc := "()[D", sig := { parameters := [], returnType := some (.array .double) }, accessFlags := 1, code := some k2c1 }
def k2c2 : Code := { maxStack := 1, maxLocals := 1, code := prog_43_method_4_code, exceptionTable := #[], attributes := #[] }
def k2m2 : Method := { name := "best", desc := "()[D", sig := { parameters := [], returnType := some (.array .double) }, accessFlags := 1, code := some k2c2 }
def k2c3 : Code := { maxStack := 2, maxLocals := 1, code := prog_43_method_5_code, exceptionTable := #[], attributes := #[] }
def k2m3 : Method := { name := "bestValue", desc := "()D", sig := { parameters := [], returnType := some .double }, accessFlags := 1, code := some k2c3 }
def k2c4 : Code := { maxStack := 5, maxLocals := 3, code := prog_43_method_8_code, exceptionTable := #[], attributes := #[] }
def k2m4 : Method := { name := "offerBest", desc := "(D)Z", sig := { parameters := [.double], returnType := some .boolean }, accessFlags := 1, code := some k2c4 }
/-- com/example/driftswarm/driftswarm/swarm/Particle -/
def k2 : Class := { plain "com/example/driftswarm/driftswarm/swarm/Particle" (some 0) with
  accessFlags := 49
  interfaces := #[]
  cf := some (fileOf pool2 23 #[] #[{ accessFlags := 1, nameIndex := 5, descriptorIndex := 86, attributes := #[] }, { accessFlags := 1, nameIndex := 26, descriptorIndex := 90, attributes := #[] }, { accessFlags := 1, nameIndex := 32, descriptorIndex := 90, attributes := #[] }, { accessFlags := 1, nameIndex := 35, descriptorIndex := 42, attributes := #[] }, { accessFlags := 1, nameIndex := 97, descriptorIndex := 98, attributes := #[] }] 49 2 #[] #[{ accessFlags := 18, nameIndex := 26, descriptorIndex := 19, attributes := #[] }, { accessFlags := 18, nameIndex := 29, descriptorIndex := 19, attributes := #[] }, { accessFlags := 18, nameIndex := 32, descriptorIndex := 19, attributes := #[] }, { accessFlags := 2, nameIndex := 35, descriptorIndex := 36, attributes := #[] }])
  fields := #[{ name := "position", type := (.array .double), accessFlags := 18, slot := 0, constantValue := 0 }, { name := "velocity", type := (.array .double), accessFlags := 18, slot := 1, constantValue := 0 }, { name := "best", type := (.array .double), accessFlags := 18, slot := 2, constantValue := 0 }, { name := "bestValue", type := .double, accessFlags := 2, slot := 3, constantValue := 0 }]
  methods := #[k2m0, k2m1, k2m2, k2m3, k2m4]
  instanceTypes := #[(.array .double), (.array .double), (.array .double), .double]
  staticTypes := #[]
  resolved := Array.replicate 116 none
  statics := none }

def pool3 : Array CpInfo := pool [(1, .class_ 2), (0, u "java/lang/Cloneable"), (0, .class_ 4), (0, u "java/lang/Object")] 2

/-- java/lang/Cloneable -/
def k3 : Class := { plain "java/lang/Cloneable" (some 0) with
  accessFlags := 1537
  interfaces := #[]
  cf := some (fileOf pool3 1 #[] #[] 1537 3 #[] #[])
  fields := #[]
  methods := #[]
  instanceTypes := #[]
  staticTypes := #[]
  resolved := Array.replicate 7 none
  statics := none }

def pool4 : Array CpInfo := pool [(2, .class_ 4), (1, u "java/lang/Object"), (0, u "<init>"), (0, u "()V"), (1, .class_ 10), (1, u "java/lang/System"), (0, u "allowSecurityManager"), (0, u "I"), (16, u "cons"), (0, u "Ljava/io/Console;"), (77, .class_ 110), (1, u "java/lang/System$CallersHolder"), (43, u "initialErrStream"), (0, u "Ljava/io/PrintStream;"), (19, u "security"), (0, u "Ljava/lang/SecurityManager;"), (31, .class_ 209), (0, u "java/lang/System$1"), (7, u "props"), (0, u "Ljava/util/Properties;"), (2, u "lineSeparator"), (0, u "Ljava/lang/String;"), (96, .class_ 321), (1, u "java/lang/System$LoggerFinder"), (5, .class_ 328), (0, u "java/lang/System$Logger"), (67, u "err"), (2, u "out"), (91, u "notSupportedJnuEncoding"), (15, u "in"), (17, u "initialIn"), (0, u "Ljava/io/InputStream;"), (35, u "bootLayer"), (0, u "Ljava/lang/ModuleLayer;"), (99, .class_ 664), (0, u "java/lang/System$2"), (9, u "NEVER"), (2, u "MAYBE"), (49, u "arraycopy"), (0, u "(Ljava/lang/Object;ILjava/lang/Object;II)V"), (72, .class_ 802), (0, u "java/lang/System$Logger$Level")] 31

def k4m0 : Method := { name := "<init>", desc := "()V", sig := { parameters := [], returnType := none }, accessFlags := 2, code := none }
def k4m1 : Method := { name := "arraycopy", desc := "(Ljava/lang/Object;ILjava/lang/Object;II)V", sig := { parameters := [(.object "java/lang/Object"), .int, (.object "java/lang/Object"), .int, .int], returnType := none }, accessFlags := 265, code := none }
/-- java/lang/System -/
def k4 : Class := { plain "java/lang/System" (some 0) with
  accessFlags := 49
  interfaces := #[]
  cf := some (fileOf pool4 8 #[.nestMembers #[319, 327, 801, 108, 663, 208]] #[{ accessFlags := 2, nameIndex := 5, descriptorIndex := 6, attributes := #[] }, { accessFlags := 265, nameIndex := 727, descriptorIndex := 728, attributes := #[] }] 49 2 #[] #[{ accessFlags := 25, nameIndex := 507, descriptorIndex := 526, attributes := #[] }, { accessFlags := 25, nameIndex := 399, descriptorIndex := 155, attributes := #[] }, { accessFlags := 25, nameIndex := 396, descriptorIndex := 155, attributes := #[] }, { accessFlags := 10, nameIndex := 525, descriptorIndex := 526, attributes := #[] }, { accessFlags := 26, nameIndex := 674, descriptorIndex := 12, attributes := #[] }, { accessFlags := 26, nameIndex := 677, descriptorIndex := 12, attributes := #[] }, { accessFlags := 10, nameIndex := 11, descriptorIndex := 12, attributes := #[] }, { accessFlags := 74, nameIndex := 175, descriptorIndex := 176, attributes := #[] }, { accessFlags := 10, nameIndex := 491, descriptorIndex := 222, attributes := #[] }, { accessFlags := 74, nameIndex := 29, descriptorIndex := 30, attributes := #[] }, { accessFlags := 74, nameIndex := 154, descriptorIndex := 155, attributes := #[] }, { accessFlags := 10, nameIndex := 217, descriptorIndex := 218, attributes := #[] }, { accessFlags := 10, nameIndex := 221, descriptorIndex := 222, attributes := #[] }, { accessFlags := 8, nameIndex := 562, descriptorIndex := 563, attributes := #[] }])
  fields := #[{ name := "in", type := (.object "java/io/InputStream"), accessFlags := 25, slot := 0, constantValue := 0 }, { name := "out", type := (.object "java/io/PrintStream"), accessFlags := 25, slot := 1, constantValue := 0 }, { name := "err", type := (.object "java/io/PrintStream"), accessFlags := 25, slot := 2, constantValue := 0 }, { name := "initialIn", type := (.object "java/io/InputStream"), accessFlags := 10, slot := 3, constantValue := 0 }, { name := "NEVER", type := .int, accessFlags := 26, slot := 4, constantValue := 0 }, { name := "MAYBE", type := .int, accessFlags := 26, slot := 5, constantValue := 0 }, { name := "allowSecurityManager", type := .int, accessFlags := 10, slot := 6, constantValue := 0 }, { name := "security", type := (.object "java/lang/SecurityManager"), accessFlags := 74, slot := 7, constantValue := 0 }, { name := "notSupportedJnuEncoding", type := (.object "java/lang/String"), accessFlags := 10, slot := 8, constantValue := 0 }, { name := "cons", type := (.object "java/io/Console"), accessFlags := 74, slot := 9, constantValue := 0 }, { name := "initialErrStream", type := (.object "java/io/PrintStream"), accessFlags := 74, slot := 10, constantValue := 0 }, { name := "props", type := (.object "java/util/Properties"), accessFlags := 10, slot := 11, constantValue := 0 }, { name := "lineSeparator", type := (.object "java/lang/String"), accessFlags := 10, slot := 12, constantValue := 0 }, { name := "bootLayer", type := (.object "java/lang/ModuleLayer"), accessFlags := 8, slot := 13, constantValue := 0 }]
  methods := #[k4m0, k4m1]
  instanceTypes := #[]
  staticTypes := #[(.object "java/io/InputStream"), (.object "java/io/PrintStream"), (.object "java/io/PrintStream"), (.object "java/io/InputStream"), .int, .int, .int, (.object "java/lang/SecurityManager"), (.object "java/lang/String"), (.object "java/io/Console"), (.object "java/io/PrintStream"), (.object "java/util/Properties"), (.object "java/lang/String"), (.object "java/lang/ModuleLayer")]
  resolved := Array.replicate 834 none
  statics := none }

def pool5 : Array CpInfo := pool [(1, u "java/io/Serializable"), (0, .class_ 1), (0, u "java/lang/Object"), (0, .class_ 3)] 3

/-- java/io/Serializable -/
def k5 : Class := { plain "java/io/Serializable" (some 0) with
  accessFlags := 1537
  interfaces := #[]
  cf := some (fileOf pool5 2 #[] #[] 1537 4 #[] #[])
  fields := #[]
  methods := #[]
  instanceTypes := #[]
  staticTypes := #[]
  resolved := Array.replicate 8 none
  statics := none }

/-- the primitive byte -/
def k6 : Class := { plain "byte" none with kind := .primitive 'B', accessFlags := 0x411 }
/-- [B -/
def k7 : Class := { plain "[B" (some 0) with kind := .array 6 .byte, interfaces := #[3, 5], accessFlags := 1041 }

/-- the primitive int -/
def k8 : Class := { plain "int" none with kind := .primitive 'I', accessFlags := 0x411 }
/-- [I -/
def k9 : Class := { plain "[I" (some 0) with kind := .array 8 .int, interfaces := #[3, 5], accessFlags := 1041 }

def k10 : Class := { plain "double" none with kind := .primitive 'D', accessFlags := 0x411 }
def k11 : Class := { plain "[D" (some 0) with kind := .array 10 .double, interfaces := #[3, 5], accessFlags := 1041 }
def heap : Heap := #[]
def classes : Array Class := #[k0, k1, k2, k3, k4, k5, k6, k7, k8, k9, k10, k11]
def interned : List (Array UInt16 × Addr) := []
def slotsUsed : Nat := 0
def theMethod : MethodId := ⟨1, 1⟩
def args0 : Array Value := #[.int 5, .int 7, .int 1, .int 2, .int 9, .int 4]
def aboutOver (below : List Frame) : State where
  vm := { classes := classes, interned := interned.toArray }
  heap := heap
  slotsUsed := slotsUsed
  threads := #[{ frames := .invoking theMethod args0 :: below }]
def below0 : List Frame := [.native { method := ⟨0, 0⟩, args := #[] }]
def about1 : State := aboutOver below0
def p0 : Program := .bare "" "" ""
def e0 : Env := launch0.env 0 0 0
theorem w_frames : about1.frames = Frame.invoking theMethod args0 :: below0 := rfl
set_option maxRecDepth 65536 in
theorem w_args : argsFit about1.vm theMethod args0 = true := by decide +kernel
set_option maxRecDepth 65536 in
theorem w_heap : heapFits about1 = true := by decide +kernel
set_option maxRecDepth 65536 in
theorem w_runnable : about1.curStatus? = some .runnable := by decide +kernel
set_option maxRecDepth 65536 in
theorem w_alone : about1.alone = true := by decide +kernel
set_option maxRecDepth 65536 in
theorem w_named : about1.methodNamed? x = some theMethod := by decide +kernel
set_option maxRecDepth 65536 in
theorem w_hears : about1.hears theMethod below0 = true := by decide +kernel
set_option maxRecDepth 65536 in
theorem w_ripe : about1.ripe theMethod args0 below0 = true := by decide +kernel
theorem w_running : about1.status = .running := rfl
set_option maxRecDepth 65536 in
theorem w_room : about1.hasRoom e0.platform room_1 = true :=
  launch0.hasRoom_least _ room_1 (by decide +kernel) (by decide +kernel) (by decide +kernel) (by decide +kernel) (by decide +kernel) (by decide +kernel)
theorem allAtoms_all (ts : List Jvm.Cond) (a : Array Jvm.Value) (st : Jvm.State) : (allAtoms ts).before a st = ts.all (fun c => c.before a st) := by
  induction ts with
  | nil => rfl
  | cons c t ih =>
    show (Jvm.Cond.and c (allAtoms t)).before a st = _
    rw [Jvm.Cond.before_and, ih, List.all_cons]
def words1 : List Jvm.Cond := Jvm.Cond.code x code maxLocals ret :: tables_1
/-- a 'code' word, met by the world's own term for the bytes: nothing is compared byte by byte -/
theorem code_word {y : MethodName} {bytes : ByteArray} {mx : Nat} {rt : Option FieldType} {a : Array Value} {s : State} {m : MethodId} {meth : Method} {c : Code} (h1 : s.methodNamed? y = some m) (h2 : s.vm.method? m = some meth) (h3 : meth.code = some c) (h4 : c.code = bytes)
    (h5 : (c.maxLocals == mx && c.exceptionTable.isEmpty && decide (c.maxStack ≤ mostOperands) && decide (meth.sig.returnType = rt) && !meth.locks && decide (parseMethodDescriptor y.desc = some meth.sig)) = true) : (Jvm.Cond.code y bytes mx rt).before a s = true := by
  simp only [Bool.and_eq_true, beq_iff_eq, Bool.not_eq_true', decide_eq_true_eq] at h5
  obtain ⟨⟨⟨⟨⟨g1, g2⟩, g3⟩, g4⟩, g5⟩, g6⟩ := h5
  simp [Cond.before, Cond.holds, Cond.value, h1, h2, h3, h4, g1, g2, g3, g4, g5, g6]
def isCode : Jvm.Cond → Bool
  | .code _ _ _ _ => true
  | _ => false
theorem all_split {L : List Jvm.Cond} {P : Jvm.Cond → Bool} (h1 : L.all (fun c => isCode c || P c) = true) (h2 : ∀ c ∈ L.filter isCode, P c = true) : L.all P = true := by
  refine List.all_eq_true.mpr fun c hc => ?_
  have h := List.all_eq_true.mp h1 c hc
  rcases Bool.eq_false_or_eq_true (isCode c) with hi | hi
  · exact h2 c (List.mem_filter.mpr ⟨hc, hi⟩)
  · simpa [hi] using h
set_option maxRecDepth 65536 in
theorem w_c0 : (Jvm.Cond.code x code maxLocals ret).before args0 about1 = true := code_word (m := ⟨1, 1⟩) (meth := k1m1) (c := k1c1) (by decide +kernel) rfl rfl rfl (by decide +kernel)
set_option maxRecDepth 65536 in
theorem w_c1 : (Jvm.Cond.code ({ cls := "com/example/driftswarm/driftswarm/swarm/Particle", name := "<init>", desc := "([DD[D)V" } : Jvm.MethodName) prog_43_method_1_code (5 : Nat) (Option.none : Option Jvm.ClassFile.FieldType)).before args0 about1 = true := code_word (m := ⟨2, 0⟩) (meth := k2m0) (c := k2c0) (by decide +kernel) rfl rfl rfl (by decide +kernel)
set_option maxRecDepth 65536 in
theorem w_c2 : (Jvm.Cond.code ({ cls := "java/lang/Object", name := "<init>", desc := "()V" } : Jvm.MethodName) object_method_1_code (1 : Nat) (Option.none : Option Jvm.ClassFile.FieldType)).before args0 about1 = true := code_word (m := ⟨0, 0⟩) (meth := k0m0) (c := k0c0) (by decide +kernel) rfl rfl rfl (by decide +kernel)
set_option maxRecDepth 65536 in
theorem w_c3 : (Jvm.Cond.code ({ cls := "com/example/driftswarm/driftswarm/swarm/Particle", name := "position", desc := "()[D" } : Jvm.MethodName) prog_43_method_2_code (1 : Nat) (Option.some (Jvm.ClassFile.FieldType.array Jvm.ClassFile.FieldType.double))).before args0 about1 = true := code_word (m := ⟨2, 1⟩) (meth := k2m1) (c := k2c1) (by decide +kernel) rfl rfl rfl (by decide +kernel)
set_option maxRecDepth 65536 in
theorem w_c4 : (Jvm.Cond.code ({ cls := "com/example/driftswarm/driftswarm/swarm/Particle", name := "offerBest", desc := "(D)Z" } : Jvm.MethodName) prog_43_method_8_code (3 : Nat) (Option.some Jvm.ClassFile.FieldType.boolean)).before args0 about1 = true := code_word (m := ⟨2, 4⟩) (meth := k2m4) (c := k2c4) (by decide +kernel) rfl rfl rfl (by decide +kernel)
set_option maxRecDepth 65536 in
theorem w_c5 : (Jvm.Cond.code ({ cls := "com/example/driftswarm/driftswarm/swarm/Particle", name := "bestValue", desc := "()D" } : Jvm.MethodName) prog_43_method_5_code (1 : Nat) (Option.some Jvm.ClassFile.FieldType.double)).before args0 about1 = true := code_word (m := ⟨2, 3⟩) (meth := k2m3) (c := k2c3) (by decide +kernel) rfl rfl rfl (by decide +kernel)
set_option maxRecDepth 65536 in
theorem w_c6 : (Jvm.Cond.code ({ cls := "com/example/driftswarm/driftswarm/swarm/Particle", name := "best", desc := "()[D" } : Jvm.MethodName) prog_43_method_4_code (1 : Nat) (Option.some (Jvm.ClassFile.FieldType.array Jvm.ClassFile.FieldType.double))).before args0 about1 = true := code_word (m := ⟨2, 2⟩) (meth := k2m2) (c := k2c2) (by decide +kernel) rfl rfl rfl (by decide +kernel)
def codes1 : List Jvm.Cond := [Jvm.Cond.code x code maxLocals ret, Jvm.Cond.code ({ cls := "com/example/driftswarm/driftswarm/swarm/Particle", name := "<init>", desc := "([DD[D)V" } : Jvm.MethodName) prog_43_method_1_code (5 : Nat) (Option.none : Option Jvm.ClassFile.FieldType), Jvm.Cond.code ({ cls := "java/lang/Object", name := "<init>", desc := "()V" } : Jvm.MethodName) object_method_1_code (1 : Nat) (Option.none : Option Jvm.ClassFile.FieldType), Jvm.Cond.code ({ cls := "com/example/driftswarm/driftswarm/swarm/Particle", name := "position", desc := "()[D" } : Jvm.MethodName) prog_43_method_2_code (1 : Nat) (Option.some (Jvm.ClassFile.FieldType.array Jvm.ClassFile.FieldType.double)), Jvm.Cond.code ({ cls := "com/example/driftswarm/driftswarm/swarm/Particle", name := "offerBest", desc := "(D)Z" } : Jvm.MethodName) prog_43_method_8_code (3 : Nat) (Option.some Jvm.ClassFile.FieldType.boolean), Jvm.Cond.code ({ cls := "com/example/driftswarm/driftswarm/swarm/Particle", name := "bestValue", desc := "()D" } : Jvm.MethodName) prog_43_method_5_code (1 : Nat) (Option.some Jvm.ClassFile.FieldType.double), Jvm.Cond.code ({ cls := "com/example/driftswarm/driftswarm/swarm/Particle", name := "best", desc := "()[D" } : Jvm.MethodName) prog_43_method_4_code (1 : Nat) (Option.some (Jvm.ClassFile.FieldType.array Jvm.ClassFile.FieldType.double))]
set_option maxRecDepth 65536 in
theorem codes_eq : words1.filter isCode = codes1 := rfl
theorem w_codes : ∀ c ∈ words1.filter isCode, c.before args0 about1 = true := by
  rw [codes_eq]
  intro c hc
  simp only [codes1, List.mem_cons, List.not_mem_nil, or_false] at hc
  rcases hc with rfl | rfl | rfl | rfl | rfl | rfl | rfl
  · exact w_c0
  · exact w_c1
  · exact w_c2
  · exact w_c3
  · exact w_c4
  · exact w_c5
  · exact w_c6
set_option maxRecDepth 65536 in
theorem w_t1 : (words1.take 24).all (fun c => isCode c || c.before args0 about1) = true := by decide +kernel
set_option maxRecDepth 65536 in
theorem w_t2 : ((words1.drop 24).take 24).all (fun c => isCode c || c.before args0 about1) = true := by decide +kernel
set_option maxRecDepth 65536 in
theorem w_t3 : ((words1.drop 24).drop 24).all (fun c => isCode c || c.before args0 about1) = true := by decide +kernel
theorem w_tables : (allAtoms (Jvm.Cond.code x code maxLocals ret :: tables_1)).before args0 about1 = true := by
  rw [allAtoms_all]
  show words1.all (fun c => c.before args0 about1) = true
  refine all_split ?_ w_codes
  rw [← List.take_append_drop 24 words1, List.all_append, w_t1, ← List.take_append_drop 24 (words1.drop 24), List.all_append, w_t2, w_t3]
  rfl
set_option maxRecDepth 65536 in
theorem w_case : (Jvm.Cond.and given_1 narrow_1).before args0 about1 = true := by decide +kernel
theorem w_applies : (headSpec (Jvm.Cond.code x code maxLocals ret :: tables_1) room_1).applies x e0.platform about1 = true :=
  (Spec.applies_iff w_frames).mpr ⟨w_running, w_runnable, w_alone, w_named, w_hears, w_ripe, w_room, w_tables⟩
theorem atStart : AtStart classFile x code maxLocals ret World_1 tables_1 room_1 Calls_1 rest_1 Pre_1 launch0 p0 e0 about1 theMethod args0 below0 :=
  ⟨lists_1, trivial, launch0.admits_env _ _ _, launch0.least_env, fairChoices_fair.cas, fairChoices_fair.clock, w_frames, w_args, w_heap, w_applies, trivial, trivial, w_case⟩
end start1
theorem witness_1 : WitnessClaimed_1 := ⟨start1.p0, start1.e0, start1.about1, start1.theMethod, start1.args0, start1.below0, start1.atStart⟩
end Jvm.Pilot.@@N@@
