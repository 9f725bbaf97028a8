import JvmDerived
import JvmDerived.Pilot.@@N@@Statement
import JvmDerived.Pilot.@@N@@Code
set_option linter.unusedVariables false
set_option linter.unusedSimpArgs false
@@BLOCK:NumsL.lean.txt@@
namespace Jvm.OwnN
theorem own_rem32 (x y : Int32) : (x - x / y * y).toInt = x.toInt.tmod y.toInt := by
  have a := (x % y).toInt_lt; have b := (x % y).le_toInt
  rw [Int32.toInt_mod] at a b
  rw [Int32.toInt_sub, Int32.toInt_mul, Int32.toInt_div, Int.bmod_mul_bmod, Int.sub_bmod_bmod, Int.mul_comm, ← Int.tmod_def]
  exact Jvm.Kit.bmod32 b a
theorem own_rem32n {x y : Int32} (hx : 0 ≤ x.toInt) : (x - x / y * y).toInt = x.toInt % y.toInt := by rw [own_rem32, Int.tmod_eq_emod_of_nonneg hx]
end Jvm.OwnN
namespace Jvm.RoadKit
open Sem ClassFile Op Lib Jvm.Stand Jvm.Free Jvm.LawKit
section New
variable {p : Program} {l : Launch} {e : Env} {R : Room} {s : State} {m : MethodId} {args : Array Value} {below : List Frame} {meth : Method} {c : Code} {T : State} {locs : List Loc} {cells slots : Nat}
theorem retI (X : Stand p l e R s m args below meth c T locs cells slots) (hx : p.tables.exec = Jvm.exec) {pc : Nat} {Ls : Array Slot} {z : Int32} {rest : List Value} (hret : meth.sig.returnType = some .int) (hd : decode c.code pc = .ok (.ireturn, 1)) {fs : List Frame}
    (hl : ∀ (f : JFrame) (acts : List Action), f.method = m → f.locked = none → f.entered = [] → (doReturn e (T.setTop f) acts (some (.int z))).1 = T.setFrames fs) : Steps p.tables e below (T.setTop (mkF m pc Ls (.int z :: rest))) (T.setFrames fs) := by
  have hm' : T.vm.method? m = some meth := X.method'
  have hn : narrow .int (.int z) = .int z := rfl
  show Steps p.tables e below (T.setTop { method := m, pc := pc, locals := Ls, stack := _ :: rest, locked := none }) _
  jvm_step X.here [X.here.top, hx, hd, hm', hret, hn]
  first | (intro acts; rw [hl _ acts rfl rfl rfl]) | rw [hl _ _ rfl rfl rfl]
  exact Steps.refl _
/-- the run goes on from S to an end of which P holds -/
def Goes (p : Program) (e : Env) (below : List Frame) (S : State) (P : Outcome → State → Prop) : Prop := ∃ s₂ o, Steps p.tables e below S s₂ ∧ s₂.status = .running ∧ Ended s₂ below o ∧ P o s₂
/-- what every contract here says of the end -/
def Fin (s : State) (Q : Option Value → Heap → List Loc → Prop) (C N : Nat) (o : Outcome) (U : State) : Prop := ∃ v L, o = .returned v ∧ Q v U.heap L ∧ FrameEnd s o U L C N
theorem Goes.of {S S' : State} {P : Outcome → State → Prop} (h : ∀ t, Steps p.tables e below S' t → Steps p.tables e below S t) (g : Goes p e below S' P) : Goes p e below S P := by
  obtain ⟨s₂, o, h1, h2⟩ := g
  exact ⟨s₂, o, h _ h1, h2⟩
theorem Goes.out (X : Stand p l e R s m args below meth c T locs cells slots) {v : Option Value} (hv : meth.sig.returnType = none → v = none) (hlocks : meth.locks = false) {g : JFrame} {Q : Option Value → Heap → List Loc → Prop} {C N : Nat}
    (hst : ∀ fs, (∀ (f : JFrame) (acts : List Action), f.method = m → f.locked = none → f.entered = [] → (doReturn e (T.setTop f) acts v).1 = T.setFrames fs) → Steps p.tables e below (T.setTop g) (T.setFrames fs))
    (hq : Q v T.heap locs) (h1 : cells ≤ C) (h2 : slots ≤ N) : Goes p e below (T.setTop g) (Fin s Q C N) := by
  obtain ⟨fs, hr, hrun, hended, hW, hsame⟩ := X.leave (v := v) hv hlocks
  exact ⟨_, _, hst fs hr, hrun, hended, v, locs, rfl, hq, ⟨_, rfl⟩, hW, hsame.mono h1 h2⟩
theorem Goes.retI (X : Stand p l e R s m args below meth c T locs cells slots) (hx : p.tables.exec = Jvm.exec) (hret : meth.sig.returnType = some .int) (hlocks : meth.locks = false) {pc : Nat} {Ls : Array Slot} {z : Int32} {rest : List Value} (hd : decode c.code pc = .ok (.ireturn, 1)) {Q : Option Value → Heap → List Loc → Prop} {C N : Nat}
    (hq : Q (some (.int z)) T.heap locs) (h1 : cells ≤ C) (h2 : slots ≤ N) : Goes p e below (T.setTop (mkF m pc Ls (.int z :: rest))) (Fin s Q C N) :=
  Goes.out X (v := some (.int z)) (fun h => by rw [hret] at h; cases h) hlocks (fun fs hr => Jvm.RoadKit.retI X hx hret hd hr) hq h1 h2
theorem Goes.retN (X : Stand p l e R s m args below meth c T locs cells slots) (hx : p.tables.exec = Jvm.exec) {t : FieldType} (hret : meth.sig.returnType = some t) (ht : t = .boolean ∨ t = .byte ∨ t = .char ∨ t = .short) (hlocks : meth.locks = false) {pc : Nat} {Ls : Array Slot} {z : Int32} {rest : List Value} (hd : decode c.code pc = .ok (.ireturn, 1)) {Q : Option Value → Heap → List Loc → Prop} {C N : Nat}
    (hq : Q (some (.int (nar t z))) T.heap locs) (h1 : cells ≤ C) (h2 : slots ≤ N) : Goes p e below (T.setTop (mkF m pc Ls (.int z :: rest))) (Fin s Q C N) :=
  Goes.out X (v := some (.int (nar t z))) (fun h => by rw [hret] at h; cases h) hlocks (fun fs hr => Jvm.RoadKit.retN X hx (t := t) hret ht hd hr) hq h1 h2
theorem Goes.retJ (X : Stand p l e R s m args below meth c T locs cells slots) (hx : p.tables.exec = Jvm.exec) (hret : meth.sig.returnType = some .long) (hlocks : meth.locks = false) {pc : Nat} {Ls : Array Slot} {z : Int64} (hd : decode c.code pc = .ok (.lreturn, 1)) {Q : Option Value → Heap → List Loc → Prop} {C N : Nat}
    (hq : Q (some (.long z)) T.heap locs) (h1 : cells ≤ C) (h2 : slots ≤ N) : Goes p e below (T.setTop (mkF m pc Ls [.long z])) (Fin s Q C N) :=
  Goes.out X (v := some (.long z)) (fun h => by rw [hret] at h; cases h) hlocks (fun fs hr => X.lreturnOut hx hret hd hr) hq h1 h2
theorem Goes.retD (X : Stand p l e R s m args below meth c T locs cells slots) (hx : p.tables.exec = Jvm.exec) (hret : meth.sig.returnType = some .double) (hlocks : meth.locks = false) {pc : Nat} {Ls : Array Slot} {z : UInt64} (hd : decode c.code pc = .ok (.dreturn, 1)) {Q : Option Value → Heap → List Loc → Prop} {C N : Nat}
    (hq : Q (some (.double z)) T.heap locs) (h1 : cells ≤ C) (h2 : slots ≤ N) : Goes p e below (T.setTop (mkF m pc Ls [.double z])) (Fin s Q C N) :=
  Goes.out X (v := some (.double z)) (fun h => by rw [hret] at h; cases h) hlocks (fun fs hr => by
    have hm' : T.vm.method? m = some meth := X.method'
    jvm_step X.here [X.here.top, hx, hd, hm', hret, narrow]
    first | (intro acts; rw [hr _ acts rfl rfl rfl]) | rw [hr _ _ rfl rfl rfl]
    exact Steps.refl _) hq h1 h2
theorem Goes.retA (X : Stand p l e R s m args below meth c T locs cells slots) (hx : p.tables.exec = Jvm.exec) {w : Value} {t : FieldType} (hw : w.isRef = true) (hret : meth.sig.returnType = some t) (ht : t.isReference = true) (hlocks : meth.locks = false) {pc : Nat} {Ls : Array Slot} (hd : decode c.code pc = .ok (.areturn, 1)) {Q : Option Value → Heap → List Loc → Prop} {C N : Nat}
    (hq : Q (some w) T.heap locs) (h1 : cells ≤ C) (h2 : slots ≤ N) : Goes p e below (T.setTop (mkF m pc Ls [w])) (Fin s Q C N) :=
  Goes.out X (v := some w) (fun h => by rw [hret] at h; cases h) hlocks (fun fs hr => X.areturnOut hx hw hret ht hd hr) hq h1 h2
theorem Goes.retV (X : Stand p l e R s m args below meth c T locs cells slots) (hx : p.tables.exec = Jvm.exec) (hret : meth.sig.returnType = none) (hlocks : meth.locks = false) {pc : Nat} {Ls : Array Slot} (hd : decode c.code pc = .ok (.return_, 1)) {Q : Option Value → Heap → List Loc → Prop} {C N : Nat}
    (hq : Q none T.heap locs) (h1 : cells ≤ C) (h2 : slots ≤ N) : Goes p e below (T.setTop (mkF m pc Ls [])) (Fin s Q C N) :=
  Goes.out X (v := none) (fun _ => rfl) hlocks (fun fs hr => X.returnOut hx hret hd hr) hq h1 h2
end New
theorem selPriv {s : State} {args : Array Value} {y : MethodName} {n : Nat} (hpriv : s.PrivateAt y) (hinst : (Cond.instanceMethod y).before args s = true) (hi : (Cond.instantiable y.cls n).before args s = true) (hy : y.cls ≠ "java/lang/invoke/MethodHandle" ∧ y.cls ≠ "java/lang/invoke/VarHandle") : (Cond.selects y.cls y y).before args s = true := by
  obtain ⟨c, k, h1, h2, -, h3, -⟩ := Cond.instantiable_spec hi
  exact Jvm.Stand.selects_self_of_private h1 h2 (by cases hk : k.isInterface <;> simp_all) hpriv hinst hy
end Jvm.RoadKit
namespace Jvm.Pilot.@@N@@
open Jvm Jvm.ClassFile Sem Op Lib Jvm.Free Jvm.Stand Jvm.LawKit Jvm.RoadKit Bundle Jvm.OwnN Jvm.Pilot.@@N@@.Jvm.D
theorem d1_0 : decode prog_73_method_1_code 0 = .ok (.aload_n 0, 1) := by decide +kernel
theorem d1_1 : decode prog_73_method_1_code 1 = .ok (.invokespecial 1, 3) := by decide +kernel
theorem d1_4 : decode prog_73_method_1_code 4 = .ok (.aload_n 0, 1) := by decide +kernel
theorem d1_5 : decode prog_73_method_1_code 5 = .ok (.ldc2_w 9, 3) := by decide +kernel
theorem d1_8 : decode prog_73_method_1_code 8 = .ok (.putfield 11, 3) := by decide +kernel
theorem d1_11 : decode prog_73_method_1_code 11 = .ok (.aload_n 0, 1) := by decide +kernel
theorem d1_12 : decode prog_73_method_1_code 12 = .ok (.ldc2_w 15, 3) := by decide +kernel
theorem d1_15 : decode prog_73_method_1_code 15 = .ok (.putfield 17, 3) := by decide +kernel
theorem d1_18 : decode prog_73_method_1_code 18 = .ok (.return_, 1) := by decide +kernel
theorem pn_0 : plainName "com/example/bit7/bit7/io/ReadBudget" = true := by first | (simp [plainName, overriddenIn]; done) | decide +kernel
theorem d4_0 : decode prog_73_method_6_code 0 = .ok (.aload_n 0, 1) := by decide +kernel
theorem d4_1 : decode prog_73_method_6_code 1 = .ok (.aload_n 0, 1) := by decide +kernel
theorem d4_2 : decode prog_73_method_6_code 2 = .ok (.getfield 44, 3) := by decide +kernel
theorem d4_5 : decode prog_73_method_6_code 5 = .ok (.ifCond .ne 21, 3) := by decide +kernel
theorem d4_8 : decode prog_73_method_6_code 8 = .ok (.lload_n 1, 1) := by decide +kernel
theorem d4_9 : decode prog_73_method_6_code 9 = .ok (.aload_n 0, 1) := by decide +kernel
theorem d4_10 : decode prog_73_method_6_code 10 = .ok (.getfield 17, 3) := by decide +kernel
theorem d4_13 : decode prog_73_method_6_code 13 = .ok (.lcmp, 1) := by decide +kernel
theorem d4_14 : decode prog_73_method_6_code 14 = .ok (.ifCond .gt 12, 3) := by decide +kernel
theorem d4_17 : decode prog_73_method_6_code 17 = .ok (.lload_n 1, 1) := by decide +kernel
theorem d4_18 : decode prog_73_method_6_code 18 = .ok (.aload_n 0, 1) := by decide +kernel
theorem d4_19 : decode prog_73_method_6_code 19 = .ok (.getfield 11, 3) := by decide +kernel
theorem d4_22 : decode prog_73_method_6_code 22 = .ok (.lcmp, 1) := by decide +kernel
theorem d4_23 : decode prog_73_method_6_code 23 = .ok (.ifCond .le 7, 3) := by decide +kernel
theorem d4_26 : decode prog_73_method_6_code 26 = .ok (.iconst 1, 1) := by decide +kernel
theorem d4_27 : decode prog_73_method_6_code 27 = .ok (.goto 4, 3) := by decide +kernel
theorem d4_30 : decode prog_73_method_6_code 30 = .ok (.iconst 0, 1) := by decide +kernel
theorem d4_31 : decode prog_73_method_6_code 31 = .ok (.putfield 44, 3) := by decide +kernel
theorem d4_34 : decode prog_73_method_6_code 34 = .ok (.aload_n 0, 1) := by decide +kernel
theorem d4_35 : decode prog_73_method_6_code 35 = .ok (.getfield 44, 3) := by decide +kernel
theorem d4_38 : decode prog_73_method_6_code 38 = .ok (.ifCond .ne 23, 3) := by decide +kernel
theorem d4_41 : decode prog_73_method_6_code 41 = .ok (.aload_n 0, 1) := by decide +kernel
theorem d4_42 : decode prog_73_method_6_code 42 = .ok (.dup, 1) := by decide +kernel
theorem d4_43 : decode prog_73_method_6_code 43 = .ok (.getfield 17, 3) := by decide +kernel
theorem d4_46 : decode prog_73_method_6_code 46 = .ok (.lload_n 1, 1) := by decide +kernel
theorem d4_47 : decode prog_73_method_6_code 47 = .ok (.lsub, 1) := by decide +kernel
theorem d4_48 : decode prog_73_method_6_code 48 = .ok (.putfield 17, 3) := by decide +kernel
theorem d4_51 : decode prog_73_method_6_code 51 = .ok (.aload_n 0, 1) := by decide +kernel
theorem d4_52 : decode prog_73_method_6_code 52 = .ok (.dup, 1) := by decide +kernel
theorem d4_53 : decode prog_73_method_6_code 53 = .ok (.getfield 11, 3) := by decide +kernel
theorem d4_56 : decode prog_73_method_6_code 56 = .ok (.lload_n 1, 1) := by decide +kernel
theorem d4_57 : decode prog_73_method_6_code 57 = .ok (.lsub, 1) := by decide +kernel
theorem d4_58 : decode prog_73_method_6_code 58 = .ok (.putfield 11, 3) := by decide +kernel
theorem d4_61 : decode prog_73_method_6_code 61 = .ok (.aload_n 0, 1) := by decide +kernel
theorem d4_62 : decode prog_73_method_6_code 62 = .ok (.getfield 44, 3) := by decide +kernel
theorem d4_65 : decode prog_73_method_6_code 65 = .ok (.ifCond .ne 7, 3) := by decide +kernel
theorem d4_68 : decode prog_73_method_6_code 68 = .ok (.iconst 1, 1) := by decide +kernel
theorem d4_69 : decode prog_73_method_6_code 69 = .ok (.goto 4, 3) := by decide +kernel
theorem d4_72 : decode prog_73_method_6_code 72 = .ok (.iconst 0, 1) := by decide +kernel
theorem d4_73 : decode prog_73_method_6_code 73 = .ok (.ireturn, 1) := by decide +kernel
theorem d3_0 : decode prog_73_method_3_code 0 = .ok (.iload 4, 2) := by decide +kernel
theorem d3_2 : decode prog_73_method_3_code 2 = .ok (.ifCond .eq 7, 3) := by decide +kernel
theorem d3_5 : decode prog_73_method_3_code 5 = .ok (.lconst 0, 1) := by decide +kernel
theorem d3_6 : decode prog_73_method_3_code 6 = .ok (.goto 6, 3) := by decide +kernel
theorem d3_9 : decode prog_73_method_3_code 9 = .ok (.ldc2_w 28, 3) := by decide +kernel
theorem d3_12 : decode prog_73_method_3_code 12 = .ok (.lstore 5, 2) := by decide +kernel
theorem d3_14 : decode prog_73_method_3_code 14 = .ok (.aload_n 0, 1) := by decide +kernel
theorem d3_15 : decode prog_73_method_3_code 15 = .ok (.ldc2_w 30, 3) := by decide +kernel
theorem d3_18 : decode prog_73_method_3_code 18 = .ok (.lload 5, 2) := by decide +kernel
theorem d3_20 : decode prog_73_method_3_code 20 = .ok (.ladd, 1) := by decide +kernel
theorem d3_21 : decode prog_73_method_3_code 21 = .ok (.ldc2_w 32, 3) := by decide +kernel
theorem d3_24 : decode prog_73_method_3_code 24 = .ok (.lload_n 1, 1) := by decide +kernel
theorem d3_25 : decode prog_73_method_3_code 25 = .ok (.lmul, 1) := by decide +kernel
theorem d3_26 : decode prog_73_method_3_code 26 = .ok (.ladd, 1) := by decide +kernel
theorem d3_27 : decode prog_73_method_3_code 27 = .ok (.ldc2_w 34, 3) := by decide +kernel
theorem d3_30 : decode prog_73_method_3_code 30 = .ok (.iload_n 3, 1) := by decide +kernel
theorem d3_31 : decode prog_73_method_3_code 31 = .ok (.i2l, 1) := by decide +kernel
theorem d3_32 : decode prog_73_method_3_code 32 = .ok (.lmul, 1) := by decide +kernel
theorem d3_33 : decode prog_73_method_3_code 33 = .ok (.ladd, 1) := by decide +kernel
theorem d3_34 : decode prog_73_method_3_code 34 = .ok (.invokevirtual 36, 3) := by decide +kernel
theorem d3_37 : decode prog_73_method_3_code 37 = .ok (.ireturn, 1) := by decide +kernel
theorem pd_1 : parseMethodDescriptor "(J)Z" = some ⟨[.long], some .boolean⟩ := by decide +kernel
theorem d5_0 : decode prog_73_method_5_code 0 = .ok (.iload_n 1, 1) := by decide +kernel
theorem d5_1 : decode prog_73_method_5_code 1 = .ok (.i2l, 1) := by decide +kernel
theorem d5_2 : decode prog_73_method_5_code 2 = .ok (.ldc2_w 40, 3) := by decide +kernel
theorem d5_5 : decode prog_73_method_5_code 5 = .ok (.lmul, 1) := by decide +kernel
theorem d5_6 : decode prog_73_method_5_code 6 = .ok (.lstore_n 2, 1) := by decide +kernel
theorem d5_7 : decode prog_73_method_5_code 7 = .ok (.aload_n 0, 1) := by decide +kernel
theorem d5_8 : decode prog_73_method_5_code 8 = .ok (.dup, 1) := by decide +kernel
theorem d5_9 : decode prog_73_method_5_code 9 = .ok (.getfield 11, 3) := by decide +kernel
theorem d5_12 : decode prog_73_method_5_code 12 = .ok (.ldc2_w 42, 3) := by decide +kernel
theorem d5_15 : decode prog_73_method_5_code 15 = .ok (.lload_n 2, 1) := by decide +kernel
theorem d5_16 : decode prog_73_method_5_code 16 = .ok (.ladd, 1) := by decide +kernel
theorem d5_17 : decode prog_73_method_5_code 17 = .ok (.lsub, 1) := by decide +kernel
theorem d5_18 : decode prog_73_method_5_code 18 = .ok (.putfield 11, 3) := by decide +kernel
theorem d5_21 : decode prog_73_method_5_code 21 = .ok (.aload_n 0, 1) := by decide +kernel
theorem d5_22 : decode prog_73_method_5_code 22 = .ok (.dup, 1) := by decide +kernel
theorem d5_23 : decode prog_73_method_5_code 23 = .ok (.getfield 17, 3) := by decide +kernel
theorem d5_26 : decode prog_73_method_5_code 26 = .ok (.lload_n 2, 1) := by decide +kernel
theorem d5_27 : decode prog_73_method_5_code 27 = .ok (.lsub, 1) := by decide +kernel
theorem d5_28 : decode prog_73_method_5_code 28 = .ok (.putfield 17, 3) := by decide +kernel
theorem d5_31 : decode prog_73_method_5_code 31 = .ok (.return_, 1) := by decide +kernel
theorem d6_0 : decode method_2_code 0 = .ok (.iload_n 0, 1) := by decide +kernel
theorem d6_1 : decode method_2_code 1 = .ok (.ifCond .eq 7, 3) := by decide +kernel
theorem d6_4 : decode method_2_code 4 = .ok (.ldc2_w 7, 3) := by decide +kernel
theorem d6_7 : decode method_2_code 7 = .ok (.lreturn, 1) := by decide +kernel
theorem d6_8 : decode method_2_code 8 = .ok (.ldc2_w 9, 3) := by decide +kernel
theorem d6_11 : decode method_2_code 11 = .ok (.lreturn, 1) := by decide +kernel
theorem pn_2 : plainName "com/example/bit7/bit7/io/ReadBudgetTakeEntityPinLaw" = true := by first | (simp [plainName, overriddenIn]; done) | decide +kernel
theorem d7_0 : decode prog_73_method_2_code 0 = .ok (.iload_n 1, 1) := by decide +kernel
theorem d7_1 : decode prog_73_method_2_code 1 = .ok (.ifCond .eq 9, 3) := by decide +kernel
theorem d7_4 : decode prog_73_method_2_code 4 = .ok (.ldc2_w 20, 3) := by decide +kernel
theorem d7_7 : decode prog_73_method_2_code 7 = .ok (.goto 6, 3) := by decide +kernel
theorem d7_10 : decode prog_73_method_2_code 10 = .ok (.ldc2_w 22, 3) := by decide +kernel
theorem d7_13 : decode prog_73_method_2_code 13 = .ok (.lstore_n 2, 1) := by decide +kernel
theorem d7_14 : decode prog_73_method_2_code 14 = .ok (.aload_n 0, 1) := by decide +kernel
theorem d7_15 : decode prog_73_method_2_code 15 = .ok (.aload_n 0, 1) := by decide +kernel
theorem d7_16 : decode prog_73_method_2_code 16 = .ok (.getfield 24, 3) := by decide +kernel
theorem d7_19 : decode prog_73_method_2_code 19 = .ok (.ifCond .ne 12, 3) := by decide +kernel
theorem d7_22 : decode prog_73_method_2_code 22 = .ok (.lload_n 2, 1) := by decide +kernel
theorem d7_23 : decode prog_73_method_2_code 23 = .ok (.aload_n 0, 1) := by decide +kernel
theorem d7_24 : decode prog_73_method_2_code 24 = .ok (.getfield 11, 3) := by decide +kernel
theorem d7_27 : decode prog_73_method_2_code 27 = .ok (.lcmp, 1) := by decide +kernel
theorem d7_28 : decode prog_73_method_2_code 28 = .ok (.ifCond .le 7, 3) := by decide +kernel
theorem d7_31 : decode prog_73_method_2_code 31 = .ok (.iconst 1, 1) := by decide +kernel
theorem d7_32 : decode prog_73_method_2_code 32 = .ok (.goto 4, 3) := by decide +kernel
theorem d7_35 : decode prog_73_method_2_code 35 = .ok (.iconst 0, 1) := by decide +kernel
theorem d7_36 : decode prog_73_method_2_code 36 = .ok (.putfield 24, 3) := by decide +kernel
theorem d7_39 : decode prog_73_method_2_code 39 = .ok (.aload_n 0, 1) := by decide +kernel
theorem d7_40 : decode prog_73_method_2_code 40 = .ok (.getfield 24, 3) := by decide +kernel
theorem d7_43 : decode prog_73_method_2_code 43 = .ok (.ifCond .ne 13, 3) := by decide +kernel
theorem d7_46 : decode prog_73_method_2_code 46 = .ok (.aload_n 0, 1) := by decide +kernel
theorem d7_47 : decode prog_73_method_2_code 47 = .ok (.dup, 1) := by decide +kernel
theorem d7_48 : decode prog_73_method_2_code 48 = .ok (.getfield 11, 3) := by decide +kernel
theorem d7_51 : decode prog_73_method_2_code 51 = .ok (.lload_n 2, 1) := by decide +kernel
theorem d7_52 : decode prog_73_method_2_code 52 = .ok (.lsub, 1) := by decide +kernel
theorem d7_53 : decode prog_73_method_2_code 53 = .ok (.putfield 11, 3) := by decide +kernel
theorem d7_56 : decode prog_73_method_2_code 56 = .ok (.aload_n 0, 1) := by decide +kernel
theorem d7_57 : decode prog_73_method_2_code 57 = .ok (.getfield 24, 3) := by decide +kernel
theorem d7_60 : decode prog_73_method_2_code 60 = .ok (.ifCond .ne 7, 3) := by decide +kernel
theorem d7_63 : decode prog_73_method_2_code 63 = .ok (.iconst 1, 1) := by decide +kernel
theorem d7_64 : decode prog_73_method_2_code 64 = .ok (.goto 4, 3) := by decide +kernel
theorem d7_67 : decode prog_73_method_2_code 67 = .ok (.iconst 0, 1) := by decide +kernel
theorem d7_68 : decode prog_73_method_2_code 68 = .ok (.ireturn, 1) := by decide +kernel
theorem pd_3 : parseMethodDescriptor "()V" = some ⟨[], none⟩ := by decide +kernel
theorem pd_4 : parseMethodDescriptor "(JIZ)Z" = some ⟨[.long, .int, .boolean], some .boolean⟩ := by decide +kernel
theorem pd_5 : parseMethodDescriptor "(I)V" = some ⟨[.int], none⟩ := by decide +kernel
theorem pd_6 : parseMethodDescriptor "(Z)J" = some ⟨[.boolean], some .long⟩ := by decide +kernel
theorem pd_7 : parseMethodDescriptor "(Z)Z" = some ⟨[.boolean], some .boolean⟩ := by decide +kernel
theorem ef_1 (m : MethodId) (x0 : Addr) : entryFrame m #[(.ref x0)] 1 = mkF m 0 #[.val (.ref x0)] [] := by first | (simp [entryFrame, mkF, argsToLocals, Value.category]; done) | rfl
def Q1 (Z : State) (a1 : Addr) (h0 : Heap) (n0 : Nat) (v : Option Value) (h : Heap) (L : List Loc) : Prop := v = none ∧ Fr n0 L ∧ Keep h0 h [a1] ∧ Exa Z h a1 "com/example/bit7/bit7/io/ReadBudget" ∧ Fld Z h a1 "com/example/bit7/bit7/io/ReadBudget" "left" "J" (.long (50331572 : Int64)) ∧ Fld Z h a1 "com/example/bit7/bit7/io/ReadBudget" "fieldsLeft" "J" (.long (33554432 : Int64)) ∧ Fld Z h a1 "com/example/bit7/bit7/io/ReadBudget" "spent" "Z" (.int (0 : Int32)) ∧ Fld Z h a1 "com/example/bit7/bit7/io/ReadBudget" "entitiesSpent" "Z" (.int (0 : Int32))
set_option maxRecDepth 65536 in
set_option maxHeartbeats 40000000 in
theorem rm1 (l : Launch) (Z : State) (a0 : Array Value) (hw : ∀ d ∈ tables_1, d.before a0 Z = true) (ws : List Jvm.Cond) (a1 : Addr) (h0 : Heap) (n0 : Nat) (Z0 : n0 ≤ h0.size) (E : Exa Z h0 a1 "com/example/bit7/bit7/io/ReadBudget") (g : n0 ≤ a1) (F_left : Fld Z h0 a1 "com/example/bit7/bit7/io/ReadBudget" "left" "J" (.long (0 : Int64))) (F_fieldsLeft : Fld Z h0 a1 "com/example/bit7/bit7/io/ReadBudget" "fieldsLeft" "J" (.long (0 : Int64))) (F_spent : Fld Z h0 a1 "com/example/bit7/bit7/io/ReadBudget" "spent" "Z" (.int (0 : Int32))) (F_entitiesSpent : Fld Z h0 a1 "com/example/bit7/bit7/io/ReadBudget" "entitiesSpent" "Z" (.int (0 : Int32))) :
    MetFree l (⟨"com/example/bit7/bit7/io/ReadBudget", "<init>", "()V"⟩ : MethodName) (head1 (Jvm.Cond.code (⟨"com/example/bit7/bit7/io/ReadBudget", "<init>", "()V"⟩ : MethodName) prog_73_method_1_code 1 none :: ws) ({ frames := 1, cells := 0, slots := 0, locals := 12 } : Room)) (fun a U => a = #[(.ref a1)] ∧ Z.Warmed39 U.vm ∧ U.heap = h0) (fun _ _ _ _ _ => True) (fun _ U o U' => ∃ v L, o = .returned v ∧ Q1 Z a1 h0 n0 v U'.heap L ∧ FrameEnd U o U' L ({ frames := 1, cells := 0, slots := 0, locals := 12 } : Room).cells ({ frames := 1, cells := 0, slots := 0, locals := 12 } : Room).slots) := by
  refine MetFree.of_bodySF (plainFor_of_name pn_0) hisR ?_
  intro p e s m args below meth c s₁ Bd hml0 hP hK
  obtain ⟨rfl, hZ, hh⟩ := hP
  have hx := Bd.exec
  have hby := Bd.bytes
  have hml : c.maxLocals = 1 := hml0
  have hown : s.vm.findClass "com/example/bit7/bit7/io/ReadBudget" = some m.cls := findClass_of_methodNamed Bd.named
  have hnm := (name_of_methodNamed Bd.named Bd.method).1
  have hlocks : meth.locks = false := BodyLoose.notSynchronized Bd
  have X0 : Stand p l e ({ frames := 1, cells := 0, slots := 0, locals := 12 } : Room) s m #[(.ref a1)] below meth c s₁ [] 0 0 := Stand.of_body Bd
  have e0 : s₁.heap = h0 := by rw [← hh, Bd.state]; rfl
  have N0 := Fr.nil n0
  show Goes p e below (s₁.setTop (entryFrame m #[(.ref a1)] 1)) (Fin s (Q1 Z a1 h0 n0) ({ frames := 1, cells := 0, slots := 0, locals := 12 } : Room).cells ({ frames := 1, cells := 0, slots := 0, locals := 12 } : Room).slots)
  refine Goes.of (fun t k => castTop (ef_1 m a1) k) ?_
  have K0 : Keep h0 h0 [a1] := Keep.refl _ _
  show Goes p e below (s₁.setTop (mkF m 0 #[.val (.ref a1)] [])) _
  refine Goes.of (fun t k => XS.aloadN X0.here hx rfl (hb hby d1_0) rfl rfl k) ?_
  show Goes p e below (s₁.setTop (mkF m 1 #[.val (.ref a1)] [(.ref a1)])) _
  obtain ⟨T1, X1, e1, st1⟩ := initO X0 hx hZ hown (hw _ (List.mem_of_getElem? (i := 6) rfl)) (hw _ (List.mem_of_getElem? (i := 7) rfl)) (hw _ (List.mem_of_getElem? (i := 8) rfl)) e0 (g := (mkF m 1 #[.val (.ref a1)] [(.ref a1)])) rfl (by rw [hml]; rfl) rfl (hb hby d1_1) (by decide) (W := 0) (by show 2 * 0 + _ ≤ _; exact Nat.le_of_eq rfl) (by decide)
  refine Goes.of st1 ?_
  show Goes p e below (T1.setTop (mkF m 4 #[.val (.ref a1)] [])) _
  refine Goes.of (fun t k => XS.aloadN X1.here hx rfl (hb hby d1_4) rfl rfl k) ?_
  show Goes p e below (T1.setTop (mkF m 5 #[.val (.ref a1)] [(.ref a1)])) _
  refine Goes.of (fun t k => X1.ldc2Long hx hown (mvT hZ (hw _ (List.mem_of_getElem? (i := 9) rfl))) (g := (mkF m 5 #[.val (.ref a1)] [(.ref a1)])) rfl (hb hby d1_5) _ k) ?_
  show Goes p e below (T1.setTop (mkF m 8 #[.val (.ref a1)] [(.long (50331572 : Int64)), (.ref a1)])) _
  obtain ⟨T2, h2, X2, e2, W2, st2⟩ := putF X1 hx hZ hown (host := "") (Or.inl (hw _ (List.mem_of_getElem? (i := 10) rfl))) Via.refl e1 F_left E (Or.inl (hw _ (List.mem_of_getElem? (i := 11) rfl))) (hw _ (List.mem_of_getElem? (i := 1) rfl)) (ty := .long) (by decide) rfl rfl (g := (mkF m 8 #[.val (.ref a1)] [(.long (50331572 : Int64)), (.ref a1)])) rfl rfl (hb hby d1_8)
  have f3 := F_left.same W2
  have K4 : Keep h0 h2 [a1] := K0.wr W2 (Or.inl (List.mem_of_getElem? (i := 0) rfl))
  have z5 : n0 ≤ h2.size := Nat.le_trans Z0 (Keep.of_wr W2).1
  have f6 := E.wr W2
  have f8 := F_fieldsLeft.other W2 (Or.inr (slot_ne (Or.inl (hw _ (List.mem_of_getElem? (i := 14) rfl))) (Or.inl (hw _ (List.mem_of_getElem? (i := 11) rfl))) (by decide) (t := .long) (t' := .long) (by decide) (by decide)))
  have f9 := F_spent.other W2 (Or.inr (slot_ne (Or.inl (hw _ (List.mem_of_getElem? (i := 31) rfl))) (Or.inl (hw _ (List.mem_of_getElem? (i := 11) rfl))) (by decide) (t := .boolean) (t' := .long) (by decide) (by decide)))
  have f10 := F_entitiesSpent.other W2 (Or.inr (slot_ne (Or.inl (hw _ (List.mem_of_getElem? (i := 55) rfl))) (Or.inl (hw _ (List.mem_of_getElem? (i := 11) rfl))) (by decide) (t := .boolean) (t' := .long) (by decide) (by decide)))
  have N2 := Fr.snoc X2 N0 g
  refine Goes.of st2 ?_
  show Goes p e below (T2.setTop (mkF m 11 #[.val (.ref a1)] [])) _
  refine Goes.of (fun t k => XS.aloadN X2.here hx rfl (hb hby d1_11) rfl rfl k) ?_
  show Goes p e below (T2.setTop (mkF m 12 #[.val (.ref a1)] [(.ref a1)])) _
  refine Goes.of (fun t k => X2.ldc2Long hx hown (mvT hZ (hw _ (List.mem_of_getElem? (i := 12) rfl))) (g := (mkF m 12 #[.val (.ref a1)] [(.ref a1)])) rfl (hb hby d1_12) _ k) ?_
  show Goes p e below (T2.setTop (mkF m 15 #[.val (.ref a1)] [(.long (33554432 : Int64)), (.ref a1)])) _
  obtain ⟨T11, h11, X11, e11, W11, st11⟩ := putF X2 hx hZ hown (host := "") (Or.inl (hw _ (List.mem_of_getElem? (i := 13) rfl))) Via.refl e2 f8 f6 (Or.inl (hw _ (List.mem_of_getElem? (i := 14) rfl))) (hw _ (List.mem_of_getElem? (i := 1) rfl)) (ty := .long) (by decide) rfl rfl (g := (mkF m 15 #[.val (.ref a1)] [(.long (33554432 : Int64)), (.ref a1)])) rfl rfl (hb hby d1_15)
  have f12 := f8.same W11
  have K13 : Keep h0 h11 [a1] := K4.wr W11 (Or.inl (List.mem_of_getElem? (i := 0) rfl))
  have z14 : n0 ≤ h11.size := Nat.le_trans z5 (Keep.of_wr W11).1
  have f15 := f6.wr W11
  have f16 := f3.other W11 (Or.inr (slot_ne (Or.inl (hw _ (List.mem_of_getElem? (i := 11) rfl))) (Or.inl (hw _ (List.mem_of_getElem? (i := 14) rfl))) (by decide) (t := .long) (t' := .long) (by decide) (by decide)))
  have f18 := f9.other W11 (Or.inr (slot_ne (Or.inl (hw _ (List.mem_of_getElem? (i := 31) rfl))) (Or.inl (hw _ (List.mem_of_getElem? (i := 14) rfl))) (by decide) (t := .boolean) (t' := .long) (by decide) (by decide)))
  have f19 := f10.other W11 (Or.inr (slot_ne (Or.inl (hw _ (List.mem_of_getElem? (i := 55) rfl))) (Or.inl (hw _ (List.mem_of_getElem? (i := 14) rfl))) (by decide) (t := .boolean) (t' := .long) (by decide) (by decide)))
  have N11 := Fr.snoc X11 N2 g
  refine Goes.of st11 ?_
  show Goes p e below (T11.setTop (mkF m 18 #[.val (.ref a1)] [])) _
  have eh : T11.heap = h11 := e11
  exact Goes.retV X11 hx Bd.returns hlocks (hb hby d1_18) (⟨rfl, N11, by rw [eh]; exact K13, by rw [eh]; exact f15, by rw [eh]; exact f16, by rw [eh]; exact f12, by rw [eh]; exact f18, by rw [eh]; exact f19⟩) (by decide) (by decide)
theorem ef_4 (m : MethodId) (x0 : Addr) (x1 : Int64) : entryFrame m #[(.ref x0), (.long x1)] 3 = mkF m 0 #[.val (.ref x0), .val (.long x1), .second] [] := by first | (simp [entryFrame, mkF, argsToLocals, Value.category]; done) | rfl
def Q4 (Z : State) (a1 : Addr) (q2 : Int64) (wl : Int64) (wf : Int64) (we : Int32) (h0 : Heap) (n0 : Nat) (v : Option Value) (h : Heap) (L : List Loc) : Prop := v = some (.int 1) ∧ Fr n0 L ∧ Keep h0 h [a1] ∧ Exa Z h a1 "com/example/bit7/bit7/io/ReadBudget" ∧ Fld Z h a1 "com/example/bit7/bit7/io/ReadBudget" "left" "J" (.long (wl - q2)) ∧ Fld Z h a1 "com/example/bit7/bit7/io/ReadBudget" "fieldsLeft" "J" (.long (wf - q2)) ∧ Fld Z h a1 "com/example/bit7/bit7/io/ReadBudget" "spent" "Z" (.int (0 : Int32)) ∧ Fld Z h a1 "com/example/bit7/bit7/io/ReadBudget" "entitiesSpent" "Z" (.int we)
set_option maxRecDepth 65536 in
set_option maxHeartbeats 40000000 in
theorem rm4 (l : Launch) (Z : State) (a0 : Array Value) (hw : ∀ d ∈ tables_1, d.before a0 Z = true) (ws : List Jvm.Cond) (a1 : Addr) (q2 : Int64) (wl : Int64) (wf : Int64) (we : Int32) (h0 : Heap) (n0 : Nat) (Z0 : n0 ≤ h0.size) (E : Exa Z h0 a1 "com/example/bit7/bit7/io/ReadBudget") (g : n0 ≤ a1) (F_left : Fld Z h0 a1 "com/example/bit7/bit7/io/ReadBudget" "left" "J" (.long wl)) (F_fieldsLeft : Fld Z h0 a1 "com/example/bit7/bit7/io/ReadBudget" "fieldsLeft" "J" (.long wf)) (F_spent : Fld Z h0 a1 "com/example/bit7/bit7/io/ReadBudget" "spent" "Z" (.int (0 : Int32))) (F_entitiesSpent : Fld Z h0 a1 "com/example/bit7/bit7/io/ReadBudget" "entitiesSpent" "Z" (.int we)) (k1 : ¬ (wf < q2)) (k2 : ¬ (wl < q2)) :
    MetFree l (⟨"com/example/bit7/bit7/io/ReadBudget", "takeForFields", "(J)Z"⟩ : MethodName) (head1 (Jvm.Cond.code (⟨"com/example/bit7/bit7/io/ReadBudget", "takeForFields", "(J)Z"⟩ : MethodName) prog_73_method_6_code 3 (some .boolean) :: ws) ({ frames := 0, cells := 0, slots := 0, locals := 0 } : Room)) (fun a U => a = #[(.ref a1), (.long q2)] ∧ Z.Warmed39 U.vm ∧ U.heap = h0) (fun _ _ _ _ _ => True) (fun _ U o U' => ∃ v L, o = .returned v ∧ Q4 Z a1 q2 wl wf we h0 n0 v U'.heap L ∧ FrameEnd U o U' L ({ frames := 0, cells := 0, slots := 0, locals := 0 } : Room).cells ({ frames := 0, cells := 0, slots := 0, locals := 0 } : Room).slots) := by
  refine MetFree.of_bodySF (plainFor_of_name pn_0) hisR ?_
  intro p e s m args below meth c s₁ Bd hml0 hP hK
  obtain ⟨rfl, hZ, hh⟩ := hP
  have hx := Bd.exec
  have hby := Bd.bytes
  have hml : c.maxLocals = 3 := hml0
  have hown : s.vm.findClass "com/example/bit7/bit7/io/ReadBudget" = some m.cls := findClass_of_methodNamed Bd.named
  have hnm := (name_of_methodNamed Bd.named Bd.method).1
  have hlocks : meth.locks = false := BodyLoose.notSynchronized Bd
  have X0 : Stand p l e ({ frames := 0, cells := 0, slots := 0, locals := 0 } : Room) s m #[(.ref a1), (.long q2)] below meth c s₁ [] 0 0 := Stand.of_body Bd
  have e0 : s₁.heap = h0 := by rw [← hh, Bd.state]; rfl
  have N0 := Fr.nil n0
  show Goes p e below (s₁.setTop (entryFrame m #[(.ref a1), (.long q2)] 3)) (Fin s (Q4 Z a1 q2 wl wf we h0 n0) ({ frames := 0, cells := 0, slots := 0, locals := 0 } : Room).cells ({ frames := 0, cells := 0, slots := 0, locals := 0 } : Room).slots)
  refine Goes.of (fun t k => castTop (ef_4 m a1 q2) k) ?_
  have K0 : Keep h0 h0 [a1] := Keep.refl _ _
  show Goes p e below (s₁.setTop (mkF m 0 #[.val (.ref a1), .val (.long q2), .second] [])) _
  refine Goes.of (fun t k => XS.aloadN X0.here hx rfl (hb hby d4_0) rfl rfl k) ?_
  show Goes p e below (s₁.setTop (mkF m 1 #[.val (.ref a1), .val (.long q2), .second] [(.ref a1)])) _
  refine Goes.of (fun t k => XS.aloadN X0.here hx rfl (hb hby d4_1) rfl rfl k) ?_
  show Goes p e below (s₁.setTop (mkF m 2 #[.val (.ref a1), .val (.long q2), .second] [(.ref a1), (.ref a1)])) _
  obtain ⟨T20, X20, e20, st20⟩ := getF X0 hx hZ hown (host := "") (Or.inl (hw _ (List.mem_of_getElem? (i := 30) rfl))) Via.refl e0 F_spent (g := (mkF m 2 #[.val (.ref a1), .val (.long q2), .second] [(.ref a1), (.ref a1)])) rfl rfl (hb hby d4_2)
  refine Goes.of st20 ?_
  show Goes p e below (T20.setTop (mkF m 5 #[.val (.ref a1), .val (.long q2), .second] [(.int (0 : Int32)), (.ref a1)])) _
  refine Goes.of (fun t k => XS.ifNo X20.here hx rfl (hb hby d4_5) rfl ((if0 _ _).trans (teq (by decide)).2) k) ?_
  show Goes p e below (T20.setTop (mkF m 8 #[.val (.ref a1), .val (.long q2), .second] [(.ref a1)])) _
  refine Goes.of (fun t k => XS.lloadN X20.here hx rfl (hb hby d4_8) rfl k) ?_
  show Goes p e below (T20.setTop (mkF m 9 #[.val (.ref a1), .val (.long q2), .second] [(.long q2), (.ref a1)])) _
  refine Goes.of (fun t k => XS.aloadN X20.here hx rfl (hb hby d4_9) rfl rfl k) ?_
  show Goes p e below (T20.setTop (mkF m 10 #[.val (.ref a1), .val (.long q2), .second] [(.ref a1), (.long q2), (.ref a1)])) _
  obtain ⟨T21, X21, e21, st21⟩ := getF X20 hx hZ hown (host := "") (Or.inl (hw _ (List.mem_of_getElem? (i := 13) rfl))) Via.refl e20 F_fieldsLeft (g := (mkF m 10 #[.val (.ref a1), .val (.long q2), .second] [(.ref a1), (.long q2), (.ref a1)])) rfl rfl (hb hby d4_10)
  refine Goes.of st21 ?_
  show Goes p e below (T21.setTop (mkF m 13 #[.val (.ref a1), .val (.long q2), .second] [(.long wf), (.long q2), (.ref a1)])) _
  refine Goes.of (fun t k => XS.lcmp X21.here hx rfl (hb hby d4_13) rfl k) ?_
  show Goes p e below (T21.setTop (mkF m 14 #[.val (.ref a1), .val (.long q2), .second] [(.int (lcmpW q2 wf)), (.ref a1)])) _
  have hd14_22 : ¬ (wf < q2) := k1
  refine Goes.of (fun t k => XS.ifNo X21.here hx rfl (hb hby d4_14) rfl ((if0 _ _).trans (flt (mt (lw_gt _ _).mp hd14_22)).2.2.1) k) ?_
  show Goes p e below (T21.setTop (mkF m 17 #[.val (.ref a1), .val (.long q2), .second] [(.ref a1)])) _
  refine Goes.of (fun t k => XS.lloadN X21.here hx rfl (hb hby d4_17) rfl k) ?_
  show Goes p e below (T21.setTop (mkF m 18 #[.val (.ref a1), .val (.long q2), .second] [(.long q2), (.ref a1)])) _
  refine Goes.of (fun t k => XS.aloadN X21.here hx rfl (hb hby d4_18) rfl rfl k) ?_
  show Goes p e below (T21.setTop (mkF m 19 #[.val (.ref a1), .val (.long q2), .second] [(.ref a1), (.long q2), (.ref a1)])) _
  obtain ⟨T23, X23, e23, st23⟩ := getF X21 hx hZ hown (host := "") (Or.inl (hw _ (List.mem_of_getElem? (i := 10) rfl))) Via.refl e21 F_left (g := (mkF m 19 #[.val (.ref a1), .val (.long q2), .second] [(.ref a1), (.long q2), (.ref a1)])) rfl rfl (hb hby d4_19)
  refine Goes.of st23 ?_
  show Goes p e below (T23.setTop (mkF m 22 #[.val (.ref a1), .val (.long q2), .second] [(.long wl), (.long q2), (.ref a1)])) _
  refine Goes.of (fun t k => XS.lcmp X23.here hx rfl (hb hby d4_22) rfl k) ?_
  show Goes p e below (T23.setTop (mkF m 23 #[.val (.ref a1), .val (.long q2), .second] [(.int (lcmpW q2 wl)), (.ref a1)])) _
  have hd23_24 : ¬ (wl < q2) := k2
  refine Goes.of (fun t k => XS.ifYes X23.here hx rfl (pc0 := 23) (pc' := 30) rfl (hb hby d4_23) rfl ((if0 _ _).trans (flt (mt (lw_gt _ _).mp hd23_24)).2.2.2) (by decide) (by decide) k) ?_
  show Goes p e below (T23.setTop (mkF m 30 #[.val (.ref a1), .val (.long q2), .second] [(.ref a1)])) _
  refine Goes.of (fun t k => XS.iconst X23.here hx rfl (hb hby d4_30) k) ?_
  show Goes p e below (T23.setTop (mkF m 31 #[.val (.ref a1), .val (.long q2), .second] [(.int (0 : Int32)), (.ref a1)])) _
  obtain ⟨T25, h25, X25, e25, W25, st25⟩ := putFN X23 hx hZ hown (hw _ (List.mem_of_getElem? (i := 30) rfl)) Via.refl e23 F_spent E (Or.inl (hw _ (List.mem_of_getElem? (i := 31) rfl))) (hw _ (List.mem_of_getElem? (i := 1) rfl)) (ty := .boolean) (v' := (.int (0 : Int32))) (by decide) rfl (by decide) (g := (mkF m 31 #[.val (.ref a1), .val (.long q2), .second] [(.int (0 : Int32)), (.ref a1)])) rfl rfl (hb hby d4_31)
  have f26 := F_spent.same W25
  have K27 : Keep h0 h25 [a1] := K0.wr W25 (Or.inl (List.mem_of_getElem? (i := 0) rfl))
  have z28 : n0 ≤ h25.size := Nat.le_trans Z0 (Keep.of_wr W25).1
  have f29 := E.wr W25
  have f30 := F_left.other W25 (Or.inr (slot_ne (Or.inl (hw _ (List.mem_of_getElem? (i := 11) rfl))) (Or.inl (hw _ (List.mem_of_getElem? (i := 31) rfl))) (by decide) (t := .long) (t' := .boolean) (by decide) (by decide)))
  have f31 := F_fieldsLeft.other W25 (Or.inr (slot_ne (Or.inl (hw _ (List.mem_of_getElem? (i := 14) rfl))) (Or.inl (hw _ (List.mem_of_getElem? (i := 31) rfl))) (by decide) (t := .long) (t' := .boolean) (by decide) (by decide)))
  have f33 := F_entitiesSpent.other W25 (Or.inr (slot_ne (Or.inl (hw _ (List.mem_of_getElem? (i := 55) rfl))) (Or.inl (hw _ (List.mem_of_getElem? (i := 31) rfl))) (by decide) (t := .boolean) (t' := .boolean) (by decide) (by decide)))
  have N25 := Fr.snoc X25 N0 g
  refine Goes.of st25 ?_
  show Goes p e below (T25.setTop (mkF m 34 #[.val (.ref a1), .val (.long q2), .second] [])) _
  refine Goes.of (fun t k => XS.aloadN X25.here hx rfl (hb hby d4_34) rfl rfl k) ?_
  show Goes p e below (T25.setTop (mkF m 35 #[.val (.ref a1), .val (.long q2), .second] [(.ref a1)])) _
  obtain ⟨T34, X34, e34, st34⟩ := getF X25 hx hZ hown (host := "") (Or.inl (hw _ (List.mem_of_getElem? (i := 30) rfl))) Via.refl e25 f26 (g := (mkF m 35 #[.val (.ref a1), .val (.long q2), .second] [(.ref a1)])) rfl rfl (hb hby d4_35)
  refine Goes.of st34 ?_
  show Goes p e below (T34.setTop (mkF m 38 #[.val (.ref a1), .val (.long q2), .second] [(.int (0 : Int32))])) _
  refine Goes.of (fun t k => XS.ifNo X34.here hx rfl (hb hby d4_38) rfl ((if0 _ _).trans (teq (by decide)).2) k) ?_
  show Goes p e below (T34.setTop (mkF m 41 #[.val (.ref a1), .val (.long q2), .second] [])) _
  refine Goes.of (fun t k => XS.aloadN X34.here hx rfl (hb hby d4_41) rfl rfl k) ?_
  show Goes p e below (T34.setTop (mkF m 42 #[.val (.ref a1), .val (.long q2), .second] [(.ref a1)])) _
  refine Goes.of (fun t k => XS.dup X34.here hx rfl (hb hby d4_42) rfl rfl k) ?_
  show Goes p e below (T34.setTop (mkF m 43 #[.val (.ref a1), .val (.long q2), .second] [(.ref a1), (.ref a1)])) _
  obtain ⟨T35, X35, e35, st35⟩ := getF X34 hx hZ hown (host := "") (Or.inl (hw _ (List.mem_of_getElem? (i := 13) rfl))) Via.refl e34 f31 (g := (mkF m 43 #[.val (.ref a1), .val (.long q2), .second] [(.ref a1), (.ref a1)])) rfl rfl (hb hby d4_43)
  refine Goes.of st35 ?_
  show Goes p e below (T35.setTop (mkF m 46 #[.val (.ref a1), .val (.long q2), .second] [(.long wf), (.ref a1)])) _
  refine Goes.of (fun t k => XS.lloadN X35.here hx rfl (hb hby d4_46) rfl k) ?_
  show Goes p e below (T35.setTop (mkF m 47 #[.val (.ref a1), .val (.long q2), .second] [(.long q2), (.long wf), (.ref a1)])) _
  refine Goes.of (fun t k => XS.lsub X35.here hx rfl (hb hby d4_47) rfl k) ?_
  show Goes p e below (T35.setTop (mkF m 48 #[.val (.ref a1), .val (.long q2), .second] [(.long (wf - q2)), (.ref a1)])) _
  obtain ⟨T36, h36, X36, e36, W36, st36⟩ := putF X35 hx hZ hown (host := "") (Or.inl (hw _ (List.mem_of_getElem? (i := 13) rfl))) Via.refl e35 f31 f29 (Or.inl (hw _ (List.mem_of_getElem? (i := 14) rfl))) (hw _ (List.mem_of_getElem? (i := 1) rfl)) (ty := .long) (by decide) rfl rfl (g := (mkF m 48 #[.val (.ref a1), .val (.long q2), .second] [(.long (wf - q2)), (.ref a1)])) rfl rfl (hb hby d4_48)
  have f37 := f31.same W36
  have K38 : Keep h0 h36 [a1] := K27.wr W36 (Or.inl (List.mem_of_getElem? (i := 0) rfl))
  have z39 : n0 ≤ h36.size := Nat.le_trans z28 (Keep.of_wr W36).1
  have f40 := f29.wr W36
  have f41 := f30.other W36 (Or.inr (slot_ne (Or.inl (hw _ (List.mem_of_getElem? (i := 11) rfl))) (Or.inl (hw _ (List.mem_of_getElem? (i := 14) rfl))) (by decide) (t := .long) (t' := .long) (by decide) (by decide)))
  have f43 := f26.other W36 (Or.inr (slot_ne (Or.inl (hw _ (List.mem_of_getElem? (i := 31) rfl))) (Or.inl (hw _ (List.mem_of_getElem? (i := 14) rfl))) (by decide) (t := .boolean) (t' := .long) (by decide) (by decide)))
  have f44 := f33.other W36 (Or.inr (slot_ne (Or.inl (hw _ (List.mem_of_getElem? (i := 55) rfl))) (Or.inl (hw _ (List.mem_of_getElem? (i := 14) rfl))) (by decide) (t := .boolean) (t' := .long) (by decide) (by decide)))
  have N36 := Fr.snoc X36 N25 g
  refine Goes.of st36 ?_
  show Goes p e below (T36.setTop (mkF m 51 #[.val (.ref a1), .val (.long q2), .second] [])) _
  refine Goes.of (fun t k => XS.aloadN X36.here hx rfl (hb hby d4_51) rfl rfl k) ?_
  show Goes p e below (T36.setTop (mkF m 52 #[.val (.ref a1), .val (.long q2), .second] [(.ref a1)])) _
  refine Goes.of (fun t k => XS.dup X36.here hx rfl (hb hby d4_52) rfl rfl k) ?_
  show Goes p e below (T36.setTop (mkF m 53 #[.val (.ref a1), .val (.long q2), .second] [(.ref a1), (.ref a1)])) _
  obtain ⟨T45, X45, e45, st45⟩ := getF X36 hx hZ hown (host := "") (Or.inl (hw _ (List.mem_of_getElem? (i := 10) rfl))) Via.refl e36 f41 (g := (mkF m 53 #[.val (.ref a1), .val (.long q2), .second] [(.ref a1), (.ref a1)])) rfl rfl (hb hby d4_53)
  refine Goes.of st45 ?_
  show Goes p e below (T45.setTop (mkF m 56 #[.val (.ref a1), .val (.long q2), .second] [(.long wl), (.ref a1)])) _
  refine Goes.of (fun t k => XS.lloadN X45.here hx rfl (hb hby d4_56) rfl k) ?_
  show Goes p e below (T45.setTop (mkF m 57 #[.val (.ref a1), .val (.long q2), .second] [(.long q2), (.long wl), (.ref a1)])) _
  refine Goes.of (fun t k => XS.lsub X45.here hx rfl (hb hby d4_57) rfl k) ?_
  show Goes p e below (T45.setTop (mkF m 58 #[.val (.ref a1), .val (.long q2), .second] [(.long (wl - q2)), (.ref a1)])) _
  obtain ⟨T46, h46, X46, e46, W46, st46⟩ := putF X45 hx hZ hown (host := "") (Or.inl (hw _ (List.mem_of_getElem? (i := 10) rfl))) Via.refl e45 f41 f40 (Or.inl (hw _ (List.mem_of_getElem? (i := 11) rfl))) (hw _ (List.mem_of_getElem? (i := 1) rfl)) (ty := .long) (by decide) rfl rfl (g := (mkF m 58 #[.val (.ref a1), .val (.long q2), .second] [(.long (wl - q2)), (.ref a1)])) rfl rfl (hb hby d4_58)
  have f47 := f41.same W46
  have K48 : Keep h0 h46 [a1] := K38.wr W46 (Or.inl (List.mem_of_getElem? (i := 0) rfl))
  have z49 : n0 ≤ h46.size := Nat.le_trans z39 (Keep.of_wr W46).1
  have f50 := f40.wr W46
  have f52 := f37.other W46 (Or.inr (slot_ne (Or.inl (hw _ (List.mem_of_getElem? (i := 14) rfl))) (Or.inl (hw _ (List.mem_of_getElem? (i := 11) rfl))) (by decide) (t := .long) (t' := .long) (by decide) (by decide)))
  have f53 := f43.other W46 (Or.inr (slot_ne (Or.inl (hw _ (List.mem_of_getElem? (i := 31) rfl))) (Or.inl (hw _ (List.mem_of_getElem? (i := 11) rfl))) (by decide) (t := .boolean) (t' := .long) (by decide) (by decide)))
  have f54 := f44.other W46 (Or.inr (slot_ne (Or.inl (hw _ (List.mem_of_getElem? (i := 55) rfl))) (Or.inl (hw _ (List.mem_of_getElem? (i := 11) rfl))) (by decide) (t := .boolean) (t' := .long) (by decide) (by decide)))
  have N46 := Fr.snoc X46 N36 g
  refine Goes.of st46 ?_
  show Goes p e below (T46.setTop (mkF m 61 #[.val (.ref a1), .val (.long q2), .second] [])) _
  refine Goes.of (fun t k => XS.aloadN X46.here hx rfl (hb hby d4_61) rfl rfl k) ?_
  show Goes p e below (T46.setTop (mkF m 62 #[.val (.ref a1), .val (.long q2), .second] [(.ref a1)])) _
  obtain ⟨T55, X55, e55, st55⟩ := getF X46 hx hZ hown (host := "") (Or.inl (hw _ (List.mem_of_getElem? (i := 30) rfl))) Via.refl e46 f53 (g := (mkF m 62 #[.val (.ref a1), .val (.long q2), .second] [(.ref a1)])) rfl rfl (hb hby d4_62)
  refine Goes.of st55 ?_
  show Goes p e below (T55.setTop (mkF m 65 #[.val (.ref a1), .val (.long q2), .second] [(.int (0 : Int32))])) _
  refine Goes.of (fun t k => XS.ifNo X55.here hx rfl (hb hby d4_65) rfl ((if0 _ _).trans (teq (by decide)).2) k) ?_
  show Goes p e below (T55.setTop (mkF m 68 #[.val (.ref a1), .val (.long q2), .second] [])) _
  refine Goes.of (fun t k => XS.iconst X55.here hx rfl (hb hby d4_68) k) ?_
  show Goes p e below (T55.setTop (mkF m 69 #[.val (.ref a1), .val (.long q2), .second] [(.int (1 : Int32))])) _
  refine Goes.of (fun t k => XS.goto X55.here hx rfl (pc0 := 69) (pc' := 73) rfl (hb hby d4_69) (by decide) (by decide) k) ?_
  show Goes p e below (T55.setTop (mkF m 73 #[.val (.ref a1), .val (.long q2), .second] [(.int (1 : Int32))])) _
  have eh : T55.heap = h46 := e55
  exact Goes.retN (t := .boolean) X55 hx Bd.returns (by simp) hlocks (hb hby d4_73) (⟨rfl, N46, by rw [eh]; exact K48, by rw [eh]; exact f50, by rw [eh]; exact f47, by rw [eh]; exact f52, by rw [eh]; exact f53, by rw [eh]; exact f54⟩) (by decide) (by decide)
theorem ef_3 (m : MethodId) (x0 : Addr) (x1 : Int64) (x2 : Int32) (x3 : Int32) : entryFrame m #[(.ref x0), (.long x1), (.int x2), (.int x3)] 7 = mkF m 0 #[.val (.ref x0), .val (.long x1), .second, .val (.int x2), .val (.int x3), .unset, .unset] [] := by first | (simp [entryFrame, mkF, argsToLocals, Value.category]; done) | rfl
def Q3 (Z : State) (a1 : Addr) (q2 : Int64) (wl : Int64) (wf : Int64) (we : Int32) (h0 : Heap) (n0 : Nat) (v : Option Value) (h : Heap) (L : List Loc) : Prop := v = some (.int 1) ∧ Fr n0 L ∧ Keep h0 h [a1] ∧ Exa Z h a1 "com/example/bit7/bit7/io/ReadBudget" ∧ Fld Z h a1 "com/example/bit7/bit7/io/ReadBudget" "left" "J" (.long (wl - ((((96 : Int64) + (0 : Int64)) + ((2 : Int64) * q2)) + ((64 : Int64) * ((0 : Int32).toInt64))))) ∧ Fld Z h a1 "com/example/bit7/bit7/io/ReadBudget" "fieldsLeft" "J" (.long (wf - ((((96 : Int64) + (0 : Int64)) + ((2 : Int64) * q2)) + ((64 : Int64) * ((0 : Int32).toInt64))))) ∧ Fld Z h a1 "com/example/bit7/bit7/io/ReadBudget" "spent" "Z" (.int (0 : Int32)) ∧ Fld Z h a1 "com/example/bit7/bit7/io/ReadBudget" "entitiesSpent" "Z" (.int we)
set_option maxRecDepth 65536 in
set_option maxHeartbeats 40000000 in
theorem rm3 (l : Launch) (Z : State) (a0 : Array Value) (hw : ∀ d ∈ tables_1, d.before a0 Z = true) (ws : List Jvm.Cond) (a1 : Addr) (q2 : Int64) (wl : Int64) (wf : Int64) (we : Int32) (h0 : Heap) (n0 : Nat) (Z0 : n0 ≤ h0.size) (E : Exa Z h0 a1 "com/example/bit7/bit7/io/ReadBudget") (g : n0 ≤ a1) (F_left : Fld Z h0 a1 "com/example/bit7/bit7/io/ReadBudget" "left" "J" (.long wl)) (F_fieldsLeft : Fld Z h0 a1 "com/example/bit7/bit7/io/ReadBudget" "fieldsLeft" "J" (.long wf)) (F_spent : Fld Z h0 a1 "com/example/bit7/bit7/io/ReadBudget" "spent" "Z" (.int (0 : Int32))) (F_entitiesSpent : Fld Z h0 a1 "com/example/bit7/bit7/io/ReadBudget" "entitiesSpent" "Z" (.int we)) (k1 : ¬ (wf < ((((96 : Int64) + (0 : Int64)) + ((2 : Int64) * q2)) + ((64 : Int64) * ((0 : Int32).toInt64))))) (k2 : ¬ (wl < ((((96 : Int64) + (0 : Int64)) + ((2 : Int64) * q2)) + ((64 : Int64) * ((0 : Int32).toInt64))))) :
    MetFree l (⟨"com/example/bit7/bit7/io/ReadBudget", "takeField", "(JIZ)Z"⟩ : MethodName) (head1 (Jvm.Cond.code (⟨"com/example/bit7/bit7/io/ReadBudget", "takeField", "(JIZ)Z"⟩ : MethodName) prog_73_method_3_code 7 (some .boolean) :: ws) ({ frames := 1, cells := 0, slots := 0, locals := 14 } : Room)) (fun a U => a = #[(.ref a1), (.long q2), (.int (0 : Int32)), (.int (1 : Int32))] ∧ Z.Warmed39 U.vm ∧ U.heap = h0) (fun _ _ _ _ _ => True) (fun _ U o U' => ∃ v L, o = .returned v ∧ Q3 Z a1 q2 wl wf we h0 n0 v U'.heap L ∧ FrameEnd U o U' L ({ frames := 1, cells := 0, slots := 0, locals := 14 } : Room).cells ({ frames := 1, cells := 0, slots := 0, locals := 14 } : Room).slots) := by
  refine MetFree.of_bodySF (plainFor_of_name pn_0) hisR ?_
  intro p e s m args below meth c s₁ Bd hml0 hP hK
  obtain ⟨rfl, hZ, hh⟩ := hP
  have hx := Bd.exec
  have hby := Bd.bytes
  have hml : c.maxLocals = 7 := hml0
  have hown : s.vm.findClass "com/example/bit7/bit7/io/ReadBudget" = some m.cls := findClass_of_methodNamed Bd.named
  have hnm := (name_of_methodNamed Bd.named Bd.method).1
  have hlocks : meth.locks = false := BodyLoose.notSynchronized Bd
  have X0 : Stand p l e ({ frames := 1, cells := 0, slots := 0, locals := 14 } : Room) s m #[(.ref a1), (.long q2), (.int (0 : Int32)), (.int (1 : Int32))] below meth c s₁ [] 0 0 := Stand.of_body Bd
  have e0 : s₁.heap = h0 := by rw [← hh, Bd.state]; rfl
  have N0 := Fr.nil n0
  show Goes p e below (s₁.setTop (entryFrame m #[(.ref a1), (.long q2), (.int (0 : Int32)), (.int (1 : Int32))] 7)) (Fin s (Q3 Z a1 q2 wl wf we h0 n0) ({ frames := 1, cells := 0, slots := 0, locals := 14 } : Room).cells ({ frames := 1, cells := 0, slots := 0, locals := 14 } : Room).slots)
  refine Goes.of (fun t k => castTop (ef_3 m a1 q2 (0 : Int32) (1 : Int32)) k) ?_
  have K0 : Keep h0 h0 [a1] := Keep.refl _ _
  show Goes p e below (s₁.setTop (mkF m 0 #[.val (.ref a1), .val (.long q2), .second, .val (.int (0 : Int32)), .val (.int (1 : Int32)), .unset, .unset] [])) _
  refine Goes.of (fun t k => XS.iload X0.here hx rfl (hb hby d3_0) rfl k) ?_
  show Goes p e below (s₁.setTop (mkF m 2 #[.val (.ref a1), .val (.long q2), .second, .val (.int (0 : Int32)), .val (.int (1 : Int32)), .unset, .unset] [(.int (1 : Int32))])) _
  refine Goes.of (fun t k => XS.ifNo X0.here hx rfl (hb hby d3_2) rfl ((if0 _ _).trans (feq (by decide)).1) k) ?_
  show Goes p e below (s₁.setTop (mkF m 5 #[.val (.ref a1), .val (.long q2), .second, .val (.int (0 : Int32)), .val (.int (1 : Int32)), .unset, .unset] [])) _
  refine Goes.of (fun t k => XS.lconst X0.here hx rfl (hb hby d3_5) k) ?_
  show Goes p e below (s₁.setTop (mkF m 6 #[.val (.ref a1), .val (.long q2), .second, .val (.int (0 : Int32)), .val (.int (1 : Int32)), .unset, .unset] [(.long (0 : Int64))])) _
  refine Goes.of (fun t k => XS.goto X0.here hx rfl (pc0 := 6) (pc' := 12) rfl (hb hby d3_6) (by decide) (by decide) k) ?_
  show Goes p e below (s₁.setTop (mkF m 12 #[.val (.ref a1), .val (.long q2), .second, .val (.int (0 : Int32)), .val (.int (1 : Int32)), .unset, .unset] [(.long (0 : Int64))])) _
  refine Goes.of (fun t k => XS.lstore X0.here hx rfl (hb hby d3_12) rfl (l' := #[.val (.ref a1), .val (.long q2), .second, .val (.int (0 : Int32)), .val (.int (1 : Int32)), .val (.long (0 : Int64)), .second]) rfl k) ?_
  show Goes p e below (s₁.setTop (mkF m 14 #[.val (.ref a1), .val (.long q2), .second, .val (.int (0 : Int32)), .val (.int (1 : Int32)), .val (.long (0 : Int64)), .second] [])) _
  refine Goes.of (fun t k => XS.aloadN X0.here hx rfl (hb hby d3_14) rfl rfl k) ?_
  show Goes p e below (s₁.setTop (mkF m 15 #[.val (.ref a1), .val (.long q2), .second, .val (.int (0 : Int32)), .val (.int (1 : Int32)), .val (.long (0 : Int64)), .second] [(.ref a1)])) _
  refine Goes.of (fun t k => X0.ldc2Long hx hown (mvT hZ (hw _ (List.mem_of_getElem? (i := 23) rfl))) (g := (mkF m 15 #[.val (.ref a1), .val (.long q2), .second, .val (.int (0 : Int32)), .val (.int (1 : Int32)), .val (.long (0 : Int64)), .second] [(.ref a1)])) rfl (hb hby d3_15) _ k) ?_
  show Goes p e below (s₁.setTop (mkF m 18 #[.val (.ref a1), .val (.long q2), .second, .val (.int (0 : Int32)), .val (.int (1 : Int32)), .val (.long (0 : Int64)), .second] [(.long (96 : Int64)), (.ref a1)])) _
  refine Goes.of (fun t k => XS.lload X0.here hx rfl (hb hby d3_18) rfl k) ?_
  show Goes p e below (s₁.setTop (mkF m 20 #[.val (.ref a1), .val (.long q2), .second, .val (.int (0 : Int32)), .val (.int (1 : Int32)), .val (.long (0 : Int64)), .second] [(.long (0 : Int64)), (.long (96 : Int64)), (.ref a1)])) _
  refine Goes.of (fun t k => XS.ladd X0.here hx rfl (hb hby d3_20) rfl k) ?_
  show Goes p e below (s₁.setTop (mkF m 21 #[.val (.ref a1), .val (.long q2), .second, .val (.int (0 : Int32)), .val (.int (1 : Int32)), .val (.long (0 : Int64)), .second] [(.long ((96 : Int64) + (0 : Int64))), (.ref a1)])) _
  refine Goes.of (fun t k => X0.ldc2Long hx hown (mvT hZ (hw _ (List.mem_of_getElem? (i := 24) rfl))) (g := (mkF m 21 #[.val (.ref a1), .val (.long q2), .second, .val (.int (0 : Int32)), .val (.int (1 : Int32)), .val (.long (0 : Int64)), .second] [(.long ((96 : Int64) + (0 : Int64))), (.ref a1)])) rfl (hb hby d3_21) _ k) ?_
  show Goes p e below (s₁.setTop (mkF m 24 #[.val (.ref a1), .val (.long q2), .second, .val (.int (0 : Int32)), .val (.int (1 : Int32)), .val (.long (0 : Int64)), .second] [(.long (2 : Int64)), (.long ((96 : Int64) + (0 : Int64))), (.ref a1)])) _
  refine Goes.of (fun t k => XS.lloadN X0.here hx rfl (hb hby d3_24) rfl k) ?_
  show Goes p e below (s₁.setTop (mkF m 25 #[.val (.ref a1), .val (.long q2), .second, .val (.int (0 : Int32)), .val (.int (1 : Int32)), .val (.long (0 : Int64)), .second] [(.long q2), (.long (2 : Int64)), (.long ((96 : Int64) + (0 : Int64))), (.ref a1)])) _
  refine Goes.of (fun t k => XS.lmul X0.here hx rfl (hb hby d3_25) rfl k) ?_
  show Goes p e below (s₁.setTop (mkF m 26 #[.val (.ref a1), .val (.long q2), .second, .val (.int (0 : Int32)), .val (.int (1 : Int32)), .val (.long (0 : Int64)), .second] [(.long ((2 : Int64) * q2)), (.long ((96 : Int64) + (0 : Int64))), (.ref a1)])) _
  refine Goes.of (fun t k => XS.ladd X0.here hx rfl (hb hby d3_26) rfl k) ?_
  show Goes p e below (s₁.setTop (mkF m 27 #[.val (.ref a1), .val (.long q2), .second, .val (.int (0 : Int32)), .val (.int (1 : Int32)), .val (.long (0 : Int64)), .second] [(.long (((96 : Int64) + (0 : Int64)) + ((2 : Int64) * q2))), (.ref a1)])) _
  refine Goes.of (fun t k => X0.ldc2Long hx hown (mvT hZ (hw _ (List.mem_of_getElem? (i := 25) rfl))) (g := (mkF m 27 #[.val (.ref a1), .val (.long q2), .second, .val (.int (0 : Int32)), .val (.int (1 : Int32)), .val (.long (0 : Int64)), .second] [(.long (((96 : Int64) + (0 : Int64)) + ((2 : Int64) * q2))), (.ref a1)])) rfl (hb hby d3_27) _ k) ?_
  show Goes p e below (s₁.setTop (mkF m 30 #[.val (.ref a1), .val (.long q2), .second, .val (.int (0 : Int32)), .val (.int (1 : Int32)), .val (.long (0 : Int64)), .second] [(.long (64 : Int64)), (.long (((96 : Int64) + (0 : Int64)) + ((2 : Int64) * q2))), (.ref a1)])) _
  refine Goes.of (fun t k => XS.iloadN X0.here hx rfl (hb hby d3_30) rfl k) ?_
  show Goes p e below (s₁.setTop (mkF m 31 #[.val (.ref a1), .val (.long q2), .second, .val (.int (0 : Int32)), .val (.int (1 : Int32)), .val (.long (0 : Int64)), .second] [(.int (0 : Int32)), (.long (64 : Int64)), (.long (((96 : Int64) + (0 : Int64)) + ((2 : Int64) * q2))), (.ref a1)])) _
  refine Goes.of (fun t k => XS.i2l X0.here hx rfl (hb hby d3_31) rfl k) ?_
  show Goes p e below (s₁.setTop (mkF m 32 #[.val (.ref a1), .val (.long q2), .second, .val (.int (0 : Int32)), .val (.int (1 : Int32)), .val (.long (0 : Int64)), .second] [(.long ((0 : Int32).toInt64)), (.long (64 : Int64)), (.long (((96 : Int64) + (0 : Int64)) + ((2 : Int64) * q2))), (.ref a1)])) _
  refine Goes.of (fun t k => XS.lmul X0.here hx rfl (hb hby d3_32) rfl k) ?_
  show Goes p e below (s₁.setTop (mkF m 33 #[.val (.ref a1), .val (.long q2), .second, .val (.int (0 : Int32)), .val (.int (1 : Int32)), .val (.long (0 : Int64)), .second] [(.long ((64 : Int64) * ((0 : Int32).toInt64))), (.long (((96 : Int64) + (0 : Int64)) + ((2 : Int64) * q2))), (.ref a1)])) _
  refine Goes.of (fun t k => XS.ladd X0.here hx rfl (hb hby d3_33) rfl k) ?_
  show Goes p e below (s₁.setTop (mkF m 34 #[.val (.ref a1), .val (.long q2), .second, .val (.int (0 : Int32)), .val (.int (1 : Int32)), .val (.long (0 : Int64)), .second] [(.long ((((96 : Int64) + (0 : Int64)) + ((2 : Int64) * q2)) + ((64 : Int64) * ((0 : Int32).toInt64)))), (.ref a1)])) _
  obtain ⟨cq56, q56, q56'⟩ := E.cell
  obtain ⟨_, _, ⟨T56, L56, k56, n56⟩, -, X56, ⟨Lc56, hQ56, l56, y56, z56⟩, st56⟩ := X0.privateBack hx (y := (⟨"com/example/bit7/bit7/io/ReadBudget", "takeForFields", "(J)Z"⟩ : MethodName)) hown (mvT hZ (hw _ (List.mem_of_getElem? (i := 26) rfl))) (mvT hZ (hw _ (List.mem_of_getElem? (i := 27) rfl))) (selPriv (Cond.privateMethod_at (mvP hZ (hw _ (List.mem_of_getElem? (i := 28) rfl)) (args := #[]))) (mvT hZ (hw _ (List.mem_of_getElem? (i := 27) rfl))) (mvT hZ (hw _ (List.mem_of_getElem? (i := 1) rfl))) (by decide)) (Cond.privateMethod_at (mvP hZ (hw _ (List.mem_of_getElem? (i := 28) rfl)) (args := #[]))) (mvT hZ (hw _ (List.mem_of_getElem? (i := 29) rfl))) (by decide) (backOf (W := 0) (rm4 l Z a0 hw [] a1 ((((96 : Int64) + (0 : Int64)) + ((2 : Int64) * q2)) + ((64 : Int64) * ((0 : Int32).toInt64))) wl wf we h0 n0 Z0 E g F_left F_fieldsLeft F_spent F_entitiesSpent k1 k2) hZ (hw _ (List.mem_of_getElem? (i := 29) rfl)) (hw _ (List.mem_of_getElem? (i := 2) rfl)) (by decide) (by decide)) (g := (mkF m 34 #[.val (.ref a1), .val (.long q2), .second, .val (.int (0 : Int32)), .val (.int (1 : Int32)), .val (.long (0 : Int64)), .second] [(.long ((((96 : Int64) + (0 : Int64)) + ((2 : Int64) * q2)) + ((64 : Int64) * ((0 : Int32).toInt64)))), (.ref a1)])) rfl (by rw [hml]; rfl) (Steps.refl _) (a := a1) (by rw [e0]; exact q56) q56' (argsL := [(.long ((((96 : Int64) + (0 : Int64)) + ((2 : Int64) * q2)) + ((64 : Int64) * ((0 : Int32).toInt64))))]) (rest := []) (lenOf pd_1 rfl) rfl (by show 2 * 0 + _ ≤ _; exact Nat.le_of_eq rfl) (hb hby d3_34) (fun _ _ => ⟨rfl, e0, (by decide : 0 + 0 ≤ _), (by decide : 0 + 0 ≤ _)⟩)
  dsimp only [Pt.U, Pt.locs, Pt.cells, Pt.slots] at X56 l56 y56 z56 st56 hQ56
  subst l56 y56 z56
  obtain ⟨rfl, N56q, K56, E56, F56_left, F56_fieldsLeft, F56_spent, F56_entitiesSpent⟩ := hQ56
  have N56 := Fr.app N0 N56q
  have K57 : Keep h0 T56.heap [a1] := K0.trans K56 (allS (Or.inl (List.mem_of_getElem? (i := 0) rfl)) all0)
  have z58 : n0 ≤ T56.heap.size := Nat.le_trans Z0 K56.1
  have f59 := E.keep K56
  refine Goes.of (fun t k => st56.trans k) ?_
  show Goes p e below (T56.setTop (mkF m 37 #[.val (.ref a1), .val (.long q2), .second, .val (.int (0 : Int32)), .val (.int (1 : Int32)), .val (.long (0 : Int64)), .second] [(.int (1 : Int32))])) _
  have eh : T56.heap = T56.heap := rfl
  exact Goes.retN (t := .boolean) X56 hx Bd.returns (by simp) hlocks (hb hby d3_37) (⟨rfl, N56, by rw [eh]; exact K57, by rw [eh]; exact f59, by rw [eh]; exact F56_left, by rw [eh]; exact F56_fieldsLeft, by rw [eh]; exact F56_spent, by rw [eh]; exact F56_entitiesSpent⟩) (by decide) (by decide)
theorem ef_5 (m : MethodId) (x0 : Addr) (x1 : Int32) : entryFrame m #[(.ref x0), (.int x1)] 4 = mkF m 0 #[.val (.ref x0), .val (.int x1), .unset, .unset] [] := by first | (simp [entryFrame, mkF, argsToLocals, Value.category]; done) | rfl
def Q5 (Z : State) (a1 : Addr) (p2 : Int32) (wl : Int64) (wf : Int64) (wp : Int32) (we : Int32) (h0 : Heap) (n0 : Nat) (v : Option Value) (h : Heap) (L : List Loc) : Prop := v = none ∧ Fr n0 L ∧ Keep h0 h [a1] ∧ Exa Z h a1 "com/example/bit7/bit7/io/ReadBudget" ∧ Fld Z h a1 "com/example/bit7/bit7/io/ReadBudget" "left" "J" (.long (wl - ((320 : Int64) + ((p2.toInt64) * (160 : Int64))))) ∧ Fld Z h a1 "com/example/bit7/bit7/io/ReadBudget" "fieldsLeft" "J" (.long (wf - ((p2.toInt64) * (160 : Int64)))) ∧ Fld Z h a1 "com/example/bit7/bit7/io/ReadBudget" "spent" "Z" (.int wp) ∧ Fld Z h a1 "com/example/bit7/bit7/io/ReadBudget" "entitiesSpent" "Z" (.int we)
set_option maxRecDepth 65536 in
set_option maxHeartbeats 40000000 in
theorem rm5 (l : Launch) (Z : State) (a0 : Array Value) (hw : ∀ d ∈ tables_1, d.before a0 Z = true) (ws : List Jvm.Cond) (a1 : Addr) (p2 : Int32) (wl : Int64) (wf : Int64) (wp : Int32) (we : Int32) (h0 : Heap) (n0 : Nat) (Z0 : n0 ≤ h0.size) (E : Exa Z h0 a1 "com/example/bit7/bit7/io/ReadBudget") (g : n0 ≤ a1) (F_left : Fld Z h0 a1 "com/example/bit7/bit7/io/ReadBudget" "left" "J" (.long wl)) (F_fieldsLeft : Fld Z h0 a1 "com/example/bit7/bit7/io/ReadBudget" "fieldsLeft" "J" (.long wf)) (F_spent : Fld Z h0 a1 "com/example/bit7/bit7/io/ReadBudget" "spent" "Z" (.int wp)) (F_entitiesSpent : Fld Z h0 a1 "com/example/bit7/bit7/io/ReadBudget" "entitiesSpent" "Z" (.int we)) :
    MetFree l (⟨"com/example/bit7/bit7/io/ReadBudget", "takeParameterizedValue", "(I)V"⟩ : MethodName) (head1 (Jvm.Cond.code (⟨"com/example/bit7/bit7/io/ReadBudget", "takeParameterizedValue", "(I)V"⟩ : MethodName) prog_73_method_5_code 4 none :: ws) ({ frames := 0, cells := 0, slots := 0, locals := 0 } : Room)) (fun a U => a = #[(.ref a1), (.int p2)] ∧ Z.Warmed39 U.vm ∧ U.heap = h0) (fun _ _ _ _ _ => True) (fun _ U o U' => ∃ v L, o = .returned v ∧ Q5 Z a1 p2 wl wf wp we h0 n0 v U'.heap L ∧ FrameEnd U o U' L ({ frames := 0, cells := 0, slots := 0, locals := 0 } : Room).cells ({ frames := 0, cells := 0, slots := 0, locals := 0 } : Room).slots) := by
  refine MetFree.of_bodySF (plainFor_of_name pn_0) hisR ?_
  intro p e s m args below meth c s₁ Bd hml0 hP hK
  obtain ⟨rfl, hZ, hh⟩ := hP
  have hx := Bd.exec
  have hby := Bd.bytes
  have hml : c.maxLocals = 4 := hml0
  have hown : s.vm.findClass "com/example/bit7/bit7/io/ReadBudget" = some m.cls := findClass_of_methodNamed Bd.named
  have hnm := (name_of_methodNamed Bd.named Bd.method).1
  have hlocks : meth.locks = false := BodyLoose.notSynchronized Bd
  have X0 : Stand p l e ({ frames := 0, cells := 0, slots := 0, locals := 0 } : Room) s m #[(.ref a1), (.int p2)] below meth c s₁ [] 0 0 := Stand.of_body Bd
  have e0 : s₁.heap = h0 := by rw [← hh, Bd.state]; rfl
  have N0 := Fr.nil n0
  show Goes p e below (s₁.setTop (entryFrame m #[(.ref a1), (.int p2)] 4)) (Fin s (Q5 Z a1 p2 wl wf wp we h0 n0) ({ frames := 0, cells := 0, slots := 0, locals := 0 } : Room).cells ({ frames := 0, cells := 0, slots := 0, locals := 0 } : Room).slots)
  refine Goes.of (fun t k => castTop (ef_5 m a1 p2) k) ?_
  have K0 : Keep h0 h0 [a1] := Keep.refl _ _
  show Goes p e below (s₁.setTop (mkF m 0 #[.val (.ref a1), .val (.int p2), .unset, .unset] [])) _
  refine Goes.of (fun t k => XS.iloadN X0.here hx rfl (hb hby d5_0) rfl k) ?_
  show Goes p e below (s₁.setTop (mkF m 1 #[.val (.ref a1), .val (.int p2), .unset, .unset] [(.int p2)])) _
  refine Goes.of (fun t k => XS.i2l X0.here hx rfl (hb hby d5_1) rfl k) ?_
  show Goes p e below (s₁.setTop (mkF m 2 #[.val (.ref a1), .val (.int p2), .unset, .unset] [(.long (p2.toInt64))])) _
  refine Goes.of (fun t k => X0.ldc2Long hx hown (mvT hZ (hw _ (List.mem_of_getElem? (i := 37) rfl))) (g := (mkF m 2 #[.val (.ref a1), .val (.int p2), .unset, .unset] [(.long (p2.toInt64))])) rfl (hb hby d5_2) _ k) ?_
  show Goes p e below (s₁.setTop (mkF m 5 #[.val (.ref a1), .val (.int p2), .unset, .unset] [(.long (160 : Int64)), (.long (p2.toInt64))])) _
  refine Goes.of (fun t k => XS.lmul X0.here hx rfl (hb hby d5_5) rfl k) ?_
  show Goes p e below (s₁.setTop (mkF m 6 #[.val (.ref a1), .val (.int p2), .unset, .unset] [(.long ((p2.toInt64) * (160 : Int64)))])) _
  refine Goes.of (fun t k => XS.lstoreN X0.here hx rfl (hb hby d5_6) rfl (l' := #[.val (.ref a1), .val (.int p2), .val (.long ((p2.toInt64) * (160 : Int64))), .second]) rfl k) ?_
  show Goes p e below (s₁.setTop (mkF m 7 #[.val (.ref a1), .val (.int p2), .val (.long ((p2.toInt64) * (160 : Int64))), .second] [])) _
  refine Goes.of (fun t k => XS.aloadN X0.here hx rfl (hb hby d5_7) rfl rfl k) ?_
  show Goes p e below (s₁.setTop (mkF m 8 #[.val (.ref a1), .val (.int p2), .val (.long ((p2.toInt64) * (160 : Int64))), .second] [(.ref a1)])) _
  refine Goes.of (fun t k => XS.dup X0.here hx rfl (hb hby d5_8) rfl rfl k) ?_
  show Goes p e below (s₁.setTop (mkF m 9 #[.val (.ref a1), .val (.int p2), .val (.long ((p2.toInt64) * (160 : Int64))), .second] [(.ref a1), (.ref a1)])) _
  obtain ⟨T64, X64, e64, st64⟩ := getF X0 hx hZ hown (host := "") (Or.inl (hw _ (List.mem_of_getElem? (i := 10) rfl))) Via.refl e0 F_left (g := (mkF m 9 #[.val (.ref a1), .val (.int p2), .val (.long ((p2.toInt64) * (160 : Int64))), .second] [(.ref a1), (.ref a1)])) rfl rfl (hb hby d5_9)
  refine Goes.of st64 ?_
  show Goes p e below (T64.setTop (mkF m 12 #[.val (.ref a1), .val (.int p2), .val (.long ((p2.toInt64) * (160 : Int64))), .second] [(.long wl), (.ref a1)])) _
  refine Goes.of (fun t k => X64.ldc2Long hx hown (mvT hZ (hw _ (List.mem_of_getElem? (i := 38) rfl))) (g := (mkF m 12 #[.val (.ref a1), .val (.int p2), .val (.long ((p2.toInt64) * (160 : Int64))), .second] [(.long wl), (.ref a1)])) rfl (hb hby d5_12) _ k) ?_
  show Goes p e below (T64.setTop (mkF m 15 #[.val (.ref a1), .val (.int p2), .val (.long ((p2.toInt64) * (160 : Int64))), .second] [(.long (320 : Int64)), (.long wl), (.ref a1)])) _
  refine Goes.of (fun t k => XS.lloadN X64.here hx rfl (hb hby d5_15) rfl k) ?_
  show Goes p e below (T64.setTop (mkF m 16 #[.val (.ref a1), .val (.int p2), .val (.long ((p2.toInt64) * (160 : Int64))), .second] [(.long ((p2.toInt64) * (160 : Int64))), (.long (320 : Int64)), (.long wl), (.ref a1)])) _
  refine Goes.of (fun t k => XS.ladd X64.here hx rfl (hb hby d5_16) rfl k) ?_
  show Goes p e below (T64.setTop (mkF m 17 #[.val (.ref a1), .val (.int p2), .val (.long ((p2.toInt64) * (160 : Int64))), .second] [(.long ((320 : Int64) + ((p2.toInt64) * (160 : Int64)))), (.long wl), (.ref a1)])) _
  refine Goes.of (fun t k => XS.lsub X64.here hx rfl (hb hby d5_17) rfl k) ?_
  show Goes p e below (T64.setTop (mkF m 18 #[.val (.ref a1), .val (.int p2), .val (.long ((p2.toInt64) * (160 : Int64))), .second] [(.long (wl - ((320 : Int64) + ((p2.toInt64) * (160 : Int64))))), (.ref a1)])) _
  obtain ⟨T65, h65, X65, e65, W65, st65⟩ := putF X64 hx hZ hown (host := "") (Or.inl (hw _ (List.mem_of_getElem? (i := 10) rfl))) Via.refl e64 F_left E (Or.inl (hw _ (List.mem_of_getElem? (i := 11) rfl))) (hw _ (List.mem_of_getElem? (i := 1) rfl)) (ty := .long) (by decide) rfl rfl (g := (mkF m 18 #[.val (.ref a1), .val (.int p2), .val (.long ((p2.toInt64) * (160 : Int64))), .second] [(.long (wl - ((320 : Int64) + ((p2.toInt64) * (160 : Int64))))), (.ref a1)])) rfl rfl (hb hby d5_18)
  have f66 := F_left.same W65
  have K67 : Keep h0 h65 [a1] := K0.wr W65 (Or.inl (List.mem_of_getElem? (i := 0) rfl))
  have z68 : n0 ≤ h65.size := Nat.le_trans Z0 (Keep.of_wr W65).1
  have f69 := E.wr W65
  have f71 := F_fieldsLeft.other W65 (Or.inr (slot_ne (Or.inl (hw _ (List.mem_of_getElem? (i := 14) rfl))) (Or.inl (hw _ (List.mem_of_getElem? (i := 11) rfl))) (by decide) (t := .long) (t' := .long) (by decide) (by decide)))
  have f72 := F_spent.other W65 (Or.inr (slot_ne (Or.inl (hw _ (List.mem_of_getElem? (i := 31) rfl))) (Or.inl (hw _ (List.mem_of_getElem? (i := 11) rfl))) (by decide) (t := .boolean) (t' := .long) (by decide) (by decide)))
  have f73 := F_entitiesSpent.other W65 (Or.inr (slot_ne (Or.inl (hw _ (List.mem_of_getElem? (i := 55) rfl))) (Or.inl (hw _ (List.mem_of_getElem? (i := 11) rfl))) (by decide) (t := .boolean) (t' := .long) (by decide) (by decide)))
  have N65 := Fr.snoc X65 N0 g
  refine Goes.of st65 ?_
  show Goes p e below (T65.setTop (mkF m 21 #[.val (.ref a1), .val (.int p2), .val (.long ((p2.toInt64) * (160 : Int64))), .second] [])) _
  refine Goes.of (fun t k => XS.aloadN X65.here hx rfl (hb hby d5_21) rfl rfl k) ?_
  show Goes p e below (T65.setTop (mkF m 22 #[.val (.ref a1), .val (.int p2), .val (.long ((p2.toInt64) * (160 : Int64))), .second] [(.ref a1)])) _
  refine Goes.of (fun t k => XS.dup X65.here hx rfl (hb hby d5_22) rfl rfl k) ?_
  show Goes p e below (T65.setTop (mkF m 23 #[.val (.ref a1), .val (.int p2), .val (.long ((p2.toInt64) * (160 : Int64))), .second] [(.ref a1), (.ref a1)])) _
  obtain ⟨T74, X74, e74, st74⟩ := getF X65 hx hZ hown (host := "") (Or.inl (hw _ (List.mem_of_getElem? (i := 13) rfl))) Via.refl e65 f71 (g := (mkF m 23 #[.val (.ref a1), .val (.int p2), .val (.long ((p2.toInt64) * (160 : Int64))), .second] [(.ref a1), (.ref a1)])) rfl rfl (hb hby d5_23)
  refine Goes.of st74 ?_
  show Goes p e below (T74.setTop (mkF m 26 #[.val (.ref a1), .val (.int p2), .val (.long ((p2.toInt64) * (160 : Int64))), .second] [(.long wf), (.ref a1)])) _
  refine Goes.of (fun t k => XS.lloadN X74.here hx rfl (hb hby d5_26) rfl k) ?_
  show Goes p e below (T74.setTop (mkF m 27 #[.val (.ref a1), .val (.int p2), .val (.long ((p2.toInt64) * (160 : Int64))), .second] [(.long ((p2.toInt64) * (160 : Int64))), (.long wf), (.ref a1)])) _
  refine Goes.of (fun t k => XS.lsub X74.here hx rfl (hb hby d5_27) rfl k) ?_
  show Goes p e below (T74.setTop (mkF m 28 #[.val (.ref a1), .val (.int p2), .val (.long ((p2.toInt64) * (160 : Int64))), .second] [(.long (wf - ((p2.toInt64) * (160 : Int64)))), (.ref a1)])) _
  obtain ⟨T75, h75, X75, e75, W75, st75⟩ := putF X74 hx hZ hown (host := "") (Or.inl (hw _ (List.mem_of_getElem? (i := 13) rfl))) Via.refl e74 f71 f69 (Or.inl (hw _ (List.mem_of_getElem? (i := 14) rfl))) (hw _ (List.mem_of_getElem? (i := 1) rfl)) (ty := .long) (by decide) rfl rfl (g := (mkF m 28 #[.val (.ref a1), .val (.int p2), .val (.long ((p2.toInt64) * (160 : Int64))), .second] [(.long (wf - ((p2.toInt64) * (160 : Int64)))), (.ref a1)])) rfl rfl (hb hby d5_28)
  have f76 := f71.same W75
  have K77 : Keep h0 h75 [a1] := K67.wr W75 (Or.inl (List.mem_of_getElem? (i := 0) rfl))
  have z78 : n0 ≤ h75.size := Nat.le_trans z68 (Keep.of_wr W75).1
  have f79 := f69.wr W75
  have f80 := f66.other W75 (Or.inr (slot_ne (Or.inl (hw _ (List.mem_of_getElem? (i := 11) rfl))) (Or.inl (hw _ (List.mem_of_getElem? (i := 14) rfl))) (by decide) (t := .long) (t' := .long) (by decide) (by decide)))
  have f82 := f72.other W75 (Or.inr (slot_ne (Or.inl (hw _ (List.mem_of_getElem? (i := 31) rfl))) (Or.inl (hw _ (List.mem_of_getElem? (i := 14) rfl))) (by decide) (t := .boolean) (t' := .long) (by decide) (by decide)))
  have f83 := f73.other W75 (Or.inr (slot_ne (Or.inl (hw _ (List.mem_of_getElem? (i := 55) rfl))) (Or.inl (hw _ (List.mem_of_getElem? (i := 14) rfl))) (by decide) (t := .boolean) (t' := .long) (by decide) (by decide)))
  have N75 := Fr.snoc X75 N65 g
  refine Goes.of st75 ?_
  show Goes p e below (T75.setTop (mkF m 31 #[.val (.ref a1), .val (.int p2), .val (.long ((p2.toInt64) * (160 : Int64))), .second] [])) _
  have eh : T75.heap = h75 := e75
  exact Goes.retV X75 hx Bd.returns hlocks (hb hby d5_31) (⟨rfl, N75, by rw [eh]; exact K77, by rw [eh]; exact f79, by rw [eh]; exact f80, by rw [eh]; exact f76, by rw [eh]; exact f82, by rw [eh]; exact f83⟩) (by decide) (by decide)
def f6 (p1 : Int32) : Int64 := (if p1 = (0 : Int32) then (76 : Int64) else (100 : Int64))
theorem ef_6 (m : MethodId) (x0 : Int32) : entryFrame m #[(.int x0)] 1 = mkF m 0 #[.val (.int x0)] [] := by first | (simp [entryFrame, mkF, argsToLocals, Value.category]; done) | rfl
def Q6 (Z : State) (p1 : Int32) (h0 : Heap) (n0 : Nat) (v : Option Value) (h : Heap) (L : List Loc) : Prop := v = some (.long (f6 p1)) ∧ Fr n0 L ∧ h = h0
set_option maxRecDepth 65536 in
set_option maxHeartbeats 40000000 in
theorem rm6 (l : Launch) (Z : State) (a0 : Array Value) (hw : ∀ d ∈ tables_1, d.before a0 Z = true) (ws : List Jvm.Cond) (p1 : Int32) (h0 : Heap) (n0 : Nat) (Z0 : n0 ≤ h0.size)  :
    MetFree l (⟨"com/example/bit7/bit7/io/ReadBudgetTakeEntityPinLaw", "cost", "(Z)J"⟩ : MethodName) (head1 (Jvm.Cond.code (⟨"com/example/bit7/bit7/io/ReadBudgetTakeEntityPinLaw", "cost", "(Z)J"⟩ : MethodName) method_2_code 1 (some .long) :: ws) ({ frames := 0, cells := 0, slots := 0, locals := 0 } : Room)) (fun a U => a = #[(.int p1)] ∧ Z.Warmed39 U.vm ∧ U.heap = h0) (fun _ _ _ _ _ => True) (fun _ U o U' => ∃ v L, o = .returned v ∧ Q6 Z p1 h0 n0 v U'.heap L ∧ FrameEnd U o U' L ({ frames := 0, cells := 0, slots := 0, locals := 0 } : Room).cells ({ frames := 0, cells := 0, slots := 0, locals := 0 } : Room).slots) := by
  refine MetFree.of_bodySF (plainFor_of_name pn_2) hisR ?_
  intro p e s m args below meth c s₁ Bd hml0 hP hK
  obtain ⟨rfl, hZ, hh⟩ := hP
  have hx := Bd.exec
  have hby := Bd.bytes
  have hml : c.maxLocals = 1 := hml0
  have hown : s.vm.findClass "com/example/bit7/bit7/io/ReadBudgetTakeEntityPinLaw" = some m.cls := findClass_of_methodNamed Bd.named
  have hnm := (name_of_methodNamed Bd.named Bd.method).1
  have hlocks : meth.locks = false := BodyLoose.notSynchronized Bd
  have X0 : Stand p l e ({ frames := 0, cells := 0, slots := 0, locals := 0 } : Room) s m #[(.int p1)] below meth c s₁ [] 0 0 := Stand.of_body Bd
  have e0 : s₁.heap = h0 := by rw [← hh, Bd.state]; rfl
  have N0 := Fr.nil n0
  show Goes p e below (s₁.setTop (entryFrame m #[(.int p1)] 1)) (Fin s (Q6 Z p1 h0 n0) ({ frames := 0, cells := 0, slots := 0, locals := 0 } : Room).cells ({ frames := 0, cells := 0, slots := 0, locals := 0 } : Room).slots)
  refine Goes.of (fun t k => castTop (ef_6 m p1) k) ?_
  show Goes p e below (s₁.setTop (mkF m 0 #[.val (.int p1)] [])) _
  refine Goes.of (fun t k => XS.iloadN X0.here hx rfl (hb hby d6_0) rfl k) ?_
  show Goes p e below (s₁.setTop (mkF m 1 #[.val (.int p1)] [(.int p1)])) _
  by_cases hc1_84 : p1 = (0 : Int32)
  · refine Goes.of (fun t k => XS.ifYes X0.here hx rfl (pc0 := 1) (pc' := 8) rfl (hb hby d6_1) rfl ((if0 _ _).trans (teq hc1_84).1) (by decide) (by decide) k) ?_
    show Goes p e below (s₁.setTop (mkF m 8 #[.val (.int p1)] [])) _
    refine Goes.of (fun t k => X0.ldc2Long hx hown (mvT hZ (hw _ (List.mem_of_getElem? (i := 46) rfl))) (g := (mkF m 8 #[.val (.int p1)] [])) rfl (hb hby d6_8) _ k) ?_
    show Goes p e below (s₁.setTop (mkF m 11 #[.val (.int p1)] [(.long (76 : Int64))])) _
    have hv : f6 p1 = (76 : Int64) := by simp only [f6, if_pos hc1_84]
    exact Goes.retJ X0 hx Bd.returns hlocks (hb hby d6_11) (⟨by rw [hv], N0, e0⟩) (by decide) (by decide)
  · refine Goes.of (fun t k => XS.ifNo X0.here hx rfl (hb hby d6_1) rfl ((if0 _ _).trans (feq hc1_84).1) k) ?_
    show Goes p e below (s₁.setTop (mkF m 4 #[.val (.int p1)] [])) _
    refine Goes.of (fun t k => X0.ldc2Long hx hown (mvT hZ (hw _ (List.mem_of_getElem? (i := 47) rfl))) (g := (mkF m 4 #[.val (.int p1)] [])) rfl (hb hby d6_4) _ k) ?_
    show Goes p e below (s₁.setTop (mkF m 7 #[.val (.int p1)] [(.long (100 : Int64))])) _
    have hv : f6 p1 = (100 : Int64) := by simp only [f6, if_neg hc1_84]
    exact Goes.retJ X0 hx Bd.returns hlocks (hb hby d6_7) (⟨by rw [hv], N0, e0⟩) (by decide) (by decide)
def own_e (wl : Int64) (we p : Int32) : Int32 := if we = 0 then (if wl < f6 p then 1 else 0) else 1
def own_l (wl : Int64) (we p : Int32) : Int64 := if own_e wl we p = 0 then wl - f6 p else wl
def own_r (wl : Int64) (we p : Int32) : Int32 := if own_e wl we p = 0 then 1 else 0
theorem ef_7 (m : MethodId) (x0 : Addr) (x1 : Int32) : entryFrame m #[(.ref x0), (.int x1)] 4 = mkF m 0 #[.val (.ref x0), .val (.int x1), .unset, .unset] [] := by first | (simp [entryFrame, mkF, argsToLocals, Value.category]; done) | rfl
def Q7 (Z : State) (a1 : Addr) (p2 : Int32) (wl : Int64) (wf : Int64) (wp : Int32) (we : Int32) (h0 : Heap) (n0 : Nat) (v : Option Value) (h : Heap) (L : List Loc) : Prop := v = some (.int (own_r wl we p2)) ∧ Fr n0 L ∧ Keep h0 h [a1] ∧ Exa Z h a1 "com/example/bit7/bit7/io/ReadBudget" ∧ Fld Z h a1 "com/example/bit7/bit7/io/ReadBudget" "left" "J" (.long (own_l wl we p2)) ∧ Fld Z h a1 "com/example/bit7/bit7/io/ReadBudget" "fieldsLeft" "J" (.long wf) ∧ Fld Z h a1 "com/example/bit7/bit7/io/ReadBudget" "spent" "Z" (.int wp) ∧ Fld Z h a1 "com/example/bit7/bit7/io/ReadBudget" "entitiesSpent" "Z" (.int (own_e wl we p2))
set_option maxRecDepth 65536 in
set_option maxHeartbeats 40000000 in
theorem rm7 (l : Launch) (Z : State) (a0 : Array Value) (hw : ∀ d ∈ tables_1, d.before a0 Z = true) (ws : List Jvm.Cond) (a1 : Addr) (p2 : Int32) (wl : Int64) (wf : Int64) (wp : Int32) (we : Int32) (h0 : Heap) (n0 : Nat) (Z0 : n0 ≤ h0.size) (E : Exa Z h0 a1 "com/example/bit7/bit7/io/ReadBudget") (g : n0 ≤ a1) (F_left : Fld Z h0 a1 "com/example/bit7/bit7/io/ReadBudget" "left" "J" (.long wl)) (F_fieldsLeft : Fld Z h0 a1 "com/example/bit7/bit7/io/ReadBudget" "fieldsLeft" "J" (.long wf)) (F_spent : Fld Z h0 a1 "com/example/bit7/bit7/io/ReadBudget" "spent" "Z" (.int wp)) (F_entitiesSpent : Fld Z h0 a1 "com/example/bit7/bit7/io/ReadBudget" "entitiesSpent" "Z" (.int we)) :
    MetFree l (⟨"com/example/bit7/bit7/io/ReadBudget", "takeEntity", "(Z)Z"⟩ : MethodName) (head1 (Jvm.Cond.code (⟨"com/example/bit7/bit7/io/ReadBudget", "takeEntity", "(Z)Z"⟩ : MethodName) prog_73_method_2_code 4 (some .boolean) :: ws) ({ frames := 0, cells := 0, slots := 0, locals := 0 } : Room)) (fun a U => a = #[(.ref a1), (.int p2)] ∧ Z.Warmed39 U.vm ∧ U.heap = h0) (fun _ _ _ _ _ => True) (fun _ U o U' => ∃ v L, o = .returned v ∧ Q7 Z a1 p2 wl wf wp we h0 n0 v U'.heap L ∧ FrameEnd U o U' L ({ frames := 0, cells := 0, slots := 0, locals := 0 } : Room).cells ({ frames := 0, cells := 0, slots := 0, locals := 0 } : Room).slots) := by
  refine MetFree.of_bodySF (plainFor_of_name pn_0) hisR ?_
  intro p e s m args below meth c s₁ Bd hml0 hP hK
  obtain ⟨rfl, hZ, hh⟩ := hP
  have hx := Bd.exec
  have hby := Bd.bytes
  have hml : c.maxLocals = 4 := hml0
  have hown : s.vm.findClass "com/example/bit7/bit7/io/ReadBudget" = some m.cls := findClass_of_methodNamed Bd.named
  have hnm := (name_of_methodNamed Bd.named Bd.method).1
  have hlocks : meth.locks = false := BodyLoose.notSynchronized Bd
  have X0 : Stand p l e ({ frames := 0, cells := 0, slots := 0, locals := 0 } : Room) s m #[(.ref a1), (.int p2)] below meth c s₁ [] 0 0 := Stand.of_body Bd
  have e0 : s₁.heap = h0 := by rw [← hh, Bd.state]; rfl
  have N0 := Fr.nil n0
  show Goes p e below (s₁.setTop (entryFrame m #[(.ref a1), (.int p2)] 4)) (Fin s (Q7 Z a1 p2 wl wf wp we h0 n0) ({ frames := 0, cells := 0, slots := 0, locals := 0 } : Room).cells ({ frames := 0, cells := 0, slots := 0, locals := 0 } : Room).slots)
  refine Goes.of (fun t k => castTop (ef_7 m a1 p2) k) ?_
  have K0 : Keep h0 h0 [a1] := Keep.refl _ _
  show Goes p e below (s₁.setTop (mkF m 0 #[.val (.ref a1), .val (.int p2), .unset, .unset] [])) _
  refine Goes.of (fun t k => XS.iloadN X0.here hx rfl (hb hby d7_0) rfl k) ?_
  show Goes p e below (s₁.setTop (mkF m 1 #[.val (.ref a1), .val (.int p2), .unset, .unset] [(.int p2)])) _
  obtain ⟨v85, hv85⟩ : ∃ z : Int64, z = (if p2 = (0 : Int32) then (76 : Int64) else (100 : Int64)) := ⟨_, rfl⟩
  refine Goes.of (S' := s₁.setTop (mkF m 13 #[.val (.ref a1), .val (.int p2), .unset, .unset] [(.long v85)])) (fun t k => ?_) ?_
  · by_cases hb86 : p2 = (0 : Int32)
    · refine XS.ifYes X0.here hx rfl (pc0 := 1) (pc' := 10) rfl (hb hby d7_1) rfl ((if0 _ _).trans (teq hb86).1) (by decide) (by decide) ?_
      show Steps p.tables e below (s₁.setTop (mkF m 10 #[.val (.ref a1), .val (.int p2), .unset, .unset] [])) _
      refine X0.ldc2Long hx hown (mvT hZ (hw _ (List.mem_of_getElem? (i := 53) rfl))) (g := (mkF m 10 #[.val (.ref a1), .val (.int p2), .unset, .unset] [])) rfl (hb hby d7_10) _ ?_
      show Steps p.tables e below (s₁.setTop (mkF m 13 #[.val (.ref a1), .val (.int p2), .unset, .unset] [(.long (76 : Int64))])) _
      simp only [if_pos hb86] at hv85; subst hv85
      exact k
    · refine XS.ifNo X0.here hx rfl (hb hby d7_1) rfl ((if0 _ _).trans (feq hb86).1) ?_
      show Steps p.tables e below (s₁.setTop (mkF m 4 #[.val (.ref a1), .val (.int p2), .unset, .unset] [])) _
      refine X0.ldc2Long hx hown (mvT hZ (hw _ (List.mem_of_getElem? (i := 56) rfl))) (g := (mkF m 4 #[.val (.ref a1), .val (.int p2), .unset, .unset] [])) rfl (hb hby d7_4) _ ?_
      show Steps p.tables e below (s₁.setTop (mkF m 7 #[.val (.ref a1), .val (.int p2), .unset, .unset] [(.long (100 : Int64))])) _
      refine XS.goto X0.here hx rfl (pc0 := 7) (pc' := 13) rfl (hb hby d7_7) (by decide) (by decide) ?_
      show Steps p.tables e below (s₁.setTop (mkF m 13 #[.val (.ref a1), .val (.int p2), .unset, .unset] [(.long (100 : Int64))])) _
      simp only [if_neg hb86] at hv85; subst hv85
      exact k
  show Goes p e below (s₁.setTop (mkF m 13 #[.val (.ref a1), .val (.int p2), .unset, .unset] [(.long v85)])) _
  have hcc : v85 = f6 p2 := by rw [hv85, f6]
  refine Goes.of (fun t k => XS.lstoreN X0.here hx rfl (hb hby d7_13) rfl (l' := #[.val (.ref a1), .val (.int p2), .val (.long v85), .second]) rfl k) ?_
  show Goes p e below (s₁.setTop (mkF m 14 #[.val (.ref a1), .val (.int p2), .val (.long v85), .second] [])) _
  refine Goes.of (fun t k => XS.aloadN X0.here hx rfl (hb hby d7_14) rfl rfl k) ?_
  show Goes p e below (s₁.setTop (mkF m 15 #[.val (.ref a1), .val (.int p2), .val (.long v85), .second] [(.ref a1)])) _
  refine Goes.of (fun t k => XS.aloadN X0.here hx rfl (hb hby d7_15) rfl rfl k) ?_
  show Goes p e below (s₁.setTop (mkF m 16 #[.val (.ref a1), .val (.int p2), .val (.long v85), .second] [(.ref a1), (.ref a1)])) _
  obtain ⟨T87, X87, e87, st87⟩ := getF X0 hx hZ hown (host := "") (Or.inl (hw _ (List.mem_of_getElem? (i := 54) rfl))) Via.refl e0 F_entitiesSpent (g := (mkF m 16 #[.val (.ref a1), .val (.int p2), .val (.long v85), .second] [(.ref a1), (.ref a1)])) rfl rfl (hb hby d7_16)
  refine Goes.of st87 ?_
  show Goes p e below (T87.setTop (mkF m 19 #[.val (.ref a1), .val (.int p2), .val (.long v85), .second] [(.int we), (.ref a1)])) _
  by_cases hc19_88 : we = (0 : Int32)
  · refine Goes.of (fun t k => XS.ifNo X87.here hx rfl (hb hby d7_19) rfl ((if0 _ _).trans (teq hc19_88).2) k) ?_
    show Goes p e below (T87.setTop (mkF m 22 #[.val (.ref a1), .val (.int p2), .val (.long v85), .second] [(.ref a1)])) _
    refine Goes.of (fun t k => XS.lloadN X87.here hx rfl (hb hby d7_22) rfl k) ?_
    show Goes p e below (T87.setTop (mkF m 23 #[.val (.ref a1), .val (.int p2), .val (.long v85), .second] [(.long v85), (.ref a1)])) _
    refine Goes.of (fun t k => XS.aloadN X87.here hx rfl (hb hby d7_23) rfl rfl k) ?_
    show Goes p e below (T87.setTop (mkF m 24 #[.val (.ref a1), .val (.int p2), .val (.long v85), .second] [(.ref a1), (.long v85), (.ref a1)])) _
    obtain ⟨T89, X89, e89, st89⟩ := getF X87 hx hZ hown (host := "") (Or.inl (hw _ (List.mem_of_getElem? (i := 10) rfl))) Via.refl e87 F_left (g := (mkF m 24 #[.val (.ref a1), .val (.int p2), .val (.long v85), .second] [(.ref a1), (.long v85), (.ref a1)])) rfl rfl (hb hby d7_24)
    refine Goes.of st89 ?_
    show Goes p e below (T89.setTop (mkF m 27 #[.val (.ref a1), .val (.int p2), .val (.long v85), .second] [(.long wl), (.long v85), (.ref a1)])) _
    refine Goes.of (fun t k => XS.lcmp X89.here hx rfl (hb hby d7_27) rfl k) ?_
    show Goes p e below (T89.setTop (mkF m 28 #[.val (.ref a1), .val (.int p2), .val (.long v85), .second] [(.int (lcmpW v85 wl)), (.ref a1)])) _
    by_cases hc28_90 : wl < v85
    · refine Goes.of (fun t k => XS.ifNo X89.here hx rfl (hb hby d7_28) rfl ((if0 _ _).trans (tlt ((lw_gt _ _).mpr hc28_90)).2.2.2) k) ?_
      show Goes p e below (T89.setTop (mkF m 31 #[.val (.ref a1), .val (.int p2), .val (.long v85), .second] [(.ref a1)])) _
      refine Goes.of (fun t k => XS.iconst X89.here hx rfl (hb hby d7_31) k) ?_
      show Goes p e below (T89.setTop (mkF m 32 #[.val (.ref a1), .val (.int p2), .val (.long v85), .second] [(.int (1 : Int32)), (.ref a1)])) _
      refine Goes.of (fun t k => XS.goto X89.here hx rfl (pc0 := 32) (pc' := 36) rfl (hb hby d7_32) (by decide) (by decide) k) ?_
      show Goes p e below (T89.setTop (mkF m 36 #[.val (.ref a1), .val (.int p2), .val (.long v85), .second] [(.int (1 : Int32)), (.ref a1)])) _
      obtain ⟨T91, h91, X91, e91, W91, st91⟩ := putFN X89 hx hZ hown (hw _ (List.mem_of_getElem? (i := 54) rfl)) Via.refl e89 F_entitiesSpent E (Or.inl (hw _ (List.mem_of_getElem? (i := 55) rfl))) (hw _ (List.mem_of_getElem? (i := 1) rfl)) (ty := .boolean) (v' := (.int (1 : Int32))) (by decide) rfl (by decide) (g := (mkF m 36 #[.val (.ref a1), .val (.int p2), .val (.long v85), .second] [(.int (1 : Int32)), (.ref a1)])) rfl rfl (hb hby d7_36)
      have f92 := F_entitiesSpent.same W91
      have K93 : Keep h0 h91 [a1] := K0.wr W91 (Or.inl (List.mem_of_getElem? (i := 0) rfl))
      have z94 : n0 ≤ h91.size := Nat.le_trans Z0 (Keep.of_wr W91).1
      have f95 := E.wr W91
      have f96 := F_left.other W91 (Or.inr (slot_ne (Or.inl (hw _ (List.mem_of_getElem? (i := 11) rfl))) (Or.inl (hw _ (List.mem_of_getElem? (i := 55) rfl))) (by decide) (t := .long) (t' := .boolean) (by decide) (by decide)))
      have f97 := F_fieldsLeft.other W91 (Or.inr (slot_ne (Or.inl (hw _ (List.mem_of_getElem? (i := 14) rfl))) (Or.inl (hw _ (List.mem_of_getElem? (i := 55) rfl))) (by decide) (t := .long) (t' := .boolean) (by decide) (by decide)))
      have f98 := F_spent.other W91 (Or.inr (slot_ne (Or.inl (hw _ (List.mem_of_getElem? (i := 31) rfl))) (Or.inl (hw _ (List.mem_of_getElem? (i := 55) rfl))) (by decide) (t := .boolean) (t' := .boolean) (by decide) (by decide)))
      have N91 := Fr.snoc X91 N0 g
      refine Goes.of st91 ?_
      show Goes p e below (T91.setTop (mkF m 39 #[.val (.ref a1), .val (.int p2), .val (.long v85), .second] [])) _
      refine Goes.of (fun t k => XS.aloadN X91.here hx rfl (hb hby d7_39) rfl rfl k) ?_
      show Goes p e below (T91.setTop (mkF m 40 #[.val (.ref a1), .val (.int p2), .val (.long v85), .second] [(.ref a1)])) _
      obtain ⟨T100, X100, e100, st100⟩ := getF X91 hx hZ hown (host := "") (Or.inl (hw _ (List.mem_of_getElem? (i := 54) rfl))) Via.refl e91 f92 (g := (mkF m 40 #[.val (.ref a1), .val (.int p2), .val (.long v85), .second] [(.ref a1)])) rfl rfl (hb hby d7_40)
      refine Goes.of st100 ?_
      show Goes p e below (T100.setTop (mkF m 43 #[.val (.ref a1), .val (.int p2), .val (.long v85), .second] [(.int (1 : Int32))])) _
      refine Goes.of (fun t k => XS.ifYes X100.here hx rfl (pc0 := 43) (pc' := 56) rfl (hb hby d7_43) rfl ((if0 _ _).trans (feq (by decide)).2) (by decide) (by decide) k) ?_
      show Goes p e below (T100.setTop (mkF m 56 #[.val (.ref a1), .val (.int p2), .val (.long v85), .second] [])) _
      refine Goes.of (fun t k => XS.aloadN X100.here hx rfl (hb hby d7_56) rfl rfl k) ?_
      show Goes p e below (T100.setTop (mkF m 57 #[.val (.ref a1), .val (.int p2), .val (.long v85), .second] [(.ref a1)])) _
      obtain ⟨T101, X101, e101, st101⟩ := getF X100 hx hZ hown (host := "") (Or.inl (hw _ (List.mem_of_getElem? (i := 54) rfl))) Via.refl e100 f92 (g := (mkF m 57 #[.val (.ref a1), .val (.int p2), .val (.long v85), .second] [(.ref a1)])) rfl rfl (hb hby d7_57)
      refine Goes.of st101 ?_
      show Goes p e below (T101.setTop (mkF m 60 #[.val (.ref a1), .val (.int p2), .val (.long v85), .second] [(.int (1 : Int32))])) _
      refine Goes.of (fun t k => XS.ifYes X101.here hx rfl (pc0 := 60) (pc' := 67) rfl (hb hby d7_60) rfl ((if0 _ _).trans (feq (by decide)).2) (by decide) (by decide) k) ?_
      show Goes p e below (T101.setTop (mkF m 67 #[.val (.ref a1), .val (.int p2), .val (.long v85), .second] [])) _
      refine Goes.of (fun t k => XS.iconst X101.here hx rfl (hb hby d7_67) k) ?_
      show Goes p e below (T101.setTop (mkF m 68 #[.val (.ref a1), .val (.int p2), .val (.long v85), .second] [(.int (0 : Int32))])) _
      have he : own_e wl we p2 = (1 : Int32) := by simp only [own_e, ← hcc, if_pos hc19_88, if_pos hc28_90]
      have hl : own_l wl we p2 = wl := by rw [own_l, he]; simp [hcc]
      have hr : own_r wl we p2 = (0 : Int32) := by rw [own_r, he]; simp
      have eh : T101.heap = h91 := e101
      exact Goes.retN (t := .boolean) X101 hx Bd.returns (by simp) hlocks (hb hby d7_68) (⟨by rw [hr]; rfl, N91, by rw [eh]; exact K93, by rw [eh]; exact f95, by rw [eh, hl]; exact f96, by rw [eh]; exact f97, by rw [eh]; exact f98, by rw [eh, he]; exact f92⟩) (by decide) (by decide)
    · refine Goes.of (fun t k => XS.ifYes X89.here hx rfl (pc0 := 28) (pc' := 35) rfl (hb hby d7_28) rfl ((if0 _ _).trans (flt (mt (lw_gt _ _).mp hc28_90)).2.2.2) (by decide) (by decide) k) ?_
      show Goes p e below (T89.setTop (mkF m 35 #[.val (.ref a1), .val (.int p2), .val (.long v85), .second] [(.ref a1)])) _
      refine Goes.of (fun t k => XS.iconst X89.here hx rfl (hb hby d7_35) k) ?_
      show Goes p e below (T89.setTop (mkF m 36 #[.val (.ref a1), .val (.int p2), .val (.long v85), .second] [(.int (0 : Int32)), (.ref a1)])) _
      obtain ⟨T102, h102, X102, e102, W102, st102⟩ := putFN X89 hx hZ hown (hw _ (List.mem_of_getElem? (i := 54) rfl)) Via.refl e89 F_entitiesSpent E (Or.inl (hw _ (List.mem_of_getElem? (i := 55) rfl))) (hw _ (List.mem_of_getElem? (i := 1) rfl)) (ty := .boolean) (v' := (.int (0 : Int32))) (by decide) rfl (by decide) (g := (mkF m 36 #[.val (.ref a1), .val (.int p2), .val (.long v85), .second] [(.int (0 : Int32)), (.ref a1)])) rfl rfl (hb hby d7_36)
      have f103 := F_entitiesSpent.same W102
      have K104 : Keep h0 h102 [a1] := K0.wr W102 (Or.inl (List.mem_of_getElem? (i := 0) rfl))
      have z105 : n0 ≤ h102.size := Nat.le_trans Z0 (Keep.of_wr W102).1
      have f106 := E.wr W102
      have f107 := F_left.other W102 (Or.inr (slot_ne (Or.inl (hw _ (List.mem_of_getElem? (i := 11) rfl))) (Or.inl (hw _ (List.mem_of_getElem? (i := 55) rfl))) (by decide) (t := .long) (t' := .boolean) (by decide) (by decide)))
      have f108 := F_fieldsLeft.other W102 (Or.inr (slot_ne (Or.inl (hw _ (List.mem_of_getElem? (i := 14) rfl))) (Or.inl (hw _ (List.mem_of_getElem? (i := 55) rfl))) (by decide) (t := .long) (t' := .boolean) (by decide) (by decide)))
      have f109 := F_spent.other W102 (Or.inr (slot_ne (Or.inl (hw _ (List.mem_of_getElem? (i := 31) rfl))) (Or.inl (hw _ (List.mem_of_getElem? (i := 55) rfl))) (by decide) (t := .boolean) (t' := .boolean) (by decide) (by decide)))
      have N102 := Fr.snoc X102 N0 g
      refine Goes.of st102 ?_
      show Goes p e below (T102.setTop (mkF m 39 #[.val (.ref a1), .val (.int p2), .val (.long v85), .second] [])) _
      refine Goes.of (fun t k => XS.aloadN X102.here hx rfl (hb hby d7_39) rfl rfl k) ?_
      show Goes p e below (T102.setTop (mkF m 40 #[.val (.ref a1), .val (.int p2), .val (.long v85), .second] [(.ref a1)])) _
      obtain ⟨T111, X111, e111, st111⟩ := getF X102 hx hZ hown (host := "") (Or.inl (hw _ (List.mem_of_getElem? (i := 54) rfl))) Via.refl e102 f103 (g := (mkF m 40 #[.val (.ref a1), .val (.int p2), .val (.long v85), .second] [(.ref a1)])) rfl rfl (hb hby d7_40)
      refine Goes.of st111 ?_
      show Goes p e below (T111.setTop (mkF m 43 #[.val (.ref a1), .val (.int p2), .val (.long v85), .second] [(.int (0 : Int32))])) _
      refine Goes.of (fun t k => XS.ifNo X111.here hx rfl (hb hby d7_43) rfl ((if0 _ _).trans (teq (by decide)).2) k) ?_
      show Goes p e below (T111.setTop (mkF m 46 #[.val (.ref a1), .val (.int p2), .val (.long v85), .second] [])) _
      refine Goes.of (fun t k => XS.aloadN X111.here hx rfl (hb hby d7_46) rfl rfl k) ?_
      show Goes p e below (T111.setTop (mkF m 47 #[.val (.ref a1), .val (.int p2), .val (.long v85), .second] [(.ref a1)])) _
      refine Goes.of (fun t k => XS.dup X111.here hx rfl (hb hby d7_47) rfl rfl k) ?_
      show Goes p e below (T111.setTop (mkF m 48 #[.val (.ref a1), .val (.int p2), .val (.long v85), .second] [(.ref a1), (.ref a1)])) _
      obtain ⟨T112, X112, e112, st112⟩ := getF X111 hx hZ hown (host := "") (Or.inl (hw _ (List.mem_of_getElem? (i := 10) rfl))) Via.refl e111 f107 (g := (mkF m 48 #[.val (.ref a1), .val (.int p2), .val (.long v85), .second] [(.ref a1), (.ref a1)])) rfl rfl (hb hby d7_48)
      refine Goes.of st112 ?_
      show Goes p e below (T112.setTop (mkF m 51 #[.val (.ref a1), .val (.int p2), .val (.long v85), .second] [(.long wl), (.ref a1)])) _
      refine Goes.of (fun t k => XS.lloadN X112.here hx rfl (hb hby d7_51) rfl k) ?_
      show Goes p e below (T112.setTop (mkF m 52 #[.val (.ref a1), .val (.int p2), .val (.long v85), .second] [(.long v85), (.long wl), (.ref a1)])) _
      refine Goes.of (fun t k => XS.lsub X112.here hx rfl (hb hby d7_52) rfl k) ?_
      show Goes p e below (T112.setTop (mkF m 53 #[.val (.ref a1), .val (.int p2), .val (.long v85), .second] [(.long (wl - v85)), (.ref a1)])) _
      obtain ⟨T113, h113, X113, e113, W113, st113⟩ := putF X112 hx hZ hown (host := "") (Or.inl (hw _ (List.mem_of_getElem? (i := 10) rfl))) Via.refl e112 f107 f106 (Or.inl (hw _ (List.mem_of_getElem? (i := 11) rfl))) (hw _ (List.mem_of_getElem? (i := 1) rfl)) (ty := .long) (by decide) rfl rfl (g := (mkF m 53 #[.val (.ref a1), .val (.int p2), .val (.long v85), .second] [(.long (wl - v85)), (.ref a1)])) rfl rfl (hb hby d7_53)
      have f114 := f107.same W113
      have K115 : Keep h0 h113 [a1] := K104.wr W113 (Or.inl (List.mem_of_getElem? (i := 0) rfl))
      have z116 : n0 ≤ h113.size := Nat.le_trans z105 (Keep.of_wr W113).1
      have f117 := f106.wr W113
      have f119 := f108.other W113 (Or.inr (slot_ne (Or.inl (hw _ (List.mem_of_getElem? (i := 14) rfl))) (Or.inl (hw _ (List.mem_of_getElem? (i := 11) rfl))) (by decide) (t := .long) (t' := .long) (by decide) (by decide)))
      have f120 := f109.other W113 (Or.inr (slot_ne (Or.inl (hw _ (List.mem_of_getElem? (i := 31) rfl))) (Or.inl (hw _ (List.mem_of_getElem? (i := 11) rfl))) (by decide) (t := .boolean) (t' := .long) (by decide) (by decide)))
      have f121 := f103.other W113 (Or.inr (slot_ne (Or.inl (hw _ (List.mem_of_getElem? (i := 55) rfl))) (Or.inl (hw _ (List.mem_of_getElem? (i := 11) rfl))) (by decide) (t := .boolean) (t' := .long) (by decide) (by decide)))
      have N113 := Fr.snoc X113 N102 g
      refine Goes.of st113 ?_
      show Goes p e below (T113.setTop (mkF m 56 #[.val (.ref a1), .val (.int p2), .val (.long v85), .second] [])) _
      refine Goes.of (fun t k => XS.aloadN X113.here hx rfl (hb hby d7_56) rfl rfl k) ?_
      show Goes p e below (T113.setTop (mkF m 57 #[.val (.ref a1), .val (.int p2), .val (.long v85), .second] [(.ref a1)])) _
      obtain ⟨T122, X122, e122, st122⟩ := getF X113 hx hZ hown (host := "") (Or.inl (hw _ (List.mem_of_getElem? (i := 54) rfl))) Via.refl e113 f121 (g := (mkF m 57 #[.val (.ref a1), .val (.int p2), .val (.long v85), .second] [(.ref a1)])) rfl rfl (hb hby d7_57)
      refine Goes.of st122 ?_
      show Goes p e below (T122.setTop (mkF m 60 #[.val (.ref a1), .val (.int p2), .val (.long v85), .second] [(.int (0 : Int32))])) _
      refine Goes.of (fun t k => XS.ifNo X122.here hx rfl (hb hby d7_60) rfl ((if0 _ _).trans (teq (by decide)).2) k) ?_
      show Goes p e below (T122.setTop (mkF m 63 #[.val (.ref a1), .val (.int p2), .val (.long v85), .second] [])) _
      refine Goes.of (fun t k => XS.iconst X122.here hx rfl (hb hby d7_63) k) ?_
      show Goes p e below (T122.setTop (mkF m 64 #[.val (.ref a1), .val (.int p2), .val (.long v85), .second] [(.int (1 : Int32))])) _
      refine Goes.of (fun t k => XS.goto X122.here hx rfl (pc0 := 64) (pc' := 68) rfl (hb hby d7_64) (by decide) (by decide) k) ?_
      show Goes p e below (T122.setTop (mkF m 68 #[.val (.ref a1), .val (.int p2), .val (.long v85), .second] [(.int (1 : Int32))])) _
      have he : own_e wl we p2 = (0 : Int32) := by simp only [own_e, ← hcc, if_pos hc19_88, if_neg hc28_90]
      have hl : own_l wl we p2 = (wl - v85) := by rw [own_l, he]; simp [hcc]
      have hr : own_r wl we p2 = (1 : Int32) := by rw [own_r, he]; simp
      have eh : T122.heap = h113 := e122
      exact Goes.retN (t := .boolean) X122 hx Bd.returns (by simp) hlocks (hb hby d7_68) (⟨by rw [hr]; rfl, N113, by rw [eh]; exact K115, by rw [eh]; exact f117, by rw [eh, hl]; exact f114, by rw [eh]; exact f119, by rw [eh]; exact f120, by rw [eh, he]; exact f121⟩) (by decide) (by decide)
  · refine Goes.of (fun t k => XS.ifYes X87.here hx rfl (pc0 := 19) (pc' := 31) rfl (hb hby d7_19) rfl ((if0 _ _).trans (feq hc19_88).2) (by decide) (by decide) k) ?_
    show Goes p e below (T87.setTop (mkF m 31 #[.val (.ref a1), .val (.int p2), .val (.long v85), .second] [(.ref a1)])) _
    refine Goes.of (fun t k => XS.iconst X87.here hx rfl (hb hby d7_31) k) ?_
    show Goes p e below (T87.setTop (mkF m 32 #[.val (.ref a1), .val (.int p2), .val (.long v85), .second] [(.int (1 : Int32)), (.ref a1)])) _
    refine Goes.of (fun t k => XS.goto X87.here hx rfl (pc0 := 32) (pc' := 36) rfl (hb hby d7_32) (by decide) (by decide) k) ?_
    show Goes p e below (T87.setTop (mkF m 36 #[.val (.ref a1), .val (.int p2), .val (.long v85), .second] [(.int (1 : Int32)), (.ref a1)])) _
    obtain ⟨T123, h123, X123, e123, W123, st123⟩ := putFN X87 hx hZ hown (hw _ (List.mem_of_getElem? (i := 54) rfl)) Via.refl e87 F_entitiesSpent E (Or.inl (hw _ (List.mem_of_getElem? (i := 55) rfl))) (hw _ (List.mem_of_getElem? (i := 1) rfl)) (ty := .boolean) (v' := (.int (1 : Int32))) (by decide) rfl (by decide) (g := (mkF m 36 #[.val (.ref a1), .val (.int p2), .val (.long v85), .second] [(.int (1 : Int32)), (.ref a1)])) rfl rfl (hb hby d7_36)
    have f124 := F_entitiesSpent.same W123
    have K125 : Keep h0 h123 [a1] := K0.wr W123 (Or.inl (List.mem_of_getElem? (i := 0) rfl))
    have z126 : n0 ≤ h123.size := Nat.le_trans Z0 (Keep.of_wr W123).1
    have f127 := E.wr W123
    have f128 := F_left.other W123 (Or.inr (slot_ne (Or.inl (hw _ (List.mem_of_getElem? (i := 11) rfl))) (Or.inl (hw _ (List.mem_of_getElem? (i := 55) rfl))) (by decide) (t := .long) (t' := .boolean) (by decide) (by decide)))
    have f129 := F_fieldsLeft.other W123 (Or.inr (slot_ne (Or.inl (hw _ (List.mem_of_getElem? (i := 14) rfl))) (Or.inl (hw _ (List.mem_of_getElem? (i := 55) rfl))) (by decide) (t := .long) (t' := .boolean) (by decide) (by decide)))
    have f130 := F_spent.other W123 (Or.inr (slot_ne (Or.inl (hw _ (List.mem_of_getElem? (i := 31) rfl))) (Or.inl (hw _ (List.mem_of_getElem? (i := 55) rfl))) (by decide) (t := .boolean) (t' := .boolean) (by decide) (by decide)))
    have N123 := Fr.snoc X123 N0 g
    refine Goes.of st123 ?_
    show Goes p e below (T123.setTop (mkF m 39 #[.val (.ref a1), .val (.int p2), .val (.long v85), .second] [])) _
    refine Goes.of (fun t k => XS.aloadN X123.here hx rfl (hb hby d7_39) rfl rfl k) ?_
    show Goes p e below (T123.setTop (mkF m 40 #[.val (.ref a1), .val (.int p2), .val (.long v85), .second] [(.ref a1)])) _
    obtain ⟨T132, X132, e132, st132⟩ := getF X123 hx hZ hown (host := "") (Or.inl (hw _ (List.mem_of_getElem? (i := 54) rfl))) Via.refl e123 f124 (g := (mkF m 40 #[.val (.ref a1), .val (.int p2), .val (.long v85), .second] [(.ref a1)])) rfl rfl (hb hby d7_40)
    refine Goes.of st132 ?_
    show Goes p e below (T132.setTop (mkF m 43 #[.val (.ref a1), .val (.int p2), .val (.long v85), .second] [(.int (1 : Int32))])) _
    refine Goes.of (fun t k => XS.ifYes X132.here hx rfl (pc0 := 43) (pc' := 56) rfl (hb hby d7_43) rfl ((if0 _ _).trans (feq (by decide)).2) (by decide) (by decide) k) ?_
    show Goes p e below (T132.setTop (mkF m 56 #[.val (.ref a1), .val (.int p2), .val (.long v85), .second] [])) _
    refine Goes.of (fun t k => XS.aloadN X132.here hx rfl (hb hby d7_56) rfl rfl k) ?_
    show Goes p e below (T132.setTop (mkF m 57 #[.val (.ref a1), .val (.int p2), .val (.long v85), .second] [(.ref a1)])) _
    obtain ⟨T133, X133, e133, st133⟩ := getF X132 hx hZ hown (host := "") (Or.inl (hw _ (List.mem_of_getElem? (i := 54) rfl))) Via.refl e132 f124 (g := (mkF m 57 #[.val (.ref a1), .val (.int p2), .val (.long v85), .second] [(.ref a1)])) rfl rfl (hb hby d7_57)
    refine Goes.of st133 ?_
    show Goes p e below (T133.setTop (mkF m 60 #[.val (.ref a1), .val (.int p2), .val (.long v85), .second] [(.int (1 : Int32))])) _
    refine Goes.of (fun t k => XS.ifYes X133.here hx rfl (pc0 := 60) (pc' := 67) rfl (hb hby d7_60) rfl ((if0 _ _).trans (feq (by decide)).2) (by decide) (by decide) k) ?_
    show Goes p e below (T133.setTop (mkF m 67 #[.val (.ref a1), .val (.int p2), .val (.long v85), .second] [])) _
    refine Goes.of (fun t k => XS.iconst X133.here hx rfl (hb hby d7_67) k) ?_
    show Goes p e below (T133.setTop (mkF m 68 #[.val (.ref a1), .val (.int p2), .val (.long v85), .second] [(.int (0 : Int32))])) _
    have he : own_e wl we p2 = (1 : Int32) := by simp only [own_e, ← hcc, if_neg hc19_88]
    have hl : own_l wl we p2 = wl := by rw [own_l, he]; simp [hcc]
    have hr : own_r wl we p2 = (0 : Int32) := by rw [own_r, he]; simp
    have eh : T133.heap = h123 := e133
    exact Goes.retN (t := .boolean) X133 hx Bd.returns (by simp) hlocks (hb hby d7_68) (⟨by rw [hr]; rfl, N123, by rw [eh]; exact K125, by rw [eh]; exact f127, by rw [eh, hl]; exact f128, by rw [eh]; exact f129, by rw [eh]; exact f130, by rw [eh, he]; exact f124⟩) (by decide) (by decide)
theorem own_k (a : Int32) : 0 ≤ ((a &&& 2147483647) - (a &&& 2147483647) / 314570 * 314570).toInt ∧ ((a &&& 2147483647) - (a &&& 2147483647) / 314570 * 314570).toInt ≤ 314569 := by
  have e1 : (a &&& 2147483647).toInt = a.toInt % 2 ^ 31 := Jvm.Kit.i32_mask a 2147483647 (k := 31) (by decide) (by decide)
  have e2 : ((a &&& 2147483647) - (a &&& 2147483647) / 314570 * 314570).toInt = (a &&& 2147483647).toInt % (314570 : Int32).toInt := own_rem32n (by omega)
  have e3 : (314570 : Int32).toInt = 314570 := by decide
  rw [e3] at e2; omega
theorem own_len (b : Int32) : 0 ≤ (b &&& 127).toInt ∧ (b &&& 127).toInt ≤ 127 := by
  have e1 : (b &&& 127).toInt = b.toInt % 2 ^ 7 := Jvm.Kit.i32_mask b 127 (k := 7) (by decide) (by decide)
  omega
theorem own_back (k : Int64) (h1 : 0 ≤ k.toInt) (h2 : k.toInt ≤ 314569) : (((314569 : Int64) - k).toInt32).toInt64 = 314569 - k := by
  have e0 : (314569 : Int64).toInt = 314569 := by decide
  have e1 : ((314569 : Int64) - k).toInt = 314569 - k.toInt := by rw [Jvm.Kit.i64_sub] <;> rw [e0] <;> omega
  apply Int64.toInt_inj.mp
  rw [Jvm.Kit.i64_of_i32, Jvm.Kit.i32_of_i64] <;> rw [e1] <;> omega
theorem own_ring (k l : Int64) : ((50331572 : Int64) - ((((96 : Int64) + (0 : Int64)) + ((2 : Int64) * l)) + ((64 : Int64) * ((0 : Int32).toInt64)))) - ((320 : Int64) + ((314569 - k) * (160 : Int64))) = (((116 : Int64) + ((160 : Int64) * k)) - ((2 : Int64) * l)) := by
  have e : (0 : Int32).toInt64 = 0 := by decide
  rw [e]; grind
theorem own_cost (l : Int64) (h1 : 0 ≤ l.toInt) (h2 : l.toInt ≤ 127) : ((((96 : Int64) + (0 : Int64)) + ((2 : Int64) * l)) + ((64 : Int64) * ((0 : Int32).toInt64))).toInt = 96 + 2 * l.toInt := by
  have e : ((((96 : Int64) + (0 : Int64)) + ((2 : Int64) * l)) + ((64 : Int64) * ((0 : Int32).toInt64))) = 96 + 2 * l := by
    have e : (0 : Int32).toInt64 = 0 := by decide
    rw [e]; grind
  have c2 : (2 : Int64).toInt = 2 := by decide
  have c96 : (96 : Int64).toInt = 96 := by decide
  have m : ((2 : Int64) * l).toInt = 2 * l.toInt := by rw [Jvm.Kit.i64_mul] <;> rw [c2] <;> omega
  rw [e, Jvm.Kit.i64_add] <;> rw [m, c96] <;> omega
theorem own_fin (LL : Int64) (d1 d2 d3 : Int32) (l1 l2 : Int64) {e1 e2 e3 : Int32}
    (he1 : e1 = if LL < f6 d1 then (0 : Int32) else 1) (hl1 : l1 = if e1 = 0 then LL else LL - f6 d1)
    (he2 : e2 = if e1 = 0 then (0 : Int32) else if l1 < f6 d2 then 0 else 1) (hl2 : l2 = if e2 = 0 then l1 else l1 - f6 d2)
    (he3 : e3 = if e2 = 0 then (0 : Int32) else if l2 < f6 d3 then 0 else 1) :
    own_r LL 0 d1 = e1 ∧ own_r (own_l LL 0 d1) (own_e LL 0 d1) d2 = e2 ∧ own_r (own_l (own_l LL 0 d1) (own_e LL 0 d1) d2) (own_e (own_l LL 0 d1) (own_e LL 0 d1) d2) d3 = e3 := by
  have z1 : ¬ ((1 : Int32) = 0) := by decide
  by_cases h1 : LL < f6 d1
  · rw [if_pos h1] at he1; subst he1
    rw [if_pos rfl] at hl1 he2; subst hl1; subst he2
    rw [if_pos rfl] at hl2 he3; subst hl2; subst he3
    have s1 : own_e l2 0 d1 = 1 := by rw [own_e, if_pos rfl, if_pos h1]
    have t1 : own_l l2 0 d1 = l2 := by rw [own_l, s1, if_neg z1]
    have s2 : own_e l2 1 d2 = 1 := by rw [own_e, if_neg z1]
    have t2 : own_l l2 1 d2 = l2 := by rw [own_l, s2, if_neg z1]
    have s3 : own_e l2 1 d3 = 1 := by rw [own_e, if_neg z1]
    rw [own_r, s1, t1, own_r, s2, t2, own_r, s3, if_neg z1]; exact ⟨rfl, rfl, rfl⟩
  · rw [if_neg h1] at he1; subst he1
    rw [if_neg z1] at hl1 he2; subst hl1
    have s1 : own_e LL 0 d1 = 0 := by rw [own_e, if_pos rfl, if_neg h1]
    have t1 : own_l LL 0 d1 = LL - f6 d1 := by rw [own_l, s1, if_pos rfl]
    by_cases h2 : LL - f6 d1 < f6 d2
    · rw [if_pos h2] at he2; subst he2
      rw [if_pos rfl] at hl2 he3; subst hl2; subst he3
      have s2 : own_e (LL - f6 d1) 0 d2 = 1 := by rw [own_e, if_pos rfl, if_pos h2]
      have t2 : own_l (LL - f6 d1) 0 d2 = LL - f6 d1 := by rw [own_l, s2, if_neg z1]
      have s3 : own_e (LL - f6 d1) 1 d3 = 1 := by rw [own_e, if_neg z1]
      rw [own_r, s1, t1, own_r, s2, t2, own_r, s3, if_neg z1]; exact ⟨rfl, rfl, rfl⟩
    · rw [if_neg h2] at he2; subst he2
      rw [if_neg z1] at hl2 he3; subst hl2
      have s2 : own_e (LL - f6 d1) 0 d2 = 0 := by rw [own_e, if_pos rfl, if_neg h2]
      have t2 : own_l (LL - f6 d1) 0 d2 = LL - f6 d1 - f6 d2 := by rw [own_l, s2, if_pos rfl]
      by_cases h3 : LL - f6 d1 - f6 d2 < f6 d3
      · rw [if_pos h3] at he3; subst he3
        have s3 : own_e (LL - f6 d1 - f6 d2) 0 d3 = 1 := by rw [own_e, if_pos rfl, if_pos h3]
        rw [own_r, s1, t1, own_r, s2, t2, own_r, s3, if_neg z1]; exact ⟨rfl, rfl, rfl⟩
      · rw [if_neg h3] at he3; subst he3
        have s3 : own_e (LL - f6 d1 - f6 d2) 0 d3 = 0 := by rw [own_e, if_pos rfl, if_neg h3]
        rw [own_r, s1, t1, own_r, s2, t2, own_r, s3, if_pos rfl]; exact ⟨rfl, rfl, rfl⟩
theorem ef_0 (m : MethodId) (x0 : Int32) (x1 : Int32) (x2 : Int32) : entryFrame m #[(.int x0), (.int x1), (.int x2)] maxLocals = mkF m 0 #[.val (.int x0), .val (.int x1), .val (.int x2), .unset, .unset, .unset, .unset, .unset, .unset, .unset, .unset, .unset, .unset, .unset, .unset, .unset, .unset, .unset, .unset, .unset, .unset, .unset, .unset, .unset, .unset, .unset, .unset, .unset, .unset] [] := by first | (simp [entryFrame, mkF, argsToLocals, Value.category, maxLocals]; done) | rfl
def Q0 (Z : State) (p1 : Int32) (p2 : Int32) (p3 : Int32) (h0 : Heap) (n0 : Nat) (v : Option Value) (h : Heap) (L : List Loc) : Prop := v = some (.int 1) ∧ Fr n0 L
set_option maxRecDepth 65536 in
set_option maxHeartbeats 40000000 in
theorem rm0 (l : Launch) (Z : State) (a0 : Array Value) (hw : ∀ d ∈ tables_1, d.before a0 Z = true) (ws : List Jvm.Cond) (p1 : Int32) (p2 : Int32) (p3 : Int32) (h0 : Heap) (n0 : Nat) (Z0 : n0 ≤ h0.size)  :
    MetFree l x (head1 (Jvm.Cond.code x code maxLocals ret :: ws) room_1) (fun a U => a = #[(.int p1), (.int p2), (.int p3)] ∧ Z.Warmed39 U.vm ∧ U.heap = h0) (fun _ _ _ _ _ => True) (fun _ U o U' => ∃ v L, o = .returned v ∧ Q0 Z p1 p2 p3 h0 n0 v U'.heap L ∧ FrameEnd U o U' L room_1.cells room_1.slots) := by
  refine MetFree.of_bodySF (plainFor_of_name pn_2) hisR ?_
  intro p e s m args below meth c s₁ Bd hml0 hP hK
  obtain ⟨rfl, hZ, hh⟩ := hP
  have hx := Bd.exec
  have hby := Bd.bytes
  have hml : c.maxLocals = 29 := hml0
  have hown : s.vm.findClass "com/example/bit7/bit7/io/ReadBudgetTakeEntityPinLaw" = some m.cls := findClass_of_methodNamed Bd.named
  have hnm := (name_of_methodNamed Bd.named Bd.method).1
  have hlocks : meth.locks = false := BodyLoose.notSynchronized Bd
  have X0 : Stand p l e room_1 s m #[(.int p1), (.int p2), (.int p3)] below meth c s₁ [] 0 0 := Stand.of_body Bd
  have e0 : s₁.heap = h0 := by rw [← hh, Bd.state]; rfl
  have N0 := Fr.nil n0
  show Goes p e below (s₁.setTop (entryFrame m #[(.int p1), (.int p2), (.int p3)] maxLocals)) (Fin s (Q0 Z p1 p2 p3 h0 n0) room_1.cells room_1.slots)
  refine Goes.of (fun t k => castTop (ef_0 m p1 p2 p3) k) ?_
  show Goes p e below (s₁.setTop (mkF m 0 #[.val (.int p1), .val (.int p2), .val (.int p3), .unset, .unset, .unset, .unset, .unset, .unset, .unset, .unset, .unset, .unset, .unset, .unset, .unset, .unset, .unset, .unset, .unset, .unset, .unset, .unset, .unset, .unset, .unset, .unset, .unset, .unset] [])) _
  obtain ⟨T134, h134, X134, e134, E134, A134, D134, -, st134⟩ := newO X0 hx hZ hown (hw _ (List.mem_of_getElem? (i := 0) rfl)) (hw _ (List.mem_of_getElem? (i := 1) rfl)) (hw _ (List.mem_of_getElem? (i := 2) rfl)) e0 (g := (mkF m 0 #[.val (.int p1), .val (.int p2), .val (.int p3), .unset, .unset, .unset, .unset, .unset, .unset, .unset, .unset, .unset, .unset, .unset, .unset, .unset, .unset, .unset, .unset, .unset, .unset, .unset, .unset, .unset, .unset, .unset, .unset, .unset, .unset] [])) rfl (hb hby at_0) (by decide) (by decide)
  obtain ⟨b134, g134⟩ : ∃ z, z = h0.size := ⟨_, rfl⟩
  rw [← g134] at A134 D134 st134
  have g135 : n0 ≤ b134 := Nat.le_trans Z0 (Nat.le_of_eq g134.symm)
  have z136 : n0 ≤ h134.size := Nat.le_trans Z0 E134.1
  have f137 : Fld Z h134 b134 "com/example/bit7/bit7/io/ReadBudget" "left" "J" (.long (0 : Int64)) := D134 (Or.inl (hw _ (List.mem_of_getElem? (i := 11) rfl))) (ty := .long) (by decide)
  have f138 : Fld Z h134 b134 "com/example/bit7/bit7/io/ReadBudget" "fieldsLeft" "J" (.long (0 : Int64)) := D134 (Or.inl (hw _ (List.mem_of_getElem? (i := 14) rfl))) (ty := .long) (by decide)
  have f139 : Fld Z h134 b134 "com/example/bit7/bit7/io/ReadBudget" "spent" "Z" (.int (0 : Int32)) := D134 (Or.inl (hw _ (List.mem_of_getElem? (i := 31) rfl))) (ty := .boolean) (by decide)
  have f140 : Fld Z h134 b134 "com/example/bit7/bit7/io/ReadBudget" "entitiesSpent" "Z" (.int (0 : Int32)) := D134 (Or.inl (hw _ (List.mem_of_getElem? (i := 55) rfl))) (ty := .boolean) (by decide)
  refine Goes.of st134 ?_
  show Goes p e below (T134.setTop (mkF m 3 #[.val (.int p1), .val (.int p2), .val (.int p3), .unset, .unset, .unset, .unset, .unset, .unset, .unset, .unset, .unset, .unset, .unset, .unset, .unset, .unset, .unset, .unset, .unset, .unset, .unset, .unset, .unset, .unset, .unset, .unset, .unset, .unset] [(.ref b134)])) _
  refine Goes.of (fun t k => XS.dup X134.here hx rfl (hb hby at_3) rfl rfl k) ?_
  show Goes p e below (T134.setTop (mkF m 4 #[.val (.int p1), .val (.int p2), .val (.int p3), .unset, .unset, .unset, .unset, .unset, .unset, .unset, .unset, .unset, .unset, .unset, .unset, .unset, .unset, .unset, .unset, .unset, .unset, .unset, .unset, .unset, .unset, .unset, .unset, .unset, .unset] [(.ref b134), (.ref b134)])) _
  obtain ⟨_, _, ⟨T141, L141, k141, n141⟩, -, X141, ⟨Lc141, hQ141, l141, y141, z141⟩, st141⟩ := X134.specialBack hx (y := (⟨"com/example/bit7/bit7/io/ReadBudget", "<init>", "()V"⟩ : MethodName)) rfl hown (mvT hZ (hw _ (List.mem_of_getElem? (i := 3) rfl))) (mvT hZ (hw _ (List.mem_of_getElem? (i := 4) rfl))) (mvT hZ (hw _ (List.mem_of_getElem? (i := 5) rfl))) (by decide) (backOf (W := 1) (rm1 l Z a0 hw [] b134  h134 n0 z136 A134 g135 f137 f138 f139 f140) hZ (hw _ (List.mem_of_getElem? (i := 5) rfl)) (hw _ (List.mem_of_getElem? (i := 2) rfl)) (by decide) (by decide)) (g := (mkF m 4 #[.val (.int p1), .val (.int p2), .val (.int p3), .unset, .unset, .unset, .unset, .unset, .unset, .unset, .unset, .unset, .unset, .unset, .unset, .unset, .unset, .unset, .unset, .unset, .unset, .unset, .unset, .unset, .unset, .unset, .unset, .unset, .unset] [(.ref b134), (.ref b134)])) rfl (by rw [hml]; rfl) (Steps.refl _) (a := b134) (argsL := []) (rest := [(.ref b134)]) (lenOf pd_3 rfl) rfl (by show 2 * 0 + _ ≤ _; exact Nat.le_of_eq rfl) (hb hby at_4) (fun _ _ => ⟨rfl, e134, (by decide : 1 + 0 ≤ _), (by decide : 4 + 0 ≤ _)⟩)
  dsimp only [Pt.U, Pt.locs, Pt.cells, Pt.slots] at X141 l141 y141 z141 st141 hQ141
  subst l141 y141 z141
  obtain ⟨rfl, N141q, K141, E141, F141_left, F141_fieldsLeft, F141_spent, F141_entitiesSpent⟩ := hQ141
  have N141 := Fr.app N0 N141q
  have z142 : n0 ≤ T141.heap.size := Nat.le_trans z136 K141.1
  have f143 := A134.keep K141
  refine Goes.of (fun t k => st141.trans k) ?_
  show Goes p e below (T141.setTop (mkF m 7 #[.val (.int p1), .val (.int p2), .val (.int p3), .unset, .unset, .unset, .unset, .unset, .unset, .unset, .unset, .unset, .unset, .unset, .unset, .unset, .unset, .unset, .unset, .unset, .unset, .unset, .unset, .unset, .unset, .unset, .unset, .unset, .unset] [(.ref b134)])) _
  refine Goes.of (fun t k => XS.astoreN X141.here hx rfl (hb hby at_7) rfl rfl (l' := #[.val (.int p1), .val (.int p2), .val (.int p3), .val (.ref b134), .unset, .unset, .unset, .unset, .unset, .unset, .unset, .unset, .unset, .unset, .unset, .unset, .unset, .unset, .unset, .unset, .unset, .unset, .unset, .unset, .unset, .unset, .unset, .unset, .unset]) rfl k) ?_
  show Goes p e below (T141.setTop (mkF m 8 #[.val (.int p1), .val (.int p2), .val (.int p3), .val (.ref b134), .unset, .unset, .unset, .unset, .unset, .unset, .unset, .unset, .unset, .unset, .unset, .unset, .unset, .unset, .unset, .unset, .unset, .unset, .unset, .unset, .unset, .unset, .unset, .unset, .unset] [])) _
  refine Goes.of (fun t k => XS.iloadN X141.here hx rfl (hb hby at_8) rfl k) ?_
  show Goes p e below (T141.setTop (mkF m 9 #[.val (.int p1), .val (.int p2), .val (.int p3), .val (.ref b134), .unset, .unset, .unset, .unset, .unset, .unset, .unset, .unset, .unset, .unset, .unset, .unset, .unset, .unset, .unset, .unset, .unset, .unset, .unset, .unset, .unset, .unset, .unset, .unset, .unset] [(.int p2)])) _
  refine Goes.of (fun t k => XS.bipush X141.here hx rfl (hb hby at_9) k) ?_
  show Goes p e below (T141.setTop (mkF m 11 #[.val (.int p1), .val (.int p2), .val (.int p3), .val (.ref b134), .unset, .unset, .unset, .unset, .unset, .unset, .unset, .unset, .unset, .unset, .unset, .unset, .unset, .unset, .unset, .unset, .unset, .unset, .unset, .unset, .unset, .unset, .unset, .unset, .unset] [(.int (127 : Int32)), (.int p2)])) _
  refine Goes.of (fun t k => XS.iand X141.here hx rfl (hb hby at_11) rfl k) ?_
  show Goes p e below (T141.setTop (mkF m 12 #[.val (.int p1), .val (.int p2), .val (.int p3), .val (.ref b134), .unset, .unset, .unset, .unset, .unset, .unset, .unset, .unset, .unset, .unset, .unset, .unset, .unset, .unset, .unset, .unset, .unset, .unset, .unset, .unset, .unset, .unset, .unset, .unset, .unset] [(.int (p2 &&& (127 : Int32)))])) _
  refine Goes.of (fun t k => XS.istore X141.here hx rfl (hb hby at_12) rfl (l' := #[.val (.int p1), .val (.int p2), .val (.int p3), .val (.ref b134), .val (.int (p2 &&& (127 : Int32))), .unset, .unset, .unset, .unset, .unset, .unset, .unset, .unset, .unset, .unset, .unset, .unset, .unset, .unset, .unset, .unset, .unset, .unset, .unset, .unset, .unset, .unset, .unset, .unset]) rfl k) ?_
  show Goes p e below (T141.setTop (mkF m 14 #[.val (.int p1), .val (.int p2), .val (.int p3), .val (.ref b134), .val (.int (p2 &&& (127 : Int32))), .unset, .unset, .unset, .unset, .unset, .unset, .unset, .unset, .unset, .unset, .unset, .unset, .unset, .unset, .unset, .unset, .unset, .unset, .unset, .unset, .unset, .unset, .unset, .unset] [])) _
  refine Goes.of (fun t k => XS.iloadN X141.here hx rfl (hb hby at_14) rfl k) ?_
  show Goes p e below (T141.setTop (mkF m 15 #[.val (.int p1), .val (.int p2), .val (.int p3), .val (.ref b134), .val (.int (p2 &&& (127 : Int32))), .unset, .unset, .unset, .unset, .unset, .unset, .unset, .unset, .unset, .unset, .unset, .unset, .unset, .unset, .unset, .unset, .unset, .unset, .unset, .unset, .unset, .unset, .unset, .unset] [(.int p1)])) _
  refine Goes.of (fun t k => X141.ldcInt hx hown (mvT hZ (hw _ (List.mem_of_getElem? (i := 15) rfl))) (g := (mkF m 15 #[.val (.int p1), .val (.int p2), .val (.int p3), .val (.ref b134), .val (.int (p2 &&& (127 : Int32))), .unset, .unset, .unset, .unset, .unset, .unset, .unset, .unset, .unset, .unset, .unset, .unset, .unset, .unset, .unset, .unset, .unset, .unset, .unset, .unset, .unset, .unset, .unset, .unset] [(.int p1)])) rfl (hb hby at_15) _ k) ?_
  show Goes p e below (T141.setTop (mkF m 17 #[.val (.int p1), .val (.int p2), .val (.int p3), .val (.ref b134), .val (.int (p2 &&& (127 : Int32))), .unset, .unset, .unset, .unset, .unset, .unset, .unset, .unset, .unset, .unset, .unset, .unset, .unset, .unset, .unset, .unset, .unset, .unset, .unset, .unset, .unset, .unset, .unset, .unset] [(.int (2147483647 : Int32)), (.int p1)])) _
  refine Goes.of (fun t k => XS.iand X141.here hx rfl (hb hby at_17) rfl k) ?_
  show Goes p e below (T141.setTop (mkF m 18 #[.val (.int p1), .val (.int p2), .val (.int p3), .val (.ref b134), .val (.int (p2 &&& (127 : Int32))), .unset, .unset, .unset, .unset, .unset, .unset, .unset, .unset, .unset, .unset, .unset, .unset, .unset, .unset, .unset, .unset, .unset, .unset, .unset, .unset, .unset, .unset, .unset, .unset] [(.int (p1 &&& (2147483647 : Int32)))])) _
  refine Goes.of (fun t k => X141.ldcInt hx hown (mvT hZ (hw _ (List.mem_of_getElem? (i := 16) rfl))) (g := (mkF m 18 #[.val (.int p1), .val (.int p2), .val (.int p3), .val (.ref b134), .val (.int (p2 &&& (127 : Int32))), .unset, .unset, .unset, .unset, .unset, .unset, .unset, .unset, .unset, .unset, .unset, .unset, .unset, .unset, .unset, .unset, .unset, .unset, .unset, .unset, .unset, .unset, .unset, .unset] [(.int (p1 &&& (2147483647 : Int32)))])) rfl (hb hby at_18) _ k) ?_
  show Goes p e below (T141.setTop (mkF m 20 #[.val (.int p1), .val (.int p2), .val (.int p3), .val (.ref b134), .val (.int (p2 &&& (127 : Int32))), .unset, .unset, .unset, .unset, .unset, .unset, .unset, .unset, .unset, .unset, .unset, .unset, .unset, .unset, .unset, .unset, .unset, .unset, .unset, .unset, .unset, .unset, .unset, .unset] [(.int (314570 : Int32)), (.int (p1 &&& (2147483647 : Int32)))])) _
  refine Goes.of (fun t k => XS.irem X141.here hx rfl (hb hby at_20) rfl (by decide) k) ?_
  show Goes p e below (T141.setTop (mkF m 21 #[.val (.int p1), .val (.int p2), .val (.int p3), .val (.ref b134), .val (.int (p2 &&& (127 : Int32))), .unset, .unset, .unset, .unset, .unset, .unset, .unset, .unset, .unset, .unset, .unset, .unset, .unset, .unset, .unset, .unset, .unset, .unset, .unset, .unset, .unset, .unset, .unset, .unset] [(.int ((p1 &&& (2147483647 : Int32)) - (p1 &&& (2147483647 : Int32)) / (314570 : Int32) * (314570 : Int32)))])) _
  refine Goes.of (fun t k => XS.i2l X141.here hx rfl (hb hby at_21) rfl k) ?_
  show Goes p e below (T141.setTop (mkF m 22 #[.val (.int p1), .val (.int p2), .val (.int p3), .val (.ref b134), .val (.int (p2 &&& (127 : Int32))), .unset, .unset, .unset, .unset, .unset, .unset, .unset, .unset, .unset, .unset, .unset, .unset, .unset, .unset, .unset, .unset, .unset, .unset, .unset, .unset, .unset, .unset, .unset, .unset] [(.long (((p1 &&& (2147483647 : Int32)) - (p1 &&& (2147483647 : Int32)) / (314570 : Int32) * (314570 : Int32)).toInt64))])) _
  refine Goes.of (fun t k => XS.lstore X141.here hx rfl (hb hby at_22) rfl (l' := #[.val (.int p1), .val (.int p2), .val (.int p3), .val (.ref b134), .val (.int (p2 &&& (127 : Int32))), .val (.long (((p1 &&& (2147483647 : Int32)) - (p1 &&& (2147483647 : Int32)) / (314570 : Int32) * (314570 : Int32)).toInt64)), .second, .unset, .unset, .unset, .unset, .unset, .unset, .unset, .unset, .unset, .unset, .unset, .unset, .unset, .unset, .unset, .unset, .unset, .unset, .unset, .unset, .unset, .unset]) rfl k) ?_
  show Goes p e below (T141.setTop (mkF m 24 #[.val (.int p1), .val (.int p2), .val (.int p3), .val (.ref b134), .val (.int (p2 &&& (127 : Int32))), .val (.long (((p1 &&& (2147483647 : Int32)) - (p1 &&& (2147483647 : Int32)) / (314570 : Int32) * (314570 : Int32)).toInt64)), .second, .unset, .unset, .unset, .unset, .unset, .unset, .unset, .unset, .unset, .unset, .unset, .unset, .unset, .unset, .unset, .unset, .unset, .unset, .unset, .unset, .unset, .unset] [])) _
  refine Goes.of (fun t k => X141.ldc2Long hx hown (mvT hZ (hw _ (List.mem_of_getElem? (i := 17) rfl))) (g := (mkF m 24 #[.val (.int p1), .val (.int p2), .val (.int p3), .val (.ref b134), .val (.int (p2 &&& (127 : Int32))), .val (.long (((p1 &&& (2147483647 : Int32)) - (p1 &&& (2147483647 : Int32)) / (314570 : Int32) * (314570 : Int32)).toInt64)), .second, .unset, .unset, .unset, .unset, .unset, .unset, .unset, .unset, .unset, .unset, .unset, .unset, .unset, .unset, .unset, .unset, .unset, .unset, .unset, .unset, .unset, .unset] [])) rfl (hb hby at_24) _ k) ?_
  show Goes p e below (T141.setTop (mkF m 27 #[.val (.int p1), .val (.int p2), .val (.int p3), .val (.ref b134), .val (.int (p2 &&& (127 : Int32))), .val (.long (((p1 &&& (2147483647 : Int32)) - (p1 &&& (2147483647 : Int32)) / (314570 : Int32) * (314570 : Int32)).toInt64)), .second, .unset, .unset, .unset, .unset, .unset, .unset, .unset, .unset, .unset, .unset, .unset, .unset, .unset, .unset, .unset, .unset, .unset, .unset, .unset, .unset, .unset, .unset] [(.long (314569 : Int64))])) _
  refine Goes.of (fun t k => XS.lload X141.here hx rfl (hb hby at_27) rfl k) ?_
  show Goes p e below (T141.setTop (mkF m 29 #[.val (.int p1), .val (.int p2), .val (.int p3), .val (.ref b134), .val (.int (p2 &&& (127 : Int32))), .val (.long (((p1 &&& (2147483647 : Int32)) - (p1 &&& (2147483647 : Int32)) / (314570 : Int32) * (314570 : Int32)).toInt64)), .second, .unset, .unset, .unset, .unset, .unset, .unset, .unset, .unset, .unset, .unset, .unset, .unset, .unset, .unset, .unset, .unset, .unset, .unset, .unset, .unset, .unset, .unset] [(.long (((p1 &&& (2147483647 : Int32)) - (p1 &&& (2147483647 : Int32)) / (314570 : Int32) * (314570 : Int32)).toInt64)), (.long (314569 : Int64))])) _
  refine Goes.of (fun t k => XS.lsub X141.here hx rfl (hb hby at_29) rfl k) ?_
  show Goes p e below (T141.setTop (mkF m 30 #[.val (.int p1), .val (.int p2), .val (.int p3), .val (.ref b134), .val (.int (p2 &&& (127 : Int32))), .val (.long (((p1 &&& (2147483647 : Int32)) - (p1 &&& (2147483647 : Int32)) / (314570 : Int32) * (314570 : Int32)).toInt64)), .second, .unset, .unset, .unset, .unset, .unset, .unset, .unset, .unset, .unset, .unset, .unset, .unset, .unset, .unset, .unset, .unset, .unset, .unset, .unset, .unset, .unset, .unset] [(.long ((314569 : Int64) - (((p1 &&& (2147483647 : Int32)) - (p1 &&& (2147483647 : Int32)) / (314570 : Int32) * (314570 : Int32)).toInt64)))])) _
  refine Goes.of (fun t k => XS.l2i X141.here hx rfl (hb hby at_30) rfl k) ?_
  show Goes p e below (T141.setTop (mkF m 31 #[.val (.int p1), .val (.int p2), .val (.int p3), .val (.ref b134), .val (.int (p2 &&& (127 : Int32))), .val (.long (((p1 &&& (2147483647 : Int32)) - (p1 &&& (2147483647 : Int32)) / (314570 : Int32) * (314570 : Int32)).toInt64)), .second, .unset, .unset, .unset, .unset, .unset, .unset, .unset, .unset, .unset, .unset, .unset, .unset, .unset, .unset, .unset, .unset, .unset, .unset, .unset, .unset, .unset, .unset] [(.int (((314569 : Int64) - (((p1 &&& (2147483647 : Int32)) - (p1 &&& (2147483647 : Int32)) / (314570 : Int32) * (314570 : Int32)).toInt64)).toInt32))])) _
  refine Goes.of (fun t k => XS.istore X141.here hx rfl (hb hby at_31) rfl (l' := #[.val (.int p1), .val (.int p2), .val (.int p3), .val (.ref b134), .val (.int (p2 &&& (127 : Int32))), .val (.long (((p1 &&& (2147483647 : Int32)) - (p1 &&& (2147483647 : Int32)) / (314570 : Int32) * (314570 : Int32)).toInt64)), .second, .val (.int (((314569 : Int64) - (((p1 &&& (2147483647 : Int32)) - (p1 &&& (2147483647 : Int32)) / (314570 : Int32) * (314570 : Int32)).toInt64)).toInt32)), .unset, .unset, .unset, .unset, .unset, .unset, .unset, .unset, .unset, .unset, .unset, .unset, .unset, .unset, .unset, .unset, .unset, .unset, .unset, .unset, .unset]) rfl k) ?_
  show Goes p e below (T141.setTop (mkF m 33 #[.val (.int p1), .val (.int p2), .val (.int p3), .val (.ref b134), .val (.int (p2 &&& (127 : Int32))), .val (.long (((p1 &&& (2147483647 : Int32)) - (p1 &&& (2147483647 : Int32)) / (314570 : Int32) * (314570 : Int32)).toInt64)), .second, .val (.int (((314569 : Int64) - (((p1 &&& (2147483647 : Int32)) - (p1 &&& (2147483647 : Int32)) / (314570 : Int32) * (314570 : Int32)).toInt64)).toInt32)), .unset, .unset, .unset, .unset, .unset, .unset, .unset, .unset, .unset, .unset, .unset, .unset, .unset, .unset, .unset, .unset, .unset, .unset, .unset, .unset, .unset] [])) _
  refine Goes.of (fun t k => XS.aloadN X141.here hx rfl (hb hby at_33) rfl rfl k) ?_
  show Goes p e below (T141.setTop (mkF m 34 #[.val (.int p1), .val (.int p2), .val (.int p3), .val (.ref b134), .val (.int (p2 &&& (127 : Int32))), .val (.long (((p1 &&& (2147483647 : Int32)) - (p1 &&& (2147483647 : Int32)) / (314570 : Int32) * (314570 : Int32)).toInt64)), .second, .val (.int (((314569 : Int64) - (((p1 &&& (2147483647 : Int32)) - (p1 &&& (2147483647 : Int32)) / (314570 : Int32) * (314570 : Int32)).toInt64)).toInt32)), .unset, .unset, .unset, .unset, .unset, .unset, .unset, .unset, .unset, .unset, .unset, .unset, .unset, .unset, .unset, .unset, .unset, .unset, .unset, .unset, .unset] [(.ref b134)])) _
  refine Goes.of (fun t k => XS.iload X141.here hx rfl (hb hby at_34) rfl k) ?_
  show Goes p e below (T141.setTop (mkF m 36 #[.val (.int p1), .val (.int p2), .val (.int p3), .val (.ref b134), .val (.int (p2 &&& (127 : Int32))), .val (.long (((p1 &&& (2147483647 : Int32)) - (p1 &&& (2147483647 : Int32)) / (314570 : Int32) * (314570 : Int32)).toInt64)), .second, .val (.int (((314569 : Int64) - (((p1 &&& (2147483647 : Int32)) - (p1 &&& (2147483647 : Int32)) / (314570 : Int32) * (314570 : Int32)).toInt64)).toInt32)), .unset, .unset, .unset, .unset, .unset, .unset, .unset, .unset, .unset, .unset, .unset, .unset, .unset, .unset, .unset, .unset, .unset, .unset, .unset, .unset, .unset] [(.int (p2 &&& (127 : Int32))), (.ref b134)])) _
  refine Goes.of (fun t k => XS.i2l X141.here hx rfl (hb hby at_36) rfl k) ?_
  show Goes p e below (T141.setTop (mkF m 37 #[.val (.int p1), .val (.int p2), .val (.int p3), .val (.ref b134), .val (.int (p2 &&& (127 : Int32))), .val (.long (((p1 &&& (2147483647 : Int32)) - (p1 &&& (2147483647 : Int32)) / (314570 : Int32) * (314570 : Int32)).toInt64)), .second, .val (.int (((314569 : Int64) - (((p1 &&& (2147483647 : Int32)) - (p1 &&& (2147483647 : Int32)) / (314570 : Int32) * (314570 : Int32)).toInt64)).toInt32)), .unset, .unset, .unset, .unset, .unset, .unset, .unset, .unset, .unset, .unset, .unset, .unset, .unset, .unset, .unset, .unset, .unset, .unset, .unset, .unset, .unset] [(.long ((p2 &&& (127 : Int32)).toInt64)), (.ref b134)])) _
  refine Goes.of (fun t k => XS.iconst X141.here hx rfl (hb hby at_37) k) ?_
  show Goes p e below (T141.setTop (mkF m 38 #[.val (.int p1), .val (.int p2), .val (.int p3), .val (.ref b134), .val (.int (p2 &&& (127 : Int32))), .val (.long (((p1 &&& (2147483647 : Int32)) - (p1 &&& (2147483647 : Int32)) / (314570 : Int32) * (314570 : Int32)).toInt64)), .second, .val (.int (((314569 : Int64) - (((p1 &&& (2147483647 : Int32)) - (p1 &&& (2147483647 : Int32)) / (314570 : Int32) * (314570 : Int32)).toInt64)).toInt32)), .unset, .unset, .unset, .unset, .unset, .unset, .unset, .unset, .unset, .unset, .unset, .unset, .unset, .unset, .unset, .unset, .unset, .unset, .unset, .unset, .unset] [(.int (0 : Int32)), (.long ((p2 &&& (127 : Int32)).toInt64)), (.ref b134)])) _
  refine Goes.of (fun t k => XS.iconst X141.here hx rfl (hb hby at_38) k) ?_
  show Goes p e below (T141.setTop (mkF m 39 #[.val (.int p1), .val (.int p2), .val (.int p3), .val (.ref b134), .val (.int (p2 &&& (127 : Int32))), .val (.long (((p1 &&& (2147483647 : Int32)) - (p1 &&& (2147483647 : Int32)) / (314570 : Int32) * (314570 : Int32)).toInt64)), .second, .val (.int (((314569 : Int64) - (((p1 &&& (2147483647 : Int32)) - (p1 &&& (2147483647 : Int32)) / (314570 : Int32) * (314570 : Int32)).toInt64)).toInt32)), .unset, .unset, .unset, .unset, .unset, .unset, .unset, .unset, .unset, .unset, .unset, .unset, .unset, .unset, .unset, .unset, .unset, .unset, .unset, .unset, .unset] [(.int (1 : Int32)), (.int (0 : Int32)), (.long ((p2 &&& (127 : Int32)).toInt64)), (.ref b134)])) _
  obtain ⟨kL, hkL⟩ : ∃ z : Int64, z = (((p1 &&& (2147483647 : Int32)) - (p1 &&& (2147483647 : Int32)) / (314570 : Int32) * (314570 : Int32)).toInt64) := ⟨_, rfl⟩
  have bk : 0 ≤ kL.toInt ∧ kL.toInt ≤ 314569 := by rw [hkL, Jvm.Kit.i64_of_i32]; exact own_k p1
  obtain ⟨lL, hlL⟩ : ∃ z : Int64, z = ((p2 &&& (127 : Int32)).toInt64) := ⟨_, rfl⟩
  have bl : 0 ≤ lL.toInt ∧ lL.toInt ≤ 127 := by rw [hlL, Jvm.Kit.i64_of_i32]; exact own_len p2
  have hco : ((((96 : Int64) + (0 : Int64)) + ((2 : Int64) * ((p2 &&& (127 : Int32)).toInt64))) + ((64 : Int64) * ((0 : Int32).toInt64))).toInt = 96 + 2 * lL.toInt := by rw [← hlL]; exact own_cost lL bl.1 bl.2
  have k1 : ¬ ((33554432 : Int64) < ((((96 : Int64) + (0 : Int64)) + ((2 : Int64) * ((p2 &&& (127 : Int32)).toInt64))) + ((64 : Int64) * ((0 : Int32).toInt64)))) := by
    rw [Int64.lt_iff_toInt_lt, hco]
    have e2 : (33554432 : Int64).toInt = 33554432 := by decide
    omega
  have k2 : ¬ ((50331572 : Int64) < ((((96 : Int64) + (0 : Int64)) + ((2 : Int64) * ((p2 &&& (127 : Int32)).toInt64))) + ((64 : Int64) * ((0 : Int32).toInt64)))) := by
    rw [Int64.lt_iff_toInt_lt, hco]
    have e2 : (50331572 : Int64).toInt = 50331572 := by decide
    omega
  obtain ⟨cq148, kq148, q148a, q148b, q148c⟩ := isOf hZ rfl f143
  obtain ⟨_, _, ⟨T148, L148, k148, n148⟩, -, X148, ⟨Lc148, hQ148, l148, y148, z148⟩, st148⟩ := X141.virtualBack hx (y := (⟨"com/example/bit7/bit7/io/ReadBudget", "takeField", "(JIZ)Z"⟩ : MethodName)) (z := (⟨"com/example/bit7/bit7/io/ReadBudget", "takeField", "(JIZ)Z"⟩ : MethodName)) hown (mvT hZ (hw _ (List.mem_of_getElem? (i := 18) rfl))) (mvT hZ (hw _ (List.mem_of_getElem? (i := 19) rfl))) (notFace_of_selects (args := #[]) (mvT hZ (hw _ (List.mem_of_getElem? (i := 21) rfl)))) (mvT hZ (hw _ (List.mem_of_getElem? (i := 21) rfl))) (mvT hZ (hw _ (List.mem_of_getElem? (i := 20) rfl))) (by decide) (backOf (W := 0) (rm3 l Z a0 hw [] b134 ((p2 &&& (127 : Int32)).toInt64) _ _ _ T141.heap n0 z142 f143 g135 F141_left F141_fieldsLeft F141_spent F141_entitiesSpent k1 k2) hZ (hw _ (List.mem_of_getElem? (i := 22) rfl)) (hw _ (List.mem_of_getElem? (i := 2) rfl)) (by decide) (by decide)) q148a q148c (g := (mkF m 39 #[.val (.int p1), .val (.int p2), .val (.int p3), .val (.ref b134), .val (.int (p2 &&& (127 : Int32))), .val (.long (((p1 &&& (2147483647 : Int32)) - (p1 &&& (2147483647 : Int32)) / (314570 : Int32) * (314570 : Int32)).toInt64)), .second, .val (.int (((314569 : Int64) - (((p1 &&& (2147483647 : Int32)) - (p1 &&& (2147483647 : Int32)) / (314570 : Int32) * (314570 : Int32)).toInt64)).toInt32)), .unset, .unset, .unset, .unset, .unset, .unset, .unset, .unset, .unset, .unset, .unset, .unset, .unset, .unset, .unset, .unset, .unset, .unset, .unset, .unset, .unset] [(.int (1 : Int32)), (.int (0 : Int32)), (.long ((p2 &&& (127 : Int32)).toInt64)), (.ref b134)])) rfl (by rw [hml]; rfl) (Steps.refl _) (argsL := [(.long ((p2 &&& (127 : Int32)).toInt64)), (.int (0 : Int32)), (.int (1 : Int32))]) (rest := []) (lenOf pd_4 rfl) rfl (by show 2 * 0 + _ ≤ _; exact Nat.le_of_eq rfl) (hb hby at_39) (fun _ _ => ⟨rfl, rfl, (by decide : 1 + 0 ≤ _), (by decide : 4 + 0 ≤ _)⟩)
  dsimp only [Pt.U, Pt.locs, Pt.cells, Pt.slots] at X148 l148 y148 z148 st148 hQ148
  subst l148 y148 z148
  obtain ⟨rfl, N148q, K148, E148, F148_left, F148_fieldsLeft, F148_spent, F148_entitiesSpent⟩ := hQ148
  have N148 := Fr.app N141 N148q
  have z149 : n0 ≤ T148.heap.size := Nat.le_trans z142 K148.1
  have f150 := f143.keep K148
  refine Goes.of (fun t k => st148.trans k) ?_
  show Goes p e below (T148.setTop (mkF m 42 #[.val (.int p1), .val (.int p2), .val (.int p3), .val (.ref b134), .val (.int (p2 &&& (127 : Int32))), .val (.long (((p1 &&& (2147483647 : Int32)) - (p1 &&& (2147483647 : Int32)) / (314570 : Int32) * (314570 : Int32)).toInt64)), .second, .val (.int (((314569 : Int64) - (((p1 &&& (2147483647 : Int32)) - (p1 &&& (2147483647 : Int32)) / (314570 : Int32) * (314570 : Int32)).toInt64)).toInt32)), .unset, .unset, .unset, .unset, .unset, .unset, .unset, .unset, .unset, .unset, .unset, .unset, .unset, .unset, .unset, .unset, .unset, .unset, .unset, .unset, .unset] [(.int (1 : Int32))])) _
  refine Goes.of (fun t k => XS.pop X148.here hx rfl (hb hby at_42) rfl rfl k) ?_
  show Goes p e below (T148.setTop (mkF m 43 #[.val (.int p1), .val (.int p2), .val (.int p3), .val (.ref b134), .val (.int (p2 &&& (127 : Int32))), .val (.long (((p1 &&& (2147483647 : Int32)) - (p1 &&& (2147483647 : Int32)) / (314570 : Int32) * (314570 : Int32)).toInt64)), .second, .val (.int (((314569 : Int64) - (((p1 &&& (2147483647 : Int32)) - (p1 &&& (2147483647 : Int32)) / (314570 : Int32) * (314570 : Int32)).toInt64)).toInt32)), .unset, .unset, .unset, .unset, .unset, .unset, .unset, .unset, .unset, .unset, .unset, .unset, .unset, .unset, .unset, .unset, .unset, .unset, .unset, .unset, .unset] [])) _
  refine Goes.of (fun t k => XS.aloadN X148.here hx rfl (hb hby at_43) rfl rfl k) ?_
  show Goes p e below (T148.setTop (mkF m 44 #[.val (.int p1), .val (.int p2), .val (.int p3), .val (.ref b134), .val (.int (p2 &&& (127 : Int32))), .val (.long (((p1 &&& (2147483647 : Int32)) - (p1 &&& (2147483647 : Int32)) / (314570 : Int32) * (314570 : Int32)).toInt64)), .second, .val (.int (((314569 : Int64) - (((p1 &&& (2147483647 : Int32)) - (p1 &&& (2147483647 : Int32)) / (314570 : Int32) * (314570 : Int32)).toInt64)).toInt32)), .unset, .unset, .unset, .unset, .unset, .unset, .unset, .unset, .unset, .unset, .unset, .unset, .unset, .unset, .unset, .unset, .unset, .unset, .unset, .unset, .unset] [(.ref b134)])) _
  refine Goes.of (fun t k => XS.iload X148.here hx rfl (hb hby at_44) rfl k) ?_
  show Goes p e below (T148.setTop (mkF m 46 #[.val (.int p1), .val (.int p2), .val (.int p3), .val (.ref b134), .val (.int (p2 &&& (127 : Int32))), .val (.long (((p1 &&& (2147483647 : Int32)) - (p1 &&& (2147483647 : Int32)) / (314570 : Int32) * (314570 : Int32)).toInt64)), .second, .val (.int (((314569 : Int64) - (((p1 &&& (2147483647 : Int32)) - (p1 &&& (2147483647 : Int32)) / (314570 : Int32) * (314570 : Int32)).toInt64)).toInt32)), .unset, .unset, .unset, .unset, .unset, .unset, .unset, .unset, .unset, .unset, .unset, .unset, .unset, .unset, .unset, .unset, .unset, .unset, .unset, .unset, .unset] [(.int (((314569 : Int64) - (((p1 &&& (2147483647 : Int32)) - (p1 &&& (2147483647 : Int32)) / (314570 : Int32) * (314570 : Int32)).toInt64)).toInt32)), (.ref b134)])) _
  obtain ⟨cq155, kq155, q155a, q155b, q155c⟩ := isOf hZ rfl f150
  obtain ⟨_, _, ⟨T155, L155, k155, n155⟩, -, X155, ⟨Lc155, hQ155, l155, y155, z155⟩, st155⟩ := X148.virtualBack hx (y := (⟨"com/example/bit7/bit7/io/ReadBudget", "takeParameterizedValue", "(I)V"⟩ : MethodName)) (z := (⟨"com/example/bit7/bit7/io/ReadBudget", "takeParameterizedValue", "(I)V"⟩ : MethodName)) hown (mvT hZ (hw _ (List.mem_of_getElem? (i := 32) rfl))) (mvT hZ (hw _ (List.mem_of_getElem? (i := 33) rfl))) (notFace_of_selects (args := #[]) (mvT hZ (hw _ (List.mem_of_getElem? (i := 35) rfl)))) (mvT hZ (hw _ (List.mem_of_getElem? (i := 35) rfl))) (mvT hZ (hw _ (List.mem_of_getElem? (i := 34) rfl))) (by decide) (backOf (W := 0) (rm5 l Z a0 hw [] b134 (((314569 : Int64) - (((p1 &&& (2147483647 : Int32)) - (p1 &&& (2147483647 : Int32)) / (314570 : Int32) * (314570 : Int32)).toInt64)).toInt32) _ _ _ _ T148.heap n0 z149 f150 g135 F148_left F148_fieldsLeft F148_spent F148_entitiesSpent) hZ (hw _ (List.mem_of_getElem? (i := 36) rfl)) (hw _ (List.mem_of_getElem? (i := 2) rfl)) (by decide) (by decide)) q155a q155c (g := (mkF m 46 #[.val (.int p1), .val (.int p2), .val (.int p3), .val (.ref b134), .val (.int (p2 &&& (127 : Int32))), .val (.long (((p1 &&& (2147483647 : Int32)) - (p1 &&& (2147483647 : Int32)) / (314570 : Int32) * (314570 : Int32)).toInt64)), .second, .val (.int (((314569 : Int64) - (((p1 &&& (2147483647 : Int32)) - (p1 &&& (2147483647 : Int32)) / (314570 : Int32) * (314570 : Int32)).toInt64)).toInt32)), .unset, .unset, .unset, .unset, .unset, .unset, .unset, .unset, .unset, .unset, .unset, .unset, .unset, .unset, .unset, .unset, .unset, .unset, .unset, .unset, .unset] [(.int (((314569 : Int64) - (((p1 &&& (2147483647 : Int32)) - (p1 &&& (2147483647 : Int32)) / (314570 : Int32) * (314570 : Int32)).toInt64)).toInt32)), (.ref b134)])) rfl (by rw [hml]; rfl) (Steps.refl _) (argsL := [(.int (((314569 : Int64) - (((p1 &&& (2147483647 : Int32)) - (p1 &&& (2147483647 : Int32)) / (314570 : Int32) * (314570 : Int32)).toInt64)).toInt32))]) (rest := []) (lenOf pd_5 rfl) rfl (by show 2 * 0 + _ ≤ _; exact Nat.le_of_eq rfl) (hb hby at_46) (fun _ _ => ⟨rfl, rfl, (by decide : 1 + 0 ≤ _), (by decide : 4 + 0 ≤ _)⟩)
  dsimp only [Pt.U, Pt.locs, Pt.cells, Pt.slots] at X155 l155 y155 z155 st155 hQ155
  subst l155 y155 z155
  obtain ⟨rfl, N155q, K155, E155, F155_left, F155_fieldsLeft, F155_spent, F155_entitiesSpent⟩ := hQ155
  have N155 := Fr.app N148 N155q
  have z156 : n0 ≤ T155.heap.size := Nat.le_trans z149 K155.1
  have f157 := f150.keep K155
  refine Goes.of (fun t k => st155.trans k) ?_
  show Goes p e below (T155.setTop (mkF m 49 #[.val (.int p1), .val (.int p2), .val (.int p3), .val (.ref b134), .val (.int (p2 &&& (127 : Int32))), .val (.long (((p1 &&& (2147483647 : Int32)) - (p1 &&& (2147483647 : Int32)) / (314570 : Int32) * (314570 : Int32)).toInt64)), .second, .val (.int (((314569 : Int64) - (((p1 &&& (2147483647 : Int32)) - (p1 &&& (2147483647 : Int32)) / (314570 : Int32) * (314570 : Int32)).toInt64)).toInt32)), .unset, .unset, .unset, .unset, .unset, .unset, .unset, .unset, .unset, .unset, .unset, .unset, .unset, .unset, .unset, .unset, .unset, .unset, .unset, .unset, .unset] [])) _
  obtain ⟨LL, hLL⟩ : ∃ z : Int64, z = (((50331572 : Int64) - ((((96 : Int64) + (0 : Int64)) + ((2 : Int64) * ((p2 &&& (127 : Int32)).toInt64))) + ((64 : Int64) * ((0 : Int32).toInt64)))) - ((320 : Int64) + (((((314569 : Int64) - (((p1 &&& (2147483647 : Int32)) - (p1 &&& (2147483647 : Int32)) / (314570 : Int32) * (314570 : Int32)).toInt64)).toInt32).toInt64) * (160 : Int64)))) := ⟨_, rfl⟩
  rw [← hLL] at F155_left
  refine Goes.of (fun t k => X155.ldc2Long hx hown (mvT hZ (hw _ (List.mem_of_getElem? (i := 39) rfl))) (g := (mkF m 49 #[.val (.int p1), .val (.int p2), .val (.int p3), .val (.ref b134), .val (.int (p2 &&& (127 : Int32))), .val (.long (((p1 &&& (2147483647 : Int32)) - (p1 &&& (2147483647 : Int32)) / (314570 : Int32) * (314570 : Int32)).toInt64)), .second, .val (.int (((314569 : Int64) - (((p1 &&& (2147483647 : Int32)) - (p1 &&& (2147483647 : Int32)) / (314570 : Int32) * (314570 : Int32)).toInt64)).toInt32)), .unset, .unset, .unset, .unset, .unset, .unset, .unset, .unset, .unset, .unset, .unset, .unset, .unset, .unset, .unset, .unset, .unset, .unset, .unset, .unset, .unset] [])) rfl (hb hby at_49) _ k) ?_
  show Goes p e below (T155.setTop (mkF m 52 #[.val (.int p1), .val (.int p2), .val (.int p3), .val (.ref b134), .val (.int (p2 &&& (127 : Int32))), .val (.long (((p1 &&& (2147483647 : Int32)) - (p1 &&& (2147483647 : Int32)) / (314570 : Int32) * (314570 : Int32)).toInt64)), .second, .val (.int (((314569 : Int64) - (((p1 &&& (2147483647 : Int32)) - (p1 &&& (2147483647 : Int32)) / (314570 : Int32) * (314570 : Int32)).toInt64)).toInt32)), .unset, .unset, .unset, .unset, .unset, .unset, .unset, .unset, .unset, .unset, .unset, .unset, .unset, .unset, .unset, .unset, .unset, .unset, .unset, .unset, .unset] [(.long (116 : Int64))])) _
  refine Goes.of (fun t k => X155.ldc2Long hx hown (mvT hZ (hw _ (List.mem_of_getElem? (i := 40) rfl))) (g := (mkF m 52 #[.val (.int p1), .val (.int p2), .val (.int p3), .val (.ref b134), .val (.int (p2 &&& (127 : Int32))), .val (.long (((p1 &&& (2147483647 : Int32)) - (p1 &&& (2147483647 : Int32)) / (314570 : Int32) * (314570 : Int32)).toInt64)), .second, .val (.int (((314569 : Int64) - (((p1 &&& (2147483647 : Int32)) - (p1 &&& (2147483647 : Int32)) / (314570 : Int32) * (314570 : Int32)).toInt64)).toInt32)), .unset, .unset, .unset, .unset, .unset, .unset, .unset, .unset, .unset, .unset, .unset, .unset, .unset, .unset, .unset, .unset, .unset, .unset, .unset, .unset, .unset] [(.long (116 : Int64))])) rfl (hb hby at_52) _ k) ?_
  show Goes p e below (T155.setTop (mkF m 55 #[.val (.int p1), .val (.int p2), .val (.int p3), .val (.ref b134), .val (.int (p2 &&& (127 : Int32))), .val (.long (((p1 &&& (2147483647 : Int32)) - (p1 &&& (2147483647 : Int32)) / (314570 : Int32) * (314570 : Int32)).toInt64)), .second, .val (.int (((314569 : Int64) - (((p1 &&& (2147483647 : Int32)) - (p1 &&& (2147483647 : Int32)) / (314570 : Int32) * (314570 : Int32)).toInt64)).toInt32)), .unset, .unset, .unset, .unset, .unset, .unset, .unset, .unset, .unset, .unset, .unset, .unset, .unset, .unset, .unset, .unset, .unset, .unset, .unset, .unset, .unset] [(.long (160 : Int64)), (.long (116 : Int64))])) _
  refine Goes.of (fun t k => XS.lload X155.here hx rfl (hb hby at_55) rfl k) ?_
  show Goes p e below (T155.setTop (mkF m 57 #[.val (.int p1), .val (.int p2), .val (.int p3), .val (.ref b134), .val (.int (p2 &&& (127 : Int32))), .val (.long (((p1 &&& (2147483647 : Int32)) - (p1 &&& (2147483647 : Int32)) / (314570 : Int32) * (314570 : Int32)).toInt64)), .second, .val (.int (((314569 : Int64) - (((p1 &&& (2147483647 : Int32)) - (p1 &&& (2147483647 : Int32)) / (314570 : Int32) * (314570 : Int32)).toInt64)).toInt32)), .unset, .unset, .unset, .unset, .unset, .unset, .unset, .unset, .unset, .unset, .unset, .unset, .unset, .unset, .unset, .unset, .unset, .unset, .unset, .unset, .unset] [(.long (((p1 &&& (2147483647 : Int32)) - (p1 &&& (2147483647 : Int32)) / (314570 : Int32) * (314570 : Int32)).toInt64)), (.long (160 : Int64)), (.long (116 : Int64))])) _
  refine Goes.of (fun t k => XS.lmul X155.here hx rfl (hb hby at_57) rfl k) ?_
  show Goes p e below (T155.setTop (mkF m 58 #[.val (.int p1), .val (.int p2), .val (.int p3), .val (.ref b134), .val (.int (p2 &&& (127 : Int32))), .val (.long (((p1 &&& (2147483647 : Int32)) - (p1 &&& (2147483647 : Int32)) / (314570 : Int32) * (314570 : Int32)).toInt64)), .second, .val (.int (((314569 : Int64) - (((p1 &&& (2147483647 : Int32)) - (p1 &&& (2147483647 : Int32)) / (314570 : Int32) * (314570 : Int32)).toInt64)).toInt32)), .unset, .unset, .unset, .unset, .unset, .unset, .unset, .unset, .unset, .unset, .unset, .unset, .unset, .unset, .unset, .unset, .unset, .unset, .unset, .unset, .unset] [(.long ((160 : Int64) * (((p1 &&& (2147483647 : Int32)) - (p1 &&& (2147483647 : Int32)) / (314570 : Int32) * (314570 : Int32)).toInt64))), (.long (116 : Int64))])) _
  refine Goes.of (fun t k => XS.ladd X155.here hx rfl (hb hby at_58) rfl k) ?_
  show Goes p e below (T155.setTop (mkF m 59 #[.val (.int p1), .val (.int p2), .val (.int p3), .val (.ref b134), .val (.int (p2 &&& (127 : Int32))), .val (.long (((p1 &&& (2147483647 : Int32)) - (p1 &&& (2147483647 : Int32)) / (314570 : Int32) * (314570 : Int32)).toInt64)), .second, .val (.int (((314569 : Int64) - (((p1 &&& (2147483647 : Int32)) - (p1 &&& (2147483647 : Int32)) / (314570 : Int32) * (314570 : Int32)).toInt64)).toInt32)), .unset, .unset, .unset, .unset, .unset, .unset, .unset, .unset, .unset, .unset, .unset, .unset, .unset, .unset, .unset, .unset, .unset, .unset, .unset, .unset, .unset] [(.long ((116 : Int64) + ((160 : Int64) * (((p1 &&& (2147483647 : Int32)) - (p1 &&& (2147483647 : Int32)) / (314570 : Int32) * (314570 : Int32)).toInt64))))])) _
  refine Goes.of (fun t k => X155.ldc2Long hx hown (mvT hZ (hw _ (List.mem_of_getElem? (i := 41) rfl))) (g := (mkF m 59 #[.val (.int p1), .val (.int p2), .val (.int p3), .val (.ref b134), .val (.int (p2 &&& (127 : Int32))), .val (.long (((p1 &&& (2147483647 : Int32)) - (p1 &&& (2147483647 : Int32)) / (314570 : Int32) * (314570 : Int32)).toInt64)), .second, .val (.int (((314569 : Int64) - (((p1 &&& (2147483647 : Int32)) - (p1 &&& (2147483647 : Int32)) / (314570 : Int32) * (314570 : Int32)).toInt64)).toInt32)), .unset, .unset, .unset, .unset, .unset, .unset, .unset, .unset, .unset, .unset, .unset, .unset, .unset, .unset, .unset, .unset, .unset, .unset, .unset, .unset, .unset] [(.long ((116 : Int64) + ((160 : Int64) * (((p1 &&& (2147483647 : Int32)) - (p1 &&& (2147483647 : Int32)) / (314570 : Int32) * (314570 : Int32)).toInt64))))])) rfl (hb hby at_59) _ k) ?_
  show Goes p e below (T155.setTop (mkF m 62 #[.val (.int p1), .val (.int p2), .val (.int p3), .val (.ref b134), .val (.int (p2 &&& (127 : Int32))), .val (.long (((p1 &&& (2147483647 : Int32)) - (p1 &&& (2147483647 : Int32)) / (314570 : Int32) * (314570 : Int32)).toInt64)), .second, .val (.int (((314569 : Int64) - (((p1 &&& (2147483647 : Int32)) - (p1 &&& (2147483647 : Int32)) / (314570 : Int32) * (314570 : Int32)).toInt64)).toInt32)), .unset, .unset, .unset, .unset, .unset, .unset, .unset, .unset, .unset, .unset, .unset, .unset, .unset, .unset, .unset, .unset, .unset, .unset, .unset, .unset, .unset] [(.long (2 : Int64)), (.long ((116 : Int64) + ((160 : Int64) * (((p1 &&& (2147483647 : Int32)) - (p1 &&& (2147483647 : Int32)) / (314570 : Int32) * (314570 : Int32)).toInt64))))])) _
  refine Goes.of (fun t k => XS.iload X155.here hx rfl (hb hby at_62) rfl k) ?_
  show Goes p e below (T155.setTop (mkF m 64 #[.val (.int p1), .val (.int p2), .val (.int p3), .val (.ref b134), .val (.int (p2 &&& (127 : Int32))), .val (.long (((p1 &&& (2147483647 : Int32)) - (p1 &&& (2147483647 : Int32)) / (314570 : Int32) * (314570 : Int32)).toInt64)), .second, .val (.int (((314569 : Int64) - (((p1 &&& (2147483647 : Int32)) - (p1 &&& (2147483647 : Int32)) / (314570 : Int32) * (314570 : Int32)).toInt64)).toInt32)), .unset, .unset, .unset, .unset, .unset, .unset, .unset, .unset, .unset, .unset, .unset, .unset, .unset, .unset, .unset, .unset, .unset, .unset, .unset, .unset, .unset] [(.int (p2 &&& (127 : Int32))), (.long (2 : Int64)), (.long ((116 : Int64) + ((160 : Int64) * (((p1 &&& (2147483647 : Int32)) - (p1 &&& (2147483647 : Int32)) / (314570 : Int32) * (314570 : Int32)).toInt64))))])) _
  refine Goes.of (fun t k => XS.i2l X155.here hx rfl (hb hby at_64) rfl k) ?_
  show Goes p e below (T155.setTop (mkF m 65 #[.val (.int p1), .val (.int p2), .val (.int p3), .val (.ref b134), .val (.int (p2 &&& (127 : Int32))), .val (.long (((p1 &&& (2147483647 : Int32)) - (p1 &&& (2147483647 : Int32)) / (314570 : Int32) * (314570 : Int32)).toInt64)), .second, .val (.int (((314569 : Int64) - (((p1 &&& (2147483647 : Int32)) - (p1 &&& (2147483647 : Int32)) / (314570 : Int32) * (314570 : Int32)).toInt64)).toInt32)), .unset, .unset, .unset, .unset, .unset, .unset, .unset, .unset, .unset, .unset, .unset, .unset, .unset, .unset, .unset, .unset, .unset, .unset, .unset, .unset, .unset] [(.long ((p2 &&& (127 : Int32)).toInt64)), (.long (2 : Int64)), (.long ((116 : Int64) + ((160 : Int64) * (((p1 &&& (2147483647 : Int32)) - (p1 &&& (2147483647 : Int32)) / (314570 : Int32) * (314570 : Int32)).toInt64))))])) _
  refine Goes.of (fun t k => XS.lmul X155.here hx rfl (hb hby at_65) rfl k) ?_
  show Goes p e below (T155.setTop (mkF m 66 #[.val (.int p1), .val (.int p2), .val (.int p3), .val (.ref b134), .val (.int (p2 &&& (127 : Int32))), .val (.long (((p1 &&& (2147483647 : Int32)) - (p1 &&& (2147483647 : Int32)) / (314570 : Int32) * (314570 : Int32)).toInt64)), .second, .val (.int (((314569 : Int64) - (((p1 &&& (2147483647 : Int32)) - (p1 &&& (2147483647 : Int32)) / (314570 : Int32) * (314570 : Int32)).toInt64)).toInt32)), .unset, .unset, .unset, .unset, .unset, .unset, .unset, .unset, .unset, .unset, .unset, .unset, .unset, .unset, .unset, .unset, .unset, .unset, .unset, .unset, .unset] [(.long ((2 : Int64) * ((p2 &&& (127 : Int32)).toInt64))), (.long ((116 : Int64) + ((160 : Int64) * (((p1 &&& (2147483647 : Int32)) - (p1 &&& (2147483647 : Int32)) / (314570 : Int32) * (314570 : Int32)).toInt64))))])) _
  refine Goes.of (fun t k => XS.lsub X155.here hx rfl (hb hby at_66) rfl k) ?_
  show Goes p e below (T155.setTop (mkF m 67 #[.val (.int p1), .val (.int p2), .val (.int p3), .val (.ref b134), .val (.int (p2 &&& (127 : Int32))), .val (.long (((p1 &&& (2147483647 : Int32)) - (p1 &&& (2147483647 : Int32)) / (314570 : Int32) * (314570 : Int32)).toInt64)), .second, .val (.int (((314569 : Int64) - (((p1 &&& (2147483647 : Int32)) - (p1 &&& (2147483647 : Int32)) / (314570 : Int32) * (314570 : Int32)).toInt64)).toInt32)), .unset, .unset, .unset, .unset, .unset, .unset, .unset, .unset, .unset, .unset, .unset, .unset, .unset, .unset, .unset, .unset, .unset, .unset, .unset, .unset, .unset] [(.long (((116 : Int64) + ((160 : Int64) * (((p1 &&& (2147483647 : Int32)) - (p1 &&& (2147483647 : Int32)) / (314570 : Int32) * (314570 : Int32)).toInt64))) - ((2 : Int64) * ((p2 &&& (127 : Int32)).toInt64))))])) _
  refine Goes.of (fun t k => XS.lstore X155.here hx rfl (hb hby at_67) rfl (l' := #[.val (.int p1), .val (.int p2), .val (.int p3), .val (.ref b134), .val (.int (p2 &&& (127 : Int32))), .val (.long (((p1 &&& (2147483647 : Int32)) - (p1 &&& (2147483647 : Int32)) / (314570 : Int32) * (314570 : Int32)).toInt64)), .second, .val (.int (((314569 : Int64) - (((p1 &&& (2147483647 : Int32)) - (p1 &&& (2147483647 : Int32)) / (314570 : Int32) * (314570 : Int32)).toInt64)).toInt32)), .val (.long (((116 : Int64) + ((160 : Int64) * (((p1 &&& (2147483647 : Int32)) - (p1 &&& (2147483647 : Int32)) / (314570 : Int32) * (314570 : Int32)).toInt64))) - ((2 : Int64) * ((p2 &&& (127 : Int32)).toInt64)))), .second, .unset, .unset, .unset, .unset, .unset, .unset, .unset, .unset, .unset, .unset, .unset, .unset, .unset, .unset, .unset, .unset, .unset, .unset, .unset]) rfl k) ?_
  show Goes p e below (T155.setTop (mkF m 69 #[.val (.int p1), .val (.int p2), .val (.int p3), .val (.ref b134), .val (.int (p2 &&& (127 : Int32))), .val (.long (((p1 &&& (2147483647 : Int32)) - (p1 &&& (2147483647 : Int32)) / (314570 : Int32) * (314570 : Int32)).toInt64)), .second, .val (.int (((314569 : Int64) - (((p1 &&& (2147483647 : Int32)) - (p1 &&& (2147483647 : Int32)) / (314570 : Int32) * (314570 : Int32)).toInt64)).toInt32)), .val (.long (((116 : Int64) + ((160 : Int64) * (((p1 &&& (2147483647 : Int32)) - (p1 &&& (2147483647 : Int32)) / (314570 : Int32) * (314570 : Int32)).toInt64))) - ((2 : Int64) * ((p2 &&& (127 : Int32)).toInt64)))), .second, .unset, .unset, .unset, .unset, .unset, .unset, .unset, .unset, .unset, .unset, .unset, .unset, .unset, .unset, .unset, .unset, .unset, .unset, .unset] [])) _
  refine Goes.of (fun t k => XS.iloadN X155.here hx rfl (hb hby at_69) rfl k) ?_
  show Goes p e below (T155.setTop (mkF m 70 #[.val (.int p1), .val (.int p2), .val (.int p3), .val (.ref b134), .val (.int (p2 &&& (127 : Int32))), .val (.long (((p1 &&& (2147483647 : Int32)) - (p1 &&& (2147483647 : Int32)) / (314570 : Int32) * (314570 : Int32)).toInt64)), .second, .val (.int (((314569 : Int64) - (((p1 &&& (2147483647 : Int32)) - (p1 &&& (2147483647 : Int32)) / (314570 : Int32) * (314570 : Int32)).toInt64)).toInt32)), .val (.long (((116 : Int64) + ((160 : Int64) * (((p1 &&& (2147483647 : Int32)) - (p1 &&& (2147483647 : Int32)) / (314570 : Int32) * (314570 : Int32)).toInt64))) - ((2 : Int64) * ((p2 &&& (127 : Int32)).toInt64)))), .second, .unset, .unset, .unset, .unset, .unset, .unset, .unset, .unset, .unset, .unset, .unset, .unset, .unset, .unset, .unset, .unset, .unset, .unset, .unset] [(.int p3)])) _
  refine Goes.of (fun t k => XS.iconst X155.here hx rfl (hb hby at_70) k) ?_
  show Goes p e below (T155.setTop (mkF m 71 #[.val (.int p1), .val (.int p2), .val (.int p3), .val (.ref b134), .val (.int (p2 &&& (127 : Int32))), .val (.long (((p1 &&& (2147483647 : Int32)) - (p1 &&& (2147483647 : Int32)) / (314570 : Int32) * (314570 : Int32)).toInt64)), .second, .val (.int (((314569 : Int64) - (((p1 &&& (2147483647 : Int32)) - (p1 &&& (2147483647 : Int32)) / (314570 : Int32) * (314570 : Int32)).toInt64)).toInt32)), .val (.long (((116 : Int64) + ((160 : Int64) * (((p1 &&& (2147483647 : Int32)) - (p1 &&& (2147483647 : Int32)) / (314570 : Int32) * (314570 : Int32)).toInt64))) - ((2 : Int64) * ((p2 &&& (127 : Int32)).toInt64)))), .second, .unset, .unset, .unset, .unset, .unset, .unset, .unset, .unset, .unset, .unset, .unset, .unset, .unset, .unset, .unset, .unset, .unset, .unset, .unset] [(.int (1 : Int32)), (.int p3)])) _
  refine Goes.of (fun t k => XS.iand X155.here hx rfl (hb hby at_71) rfl k) ?_
  show Goes p e below (T155.setTop (mkF m 72 #[.val (.int p1), .val (.int p2), .val (.int p3), .val (.ref b134), .val (.int (p2 &&& (127 : Int32))), .val (.long (((p1 &&& (2147483647 : Int32)) - (p1 &&& (2147483647 : Int32)) / (314570 : Int32) * (314570 : Int32)).toInt64)), .second, .val (.int (((314569 : Int64) - (((p1 &&& (2147483647 : Int32)) - (p1 &&& (2147483647 : Int32)) / (314570 : Int32) * (314570 : Int32)).toInt64)).toInt32)), .val (.long (((116 : Int64) + ((160 : Int64) * (((p1 &&& (2147483647 : Int32)) - (p1 &&& (2147483647 : Int32)) / (314570 : Int32) * (314570 : Int32)).toInt64))) - ((2 : Int64) * ((p2 &&& (127 : Int32)).toInt64)))), .second, .unset, .unset, .unset, .unset, .unset, .unset, .unset, .unset, .unset, .unset, .unset, .unset, .unset, .unset, .unset, .unset, .unset, .unset, .unset] [(.int (p3 &&& (1 : Int32)))])) _
  have hleft : LL = (((116 : Int64) + ((160 : Int64) * (((p1 &&& (2147483647 : Int32)) - (p1 &&& (2147483647 : Int32)) / (314570 : Int32) * (314570 : Int32)).toInt64))) - ((2 : Int64) * ((p2 &&& (127 : Int32)).toInt64))) := by
    rw [hLL, ← hkL, own_back kL bk.1 bk.2, ← hlL]; exact own_ring kL lL
  rw [← hleft]
  show Goes p e below (T155.setTop (mkF m 72 #[.val (.int p1), .val (.int p2), .val (.int p3), .val (.ref b134), .val (.int (p2 &&& (127 : Int32))), .val (.long (((p1 &&& (2147483647 : Int32)) - (p1 &&& (2147483647 : Int32)) / (314570 : Int32) * (314570 : Int32)).toInt64)), .second, .val (.int (((314569 : Int64) - (((p1 &&& (2147483647 : Int32)) - (p1 &&& (2147483647 : Int32)) / (314570 : Int32) * (314570 : Int32)).toInt64)).toInt32)), .val (.long LL), .second, .unset, .unset, .unset, .unset, .unset, .unset, .unset, .unset, .unset, .unset, .unset, .unset, .unset, .unset, .unset, .unset, .unset, .unset, .unset] [(.int (p3 &&& (1 : Int32)))])) _
  obtain ⟨v162, hv162⟩ : ∃ z : Int32, z = (if (p3 &&& (1 : Int32)) = (0 : Int32) then (0 : Int32) else (1 : Int32)) := ⟨_, rfl⟩
  refine Goes.of (S' := T155.setTop (mkF m 80 #[.val (.int p1), .val (.int p2), .val (.int p3), .val (.ref b134), .val (.int (p2 &&& (127 : Int32))), .val (.long (((p1 &&& (2147483647 : Int32)) - (p1 &&& (2147483647 : Int32)) / (314570 : Int32) * (314570 : Int32)).toInt64)), .second, .val (.int (((314569 : Int64) - (((p1 &&& (2147483647 : Int32)) - (p1 &&& (2147483647 : Int32)) / (314570 : Int32) * (314570 : Int32)).toInt64)).toInt32)), .val (.long LL), .second, .unset, .unset, .unset, .unset, .unset, .unset, .unset, .unset, .unset, .unset, .unset, .unset, .unset, .unset, .unset, .unset, .unset, .unset, .unset] [(.int v162)])) (fun t k => ?_) ?_
  · by_cases hb163 : (p3 &&& (1 : Int32)) = (0 : Int32)
    · refine XS.ifYes X155.here hx rfl (pc0 := 72) (pc' := 79) rfl (hb hby at_72) rfl ((if0 _ _).trans (teq hb163).1) (by decide) (by decide) ?_
      show Steps p.tables e below (T155.setTop (mkF m 79 #[.val (.int p1), .val (.int p2), .val (.int p3), .val (.ref b134), .val (.int (p2 &&& (127 : Int32))), .val (.long (((p1 &&& (2147483647 : Int32)) - (p1 &&& (2147483647 : Int32)) / (314570 : Int32) * (314570 : Int32)).toInt64)), .second, .val (.int (((314569 : Int64) - (((p1 &&& (2147483647 : Int32)) - (p1 &&& (2147483647 : Int32)) / (314570 : Int32) * (314570 : Int32)).toInt64)).toInt32)), .val (.long LL), .second, .unset, .unset, .unset, .unset, .unset, .unset, .unset, .unset, .unset, .unset, .unset, .unset, .unset, .unset, .unset, .unset, .unset, .unset, .unset] [])) _
      refine XS.iconst X155.here hx rfl (hb hby at_79) ?_
      show Steps p.tables e below (T155.setTop (mkF m 80 #[.val (.int p1), .val (.int p2), .val (.int p3), .val (.ref b134), .val (.int (p2 &&& (127 : Int32))), .val (.long (((p1 &&& (2147483647 : Int32)) - (p1 &&& (2147483647 : Int32)) / (314570 : Int32) * (314570 : Int32)).toInt64)), .second, .val (.int (((314569 : Int64) - (((p1 &&& (2147483647 : Int32)) - (p1 &&& (2147483647 : Int32)) / (314570 : Int32) * (314570 : Int32)).toInt64)).toInt32)), .val (.long LL), .second, .unset, .unset, .unset, .unset, .unset, .unset, .unset, .unset, .unset, .unset, .unset, .unset, .unset, .unset, .unset, .unset, .unset, .unset, .unset] [(.int (0 : Int32))])) _
      simp only [if_pos hb163] at hv162; subst hv162
      exact k
    · refine XS.ifNo X155.here hx rfl (hb hby at_72) rfl ((if0 _ _).trans (feq hb163).1) ?_
      show Steps p.tables e below (T155.setTop (mkF m 75 #[.val (.int p1), .val (.int p2), .val (.int p3), .val (.ref b134), .val (.int (p2 &&& (127 : Int32))), .val (.long (((p1 &&& (2147483647 : Int32)) - (p1 &&& (2147483647 : Int32)) / (314570 : Int32) * (314570 : Int32)).toInt64)), .second, .val (.int (((314569 : Int64) - (((p1 &&& (2147483647 : Int32)) - (p1 &&& (2147483647 : Int32)) / (314570 : Int32) * (314570 : Int32)).toInt64)).toInt32)), .val (.long LL), .second, .unset, .unset, .unset, .unset, .unset, .unset, .unset, .unset, .unset, .unset, .unset, .unset, .unset, .unset, .unset, .unset, .unset, .unset, .unset] [])) _
      refine XS.iconst X155.here hx rfl (hb hby at_75) ?_
      show Steps p.tables e below (T155.setTop (mkF m 76 #[.val (.int p1), .val (.int p2), .val (.int p3), .val (.ref b134), .val (.int (p2 &&& (127 : Int32))), .val (.long (((p1 &&& (2147483647 : Int32)) - (p1 &&& (2147483647 : Int32)) / (314570 : Int32) * (314570 : Int32)).toInt64)), .second, .val (.int (((314569 : Int64) - (((p1 &&& (2147483647 : Int32)) - (p1 &&& (2147483647 : Int32)) / (314570 : Int32) * (314570 : Int32)).toInt64)).toInt32)), .val (.long LL), .second, .unset, .unset, .unset, .unset, .unset, .unset, .unset, .unset, .unset, .unset, .unset, .unset, .unset, .unset, .unset, .unset, .unset, .unset, .unset] [(.int (1 : Int32))])) _
      refine XS.goto X155.here hx rfl (pc0 := 76) (pc' := 80) rfl (hb hby at_76) (by decide) (by decide) ?_
      show Steps p.tables e below (T155.setTop (mkF m 80 #[.val (.int p1), .val (.int p2), .val (.int p3), .val (.ref b134), .val (.int (p2 &&& (127 : Int32))), .val (.long (((p1 &&& (2147483647 : Int32)) - (p1 &&& (2147483647 : Int32)) / (314570 : Int32) * (314570 : Int32)).toInt64)), .second, .val (.int (((314569 : Int64) - (((p1 &&& (2147483647 : Int32)) - (p1 &&& (2147483647 : Int32)) / (314570 : Int32) * (314570 : Int32)).toInt64)).toInt32)), .val (.long LL), .second, .unset, .unset, .unset, .unset, .unset, .unset, .unset, .unset, .unset, .unset, .unset, .unset, .unset, .unset, .unset, .unset, .unset, .unset, .unset] [(.int (1 : Int32))])) _
      simp only [if_neg hb163] at hv162; subst hv162
      exact k
  show Goes p e below (T155.setTop (mkF m 80 #[.val (.int p1), .val (.int p2), .val (.int p3), .val (.ref b134), .val (.int (p2 &&& (127 : Int32))), .val (.long (((p1 &&& (2147483647 : Int32)) - (p1 &&& (2147483647 : Int32)) / (314570 : Int32) * (314570 : Int32)).toInt64)), .second, .val (.int (((314569 : Int64) - (((p1 &&& (2147483647 : Int32)) - (p1 &&& (2147483647 : Int32)) / (314570 : Int32) * (314570 : Int32)).toInt64)).toInt32)), .val (.long LL), .second, .unset, .unset, .unset, .unset, .unset, .unset, .unset, .unset, .unset, .unset, .unset, .unset, .unset, .unset, .unset, .unset, .unset, .unset, .unset] [(.int v162)])) _
  refine Goes.of (fun t k => XS.istore X155.here hx rfl (hb hby at_80) rfl (l' := #[.val (.int p1), .val (.int p2), .val (.int p3), .val (.ref b134), .val (.int (p2 &&& (127 : Int32))), .val (.long (((p1 &&& (2147483647 : Int32)) - (p1 &&& (2147483647 : Int32)) / (314570 : Int32) * (314570 : Int32)).toInt64)), .second, .val (.int (((314569 : Int64) - (((p1 &&& (2147483647 : Int32)) - (p1 &&& (2147483647 : Int32)) / (314570 : Int32) * (314570 : Int32)).toInt64)).toInt32)), .val (.long LL), .second, .val (.int v162), .unset, .unset, .unset, .unset, .unset, .unset, .unset, .unset, .unset, .unset, .unset, .unset, .unset, .unset, .unset, .unset, .unset, .unset]) rfl k) ?_
  show Goes p e below (T155.setTop (mkF m 82 #[.val (.int p1), .val (.int p2), .val (.int p3), .val (.ref b134), .val (.int (p2 &&& (127 : Int32))), .val (.long (((p1 &&& (2147483647 : Int32)) - (p1 &&& (2147483647 : Int32)) / (314570 : Int32) * (314570 : Int32)).toInt64)), .second, .val (.int (((314569 : Int64) - (((p1 &&& (2147483647 : Int32)) - (p1 &&& (2147483647 : Int32)) / (314570 : Int32) * (314570 : Int32)).toInt64)).toInt32)), .val (.long LL), .second, .val (.int v162), .unset, .unset, .unset, .unset, .unset, .unset, .unset, .unset, .unset, .unset, .unset, .unset, .unset, .unset, .unset, .unset, .unset, .unset] [])) _
  refine Goes.of (fun t k => XS.iloadN X155.here hx rfl (hb hby at_82) rfl k) ?_
  show Goes p e below (T155.setTop (mkF m 83 #[.val (.int p1), .val (.int p2), .val (.int p3), .val (.ref b134), .val (.int (p2 &&& (127 : Int32))), .val (.long (((p1 &&& (2147483647 : Int32)) - (p1 &&& (2147483647 : Int32)) / (314570 : Int32) * (314570 : Int32)).toInt64)), .second, .val (.int (((314569 : Int64) - (((p1 &&& (2147483647 : Int32)) - (p1 &&& (2147483647 : Int32)) / (314570 : Int32) * (314570 : Int32)).toInt64)).toInt32)), .val (.long LL), .second, .val (.int v162), .unset, .unset, .unset, .unset, .unset, .unset, .unset, .unset, .unset, .unset, .unset, .unset, .unset, .unset, .unset, .unset, .unset, .unset] [(.int p3)])) _
  refine Goes.of (fun t k => XS.iconst X155.here hx rfl (hb hby at_83) k) ?_
  show Goes p e below (T155.setTop (mkF m 84 #[.val (.int p1), .val (.int p2), .val (.int p3), .val (.ref b134), .val (.int (p2 &&& (127 : Int32))), .val (.long (((p1 &&& (2147483647 : Int32)) - (p1 &&& (2147483647 : Int32)) / (314570 : Int32) * (314570 : Int32)).toInt64)), .second, .val (.int (((314569 : Int64) - (((p1 &&& (2147483647 : Int32)) - (p1 &&& (2147483647 : Int32)) / (314570 : Int32) * (314570 : Int32)).toInt64)).toInt32)), .val (.long LL), .second, .val (.int v162), .unset, .unset, .unset, .unset, .unset, .unset, .unset, .unset, .unset, .unset, .unset, .unset, .unset, .unset, .unset, .unset, .unset, .unset] [(.int (2 : Int32)), (.int p3)])) _
  refine Goes.of (fun t k => XS.iand X155.here hx rfl (hb hby at_84) rfl k) ?_
  show Goes p e below (T155.setTop (mkF m 85 #[.val (.int p1), .val (.int p2), .val (.int p3), .val (.ref b134), .val (.int (p2 &&& (127 : Int32))), .val (.long (((p1 &&& (2147483647 : Int32)) - (p1 &&& (2147483647 : Int32)) / (314570 : Int32) * (314570 : Int32)).toInt64)), .second, .val (.int (((314569 : Int64) - (((p1 &&& (2147483647 : Int32)) - (p1 &&& (2147483647 : Int32)) / (314570 : Int32) * (314570 : Int32)).toInt64)).toInt32)), .val (.long LL), .second, .val (.int v162), .unset, .unset, .unset, .unset, .unset, .unset, .unset, .unset, .unset, .unset, .unset, .unset, .unset, .unset, .unset, .unset, .unset, .unset] [(.int (p3 &&& (2 : Int32)))])) _
  obtain ⟨v164, hv164⟩ : ∃ z : Int32, z = (if (p3 &&& (2 : Int32)) = (0 : Int32) then (0 : Int32) else (1 : Int32)) := ⟨_, rfl⟩
  refine Goes.of (S' := T155.setTop (mkF m 93 #[.val (.int p1), .val (.int p2), .val (.int p3), .val (.ref b134), .val (.int (p2 &&& (127 : Int32))), .val (.long (((p1 &&& (2147483647 : Int32)) - (p1 &&& (2147483647 : Int32)) / (314570 : Int32) * (314570 : Int32)).toInt64)), .second, .val (.int (((314569 : Int64) - (((p1 &&& (2147483647 : Int32)) - (p1 &&& (2147483647 : Int32)) / (314570 : Int32) * (314570 : Int32)).toInt64)).toInt32)), .val (.long LL), .second, .val (.int v162), .unset, .unset, .unset, .unset, .unset, .unset, .unset, .unset, .unset, .unset, .unset, .unset, .unset, .unset, .unset, .unset, .unset, .unset] [(.int v164)])) (fun t k => ?_) ?_
  · by_cases hb165 : (p3 &&& (2 : Int32)) = (0 : Int32)
    · refine XS.ifYes X155.here hx rfl (pc0 := 85) (pc' := 92) rfl (hb hby at_85) rfl ((if0 _ _).trans (teq hb165).1) (by decide) (by decide) ?_
      show Steps p.tables e below (T155.setTop (mkF m 92 #[.val (.int p1), .val (.int p2), .val (.int p3), .val (.ref b134), .val (.int (p2 &&& (127 : Int32))), .val (.long (((p1 &&& (2147483647 : Int32)) - (p1 &&& (2147483647 : Int32)) / (314570 : Int32) * (314570 : Int32)).toInt64)), .second, .val (.int (((314569 : Int64) - (((p1 &&& (2147483647 : Int32)) - (p1 &&& (2147483647 : Int32)) / (314570 : Int32) * (314570 : Int32)).toInt64)).toInt32)), .val (.long LL), .second, .val (.int v162), .unset, .unset, .unset, .unset, .unset, .unset, .unset, .unset, .unset, .unset, .unset, .unset, .unset, .unset, .unset, .unset, .unset, .unset] [])) _
      refine XS.iconst X155.here hx rfl (hb hby at_92) ?_
      show Steps p.tables e below (T155.setTop (mkF m 93 #[.val (.int p1), .val (.int p2), .val (.int p3), .val (.ref b134), .val (.int (p2 &&& (127 : Int32))), .val (.long (((p1 &&& (2147483647 : Int32)) - (p1 &&& (2147483647 : Int32)) / (314570 : Int32) * (314570 : Int32)).toInt64)), .second, .val (.int (((314569 : Int64) - (((p1 &&& (2147483647 : Int32)) - (p1 &&& (2147483647 : Int32)) / (314570 : Int32) * (314570 : Int32)).toInt64)).toInt32)), .val (.long LL), .second, .val (.int v162), .unset, .unset, .unset, .unset, .unset, .unset, .unset, .unset, .unset, .unset, .unset, .unset, .unset, .unset, .unset, .unset, .unset, .unset] [(.int (0 : Int32))])) _
      simp only [if_pos hb165] at hv164; subst hv164
      exact k
    · refine XS.ifNo X155.here hx rfl (hb hby at_85) rfl ((if0 _ _).trans (feq hb165).1) ?_
      show Steps p.tables e below (T155.setTop (mkF m 88 #[.val (.int p1), .val (.int p2), .val (.int p3), .val (.ref b134), .val (.int (p2 &&& (127 : Int32))), .val (.long (((p1 &&& (2147483647 : Int32)) - (p1 &&& (2147483647 : Int32)) / (314570 : Int32) * (314570 : Int32)).toInt64)), .second, .val (.int (((314569 : Int64) - (((p1 &&& (2147483647 : Int32)) - (p1 &&& (2147483647 : Int32)) / (314570 : Int32) * (314570 : Int32)).toInt64)).toInt32)), .val (.long LL), .second, .val (.int v162), .unset, .unset, .unset, .unset, .unset, .unset, .unset, .unset, .unset, .unset, .unset, .unset, .unset, .unset, .unset, .unset, .unset, .unset] [])) _
      refine XS.iconst X155.here hx rfl (hb hby at_88) ?_
      show Steps p.tables e below (T155.setTop (mkF m 89 #[.val (.int p1), .val (.int p2), .val (.int p3), .val (.ref b134), .val (.int (p2 &&& (127 : Int32))), .val (.long (((p1 &&& (2147483647 : Int32)) - (p1 &&& (2147483647 : Int32)) / (314570 : Int32) * (314570 : Int32)).toInt64)), .second, .val (.int (((314569 : Int64) - (((p1 &&& (2147483647 : Int32)) - (p1 &&& (2147483647 : Int32)) / (314570 : Int32) * (314570 : Int32)).toInt64)).toInt32)), .val (.long LL), .second, .val (.int v162), .unset, .unset, .unset, .unset, .unset, .unset, .unset, .unset, .unset, .unset, .unset, .unset, .unset, .unset, .unset, .unset, .unset, .unset] [(.int (1 : Int32))])) _
      refine XS.goto X155.here hx rfl (pc0 := 89) (pc' := 93) rfl (hb hby at_89) (by decide) (by decide) ?_
      show Steps p.tables e below (T155.setTop (mkF m 93 #[.val (.int p1), .val (.int p2), .val (.int p3), .val (.ref b134), .val (.int (p2 &&& (127 : Int32))), .val (.long (((p1 &&& (2147483647 : Int32)) - (p1 &&& (2147483647 : Int32)) / (314570 : Int32) * (314570 : Int32)).toInt64)), .second, .val (.int (((314569 : Int64) - (((p1 &&& (2147483647 : Int32)) - (p1 &&& (2147483647 : Int32)) / (314570 : Int32) * (314570 : Int32)).toInt64)).toInt32)), .val (.long LL), .second, .val (.int v162), .unset, .unset, .unset, .unset, .unset, .unset, .unset, .unset, .unset, .unset, .unset, .unset, .unset, .unset, .unset, .unset, .unset, .unset] [(.int (1 : Int32))])) _
      simp only [if_neg hb165] at hv164; subst hv164
      exact k
  show Goes p e below (T155.setTop (mkF m 93 #[.val (.int p1), .val (.int p2), .val (.int p3), .val (.ref b134), .val (.int (p2 &&& (127 : Int32))), .val (.long (((p1 &&& (2147483647 : Int32)) - (p1 &&& (2147483647 : Int32)) / (314570 : Int32) * (314570 : Int32)).toInt64)), .second, .val (.int (((314569 : Int64) - (((p1 &&& (2147483647 : Int32)) - (p1 &&& (2147483647 : Int32)) / (314570 : Int32) * (314570 : Int32)).toInt64)).toInt32)), .val (.long LL), .second, .val (.int v162), .unset, .unset, .unset, .unset, .unset, .unset, .unset, .unset, .unset, .unset, .unset, .unset, .unset, .unset, .unset, .unset, .unset, .unset] [(.int v164)])) _
  refine Goes.of (fun t k => XS.istore X155.here hx rfl (hb hby at_93) rfl (l' := #[.val (.int p1), .val (.int p2), .val (.int p3), .val (.ref b134), .val (.int (p2 &&& (127 : Int32))), .val (.long (((p1 &&& (2147483647 : Int32)) - (p1 &&& (2147483647 : Int32)) / (314570 : Int32) * (314570 : Int32)).toInt64)), .second, .val (.int (((314569 : Int64) - (((p1 &&& (2147483647 : Int32)) - (p1 &&& (2147483647 : Int32)) / (314570 : Int32) * (314570 : Int32)).toInt64)).toInt32)), .val (.long LL), .second, .val (.int v162), .val (.int v164), .unset, .unset, .unset, .unset, .unset, .unset, .unset, .unset, .unset, .unset, .unset, .unset, .unset, .unset, .unset, .unset, .unset]) rfl k) ?_
  show Goes p e below (T155.setTop (mkF m 95 #[.val (.int p1), .val (.int p2), .val (.int p3), .val (.ref b134), .val (.int (p2 &&& (127 : Int32))), .val (.long (((p1 &&& (2147483647 : Int32)) - (p1 &&& (2147483647 : Int32)) / (314570 : Int32) * (314570 : Int32)).toInt64)), .second, .val (.int (((314569 : Int64) - (((p1 &&& (2147483647 : Int32)) - (p1 &&& (2147483647 : Int32)) / (314570 : Int32) * (314570 : Int32)).toInt64)).toInt32)), .val (.long LL), .second, .val (.int v162), .val (.int v164), .unset, .unset, .unset, .unset, .unset, .unset, .unset, .unset, .unset, .unset, .unset, .unset, .unset, .unset, .unset, .unset, .unset] [])) _
  refine Goes.of (fun t k => XS.iloadN X155.here hx rfl (hb hby at_95) rfl k) ?_
  show Goes p e below (T155.setTop (mkF m 96 #[.val (.int p1), .val (.int p2), .val (.int p3), .val (.ref b134), .val (.int (p2 &&& (127 : Int32))), .val (.long (((p1 &&& (2147483647 : Int32)) - (p1 &&& (2147483647 : Int32)) / (314570 : Int32) * (314570 : Int32)).toInt64)), .second, .val (.int (((314569 : Int64) - (((p1 &&& (2147483647 : Int32)) - (p1 &&& (2147483647 : Int32)) / (314570 : Int32) * (314570 : Int32)).toInt64)).toInt32)), .val (.long LL), .second, .val (.int v162), .val (.int v164), .unset, .unset, .unset, .unset, .unset, .unset, .unset, .unset, .unset, .unset, .unset, .unset, .unset, .unset, .unset, .unset, .unset] [(.int p3)])) _
  refine Goes.of (fun t k => XS.iconst X155.here hx rfl (hb hby at_96) k) ?_
  show Goes p e below (T155.setTop (mkF m 97 #[.val (.int p1), .val (.int p2), .val (.int p3), .val (.ref b134), .val (.int (p2 &&& (127 : Int32))), .val (.long (((p1 &&& (2147483647 : Int32)) - (p1 &&& (2147483647 : Int32)) / (314570 : Int32) * (314570 : Int32)).toInt64)), .second, .val (.int (((314569 : Int64) - (((p1 &&& (2147483647 : Int32)) - (p1 &&& (2147483647 : Int32)) / (314570 : Int32) * (314570 : Int32)).toInt64)).toInt32)), .val (.long LL), .second, .val (.int v162), .val (.int v164), .unset, .unset, .unset, .unset, .unset, .unset, .unset, .unset, .unset, .unset, .unset, .unset, .unset, .unset, .unset, .unset, .unset] [(.int (4 : Int32)), (.int p3)])) _
  refine Goes.of (fun t k => XS.iand X155.here hx rfl (hb hby at_97) rfl k) ?_
  show Goes p e below (T155.setTop (mkF m 98 #[.val (.int p1), .val (.int p2), .val (.int p3), .val (.ref b134), .val (.int (p2 &&& (127 : Int32))), .val (.long (((p1 &&& (2147483647 : Int32)) - (p1 &&& (2147483647 : Int32)) / (314570 : Int32) * (314570 : Int32)).toInt64)), .second, .val (.int (((314569 : Int64) - (((p1 &&& (2147483647 : Int32)) - (p1 &&& (2147483647 : Int32)) / (314570 : Int32) * (314570 : Int32)).toInt64)).toInt32)), .val (.long LL), .second, .val (.int v162), .val (.int v164), .unset, .unset, .unset, .unset, .unset, .unset, .unset, .unset, .unset, .unset, .unset, .unset, .unset, .unset, .unset, .unset, .unset] [(.int (p3 &&& (4 : Int32)))])) _
  obtain ⟨v166, hv166⟩ : ∃ z : Int32, z = (if (p3 &&& (4 : Int32)) = (0 : Int32) then (0 : Int32) else (1 : Int32)) := ⟨_, rfl⟩
  refine Goes.of (S' := T155.setTop (mkF m 106 #[.val (.int p1), .val (.int p2), .val (.int p3), .val (.ref b134), .val (.int (p2 &&& (127 : Int32))), .val (.long (((p1 &&& (2147483647 : Int32)) - (p1 &&& (2147483647 : Int32)) / (314570 : Int32) * (314570 : Int32)).toInt64)), .second, .val (.int (((314569 : Int64) - (((p1 &&& (2147483647 : Int32)) - (p1 &&& (2147483647 : Int32)) / (314570 : Int32) * (314570 : Int32)).toInt64)).toInt32)), .val (.long LL), .second, .val (.int v162), .val (.int v164), .unset, .unset, .unset, .unset, .unset, .unset, .unset, .unset, .unset, .unset, .unset, .unset, .unset, .unset, .unset, .unset, .unset] [(.int v166)])) (fun t k => ?_) ?_
  · by_cases hb167 : (p3 &&& (4 : Int32)) = (0 : Int32)
    · refine XS.ifYes X155.here hx rfl (pc0 := 98) (pc' := 105) rfl (hb hby at_98) rfl ((if0 _ _).trans (teq hb167).1) (by decide) (by decide) ?_
      show Steps p.tables e below (T155.setTop (mkF m 105 #[.val (.int p1), .val (.int p2), .val (.int p3), .val (.ref b134), .val (.int (p2 &&& (127 : Int32))), .val (.long (((p1 &&& (2147483647 : Int32)) - (p1 &&& (2147483647 : Int32)) / (314570 : Int32) * (314570 : Int32)).toInt64)), .second, .val (.int (((314569 : Int64) - (((p1 &&& (2147483647 : Int32)) - (p1 &&& (2147483647 : Int32)) / (314570 : Int32) * (314570 : Int32)).toInt64)).toInt32)), .val (.long LL), .second, .val (.int v162), .val (.int v164), .unset, .unset, .unset, .unset, .unset, .unset, .unset, .unset, .unset, .unset, .unset, .unset, .unset, .unset, .unset, .unset, .unset] [])) _
      refine XS.iconst X155.here hx rfl (hb hby at_105) ?_
      show Steps p.tables e below (T155.setTop (mkF m 106 #[.val (.int p1), .val (.int p2), .val (.int p3), .val (.ref b134), .val (.int (p2 &&& (127 : Int32))), .val (.long (((p1 &&& (2147483647 : Int32)) - (p1 &&& (2147483647 : Int32)) / (314570 : Int32) * (314570 : Int32)).toInt64)), .second, .val (.int (((314569 : Int64) - (((p1 &&& (2147483647 : Int32)) - (p1 &&& (2147483647 : Int32)) / (314570 : Int32) * (314570 : Int32)).toInt64)).toInt32)), .val (.long LL), .second, .val (.int v162), .val (.int v164), .unset, .unset, .unset, .unset, .unset, .unset, .unset, .unset, .unset, .unset, .unset, .unset, .unset, .unset, .unset, .unset, .unset] [(.int (0 : Int32))])) _
      simp only [if_pos hb167] at hv166; subst hv166
      exact k
    · refine XS.ifNo X155.here hx rfl (hb hby at_98) rfl ((if0 _ _).trans (feq hb167).1) ?_
      show Steps p.tables e below (T155.setTop (mkF m 101 #[.val (.int p1), .val (.int p2), .val (.int p3), .val (.ref b134), .val (.int (p2 &&& (127 : Int32))), .val (.long (((p1 &&& (2147483647 : Int32)) - (p1 &&& (2147483647 : Int32)) / (314570 : Int32) * (314570 : Int32)).toInt64)), .second, .val (.int (((314569 : Int64) - (((p1 &&& (2147483647 : Int32)) - (p1 &&& (2147483647 : Int32)) / (314570 : Int32) * (314570 : Int32)).toInt64)).toInt32)), .val (.long LL), .second, .val (.int v162), .val (.int v164), .unset, .unset, .unset, .unset, .unset, .unset, .unset, .unset, .unset, .unset, .unset, .unset, .unset, .unset, .unset, .unset, .unset] [])) _
      refine XS.iconst X155.here hx rfl (hb hby at_101) ?_
      show Steps p.tables e below (T155.setTop (mkF m 102 #[.val (.int p1), .val (.int p2), .val (.int p3), .val (.ref b134), .val (.int (p2 &&& (127 : Int32))), .val (.long (((p1 &&& (2147483647 : Int32)) - (p1 &&& (2147483647 : Int32)) / (314570 : Int32) * (314570 : Int32)).toInt64)), .second, .val (.int (((314569 : Int64) - (((p1 &&& (2147483647 : Int32)) - (p1 &&& (2147483647 : Int32)) / (314570 : Int32) * (314570 : Int32)).toInt64)).toInt32)), .val (.long LL), .second, .val (.int v162), .val (.int v164), .unset, .unset, .unset, .unset, .unset, .unset, .unset, .unset, .unset, .unset, .unset, .unset, .unset, .unset, .unset, .unset, .unset] [(.int (1 : Int32))])) _
      refine XS.goto X155.here hx rfl (pc0 := 102) (pc' := 106) rfl (hb hby at_102) (by decide) (by decide) ?_
      show Steps p.tables e below (T155.setTop (mkF m 106 #[.val (.int p1), .val (.int p2), .val (.int p3), .val (.ref b134), .val (.int (p2 &&& (127 : Int32))), .val (.long (((p1 &&& (2147483647 : Int32)) - (p1 &&& (2147483647 : Int32)) / (314570 : Int32) * (314570 : Int32)).toInt64)), .second, .val (.int (((314569 : Int64) - (((p1 &&& (2147483647 : Int32)) - (p1 &&& (2147483647 : Int32)) / (314570 : Int32) * (314570 : Int32)).toInt64)).toInt32)), .val (.long LL), .second, .val (.int v162), .val (.int v164), .unset, .unset, .unset, .unset, .unset, .unset, .unset, .unset, .unset, .unset, .unset, .unset, .unset, .unset, .unset, .unset, .unset] [(.int (1 : Int32))])) _
      simp only [if_neg hb167] at hv166; subst hv166
      exact k
  show Goes p e below (T155.setTop (mkF m 106 #[.val (.int p1), .val (.int p2), .val (.int p3), .val (.ref b134), .val (.int (p2 &&& (127 : Int32))), .val (.long (((p1 &&& (2147483647 : Int32)) - (p1 &&& (2147483647 : Int32)) / (314570 : Int32) * (314570 : Int32)).toInt64)), .second, .val (.int (((314569 : Int64) - (((p1 &&& (2147483647 : Int32)) - (p1 &&& (2147483647 : Int32)) / (314570 : Int32) * (314570 : Int32)).toInt64)).toInt32)), .val (.long LL), .second, .val (.int v162), .val (.int v164), .unset, .unset, .unset, .unset, .unset, .unset, .unset, .unset, .unset, .unset, .unset, .unset, .unset, .unset, .unset, .unset, .unset] [(.int v166)])) _
  refine Goes.of (fun t k => XS.istore X155.here hx rfl (hb hby at_106) rfl (l' := #[.val (.int p1), .val (.int p2), .val (.int p3), .val (.ref b134), .val (.int (p2 &&& (127 : Int32))), .val (.long (((p1 &&& (2147483647 : Int32)) - (p1 &&& (2147483647 : Int32)) / (314570 : Int32) * (314570 : Int32)).toInt64)), .second, .val (.int (((314569 : Int64) - (((p1 &&& (2147483647 : Int32)) - (p1 &&& (2147483647 : Int32)) / (314570 : Int32) * (314570 : Int32)).toInt64)).toInt32)), .val (.long LL), .second, .val (.int v162), .val (.int v164), .val (.int v166), .unset, .unset, .unset, .unset, .unset, .unset, .unset, .unset, .unset, .unset, .unset, .unset, .unset, .unset, .unset, .unset]) rfl k) ?_
  show Goes p e below (T155.setTop (mkF m 108 #[.val (.int p1), .val (.int p2), .val (.int p3), .val (.ref b134), .val (.int (p2 &&& (127 : Int32))), .val (.long (((p1 &&& (2147483647 : Int32)) - (p1 &&& (2147483647 : Int32)) / (314570 : Int32) * (314570 : Int32)).toInt64)), .second, .val (.int (((314569 : Int64) - (((p1 &&& (2147483647 : Int32)) - (p1 &&& (2147483647 : Int32)) / (314570 : Int32) * (314570 : Int32)).toInt64)).toInt32)), .val (.long LL), .second, .val (.int v162), .val (.int v164), .val (.int v166), .unset, .unset, .unset, .unset, .unset, .unset, .unset, .unset, .unset, .unset, .unset, .unset, .unset, .unset, .unset, .unset] [])) _
  refine Goes.of (fun t k => XS.iload X155.here hx rfl (hb hby at_108) rfl k) ?_
  show Goes p e below (T155.setTop (mkF m 110 #[.val (.int p1), .val (.int p2), .val (.int p3), .val (.ref b134), .val (.int (p2 &&& (127 : Int32))), .val (.long (((p1 &&& (2147483647 : Int32)) - (p1 &&& (2147483647 : Int32)) / (314570 : Int32) * (314570 : Int32)).toInt64)), .second, .val (.int (((314569 : Int64) - (((p1 &&& (2147483647 : Int32)) - (p1 &&& (2147483647 : Int32)) / (314570 : Int32) * (314570 : Int32)).toInt64)).toInt32)), .val (.long LL), .second, .val (.int v162), .val (.int v164), .val (.int v166), .unset, .unset, .unset, .unset, .unset, .unset, .unset, .unset, .unset, .unset, .unset, .unset, .unset, .unset, .unset, .unset] [(.int v162)])) _
  obtain ⟨_, _, ⟨T168, L168, k168, n168⟩, -, X168, ⟨Lc168, hQ168, l168, y168, z168⟩, st168⟩ := Jvm.LawKit.callS X155 hx (y := (⟨"com/example/bit7/bit7/io/ReadBudgetTakeEntityPinLaw", "cost", "(Z)J"⟩ : MethodName)) hown (mvT hZ (hw _ (List.mem_of_getElem? (i := 42) rfl))) (mvT hZ (hw _ (List.mem_of_getElem? (i := 43) rfl))) (mvT hZ (hw _ (List.mem_of_getElem? (i := 44) rfl))) (mvT hZ (hw _ (List.mem_of_getElem? (i := 45) rfl))) (by decide) (backOf (W := 0) (rm6 l Z a0 hw [] v162  T155.heap n0 z156 ) hZ (hw _ (List.mem_of_getElem? (i := 45) rfl)) (hw _ (List.mem_of_getElem? (i := 44) rfl)) (by decide) (by decide)) (g := (mkF m 110 #[.val (.int p1), .val (.int p2), .val (.int p3), .val (.ref b134), .val (.int (p2 &&& (127 : Int32))), .val (.long (((p1 &&& (2147483647 : Int32)) - (p1 &&& (2147483647 : Int32)) / (314570 : Int32) * (314570 : Int32)).toInt64)), .second, .val (.int (((314569 : Int64) - (((p1 &&& (2147483647 : Int32)) - (p1 &&& (2147483647 : Int32)) / (314570 : Int32) * (314570 : Int32)).toInt64)).toInt32)), .val (.long LL), .second, .val (.int v162), .val (.int v164), .val (.int v166), .unset, .unset, .unset, .unset, .unset, .unset, .unset, .unset, .unset, .unset, .unset, .unset, .unset, .unset, .unset, .unset] [(.int v162)])) rfl (by rw [hml]; rfl) (argsL := [(.int v162)]) (rest := []) (lenOf pd_6 rfl) rfl (by show 2 * 0 + _ ≤ _; exact Nat.le_of_eq rfl) (hb hby at_110) (fun _ _ => ⟨rfl, rfl, (by decide : 1 + 0 ≤ _), (by decide : 4 + 0 ≤ _)⟩)
  dsimp only [Pt.U, Pt.locs, Pt.cells, Pt.slots] at X168 l168 y168 z168 st168 hQ168
  subst l168 y168 z168
  obtain ⟨rfl, N168q, e168⟩ := hQ168
  have N168 := Fr.app N155 N168q
  refine Goes.of st168 ?_
  show Goes p e below (T168.setTop (mkF m 113 #[.val (.int p1), .val (.int p2), .val (.int p3), .val (.ref b134), .val (.int (p2 &&& (127 : Int32))), .val (.long (((p1 &&& (2147483647 : Int32)) - (p1 &&& (2147483647 : Int32)) / (314570 : Int32) * (314570 : Int32)).toInt64)), .second, .val (.int (((314569 : Int64) - (((p1 &&& (2147483647 : Int32)) - (p1 &&& (2147483647 : Int32)) / (314570 : Int32) * (314570 : Int32)).toInt64)).toInt32)), .val (.long LL), .second, .val (.int v162), .val (.int v164), .val (.int v166), .unset, .unset, .unset, .unset, .unset, .unset, .unset, .unset, .unset, .unset, .unset, .unset, .unset, .unset, .unset, .unset] [(.long (f6 v162))])) _
  refine Goes.of (fun t k => XS.lstore X168.here hx rfl (hb hby at_113) rfl (l' := #[.val (.int p1), .val (.int p2), .val (.int p3), .val (.ref b134), .val (.int (p2 &&& (127 : Int32))), .val (.long (((p1 &&& (2147483647 : Int32)) - (p1 &&& (2147483647 : Int32)) / (314570 : Int32) * (314570 : Int32)).toInt64)), .second, .val (.int (((314569 : Int64) - (((p1 &&& (2147483647 : Int32)) - (p1 &&& (2147483647 : Int32)) / (314570 : Int32) * (314570 : Int32)).toInt64)).toInt32)), .val (.long LL), .second, .val (.int v162), .val (.int v164), .val (.int v166), .val (.long (f6 v162)), .second, .unset, .unset, .unset, .unset, .unset, .unset, .unset, .unset, .unset, .unset, .unset, .unset, .unset, .unset]) rfl k) ?_
  show Goes p e below (T168.setTop (mkF m 115 #[.val (.int p1), .val (.int p2), .val (.int p3), .val (.ref b134), .val (.int (p2 &&& (127 : Int32))), .val (.long (((p1 &&& (2147483647 : Int32)) - (p1 &&& (2147483647 : Int32)) / (314570 : Int32) * (314570 : Int32)).toInt64)), .second, .val (.int (((314569 : Int64) - (((p1 &&& (2147483647 : Int32)) - (p1 &&& (2147483647 : Int32)) / (314570 : Int32) * (314570 : Int32)).toInt64)).toInt32)), .val (.long LL), .second, .val (.int v162), .val (.int v164), .val (.int v166), .val (.long (f6 v162)), .second, .unset, .unset, .unset, .unset, .unset, .unset, .unset, .unset, .unset, .unset, .unset, .unset, .unset, .unset] [])) _
  refine Goes.of (fun t k => XS.iload X168.here hx rfl (hb hby at_115) rfl k) ?_
  show Goes p e below (T168.setTop (mkF m 117 #[.val (.int p1), .val (.int p2), .val (.int p3), .val (.ref b134), .val (.int (p2 &&& (127 : Int32))), .val (.long (((p1 &&& (2147483647 : Int32)) - (p1 &&& (2147483647 : Int32)) / (314570 : Int32) * (314570 : Int32)).toInt64)), .second, .val (.int (((314569 : Int64) - (((p1 &&& (2147483647 : Int32)) - (p1 &&& (2147483647 : Int32)) / (314570 : Int32) * (314570 : Int32)).toInt64)).toInt32)), .val (.long LL), .second, .val (.int v162), .val (.int v164), .val (.int v166), .val (.long (f6 v162)), .second, .unset, .unset, .unset, .unset, .unset, .unset, .unset, .unset, .unset, .unset, .unset, .unset, .unset, .unset] [(.int v164)])) _
  obtain ⟨_, _, ⟨T169, L169, k169, n169⟩, -, X169, ⟨Lc169, hQ169, l169, y169, z169⟩, st169⟩ := Jvm.LawKit.callS X168 hx (y := (⟨"com/example/bit7/bit7/io/ReadBudgetTakeEntityPinLaw", "cost", "(Z)J"⟩ : MethodName)) hown (mvT hZ (hw _ (List.mem_of_getElem? (i := 42) rfl))) (mvT hZ (hw _ (List.mem_of_getElem? (i := 43) rfl))) (mvT hZ (hw _ (List.mem_of_getElem? (i := 44) rfl))) (mvT hZ (hw _ (List.mem_of_getElem? (i := 45) rfl))) (by decide) (backOf (W := 0) (rm6 l Z a0 hw [] v164  T155.heap n0 z156 ) hZ (hw _ (List.mem_of_getElem? (i := 45) rfl)) (hw _ (List.mem_of_getElem? (i := 44) rfl)) (by decide) (by decide)) (g := (mkF m 117 #[.val (.int p1), .val (.int p2), .val (.int p3), .val (.ref b134), .val (.int (p2 &&& (127 : Int32))), .val (.long (((p1 &&& (2147483647 : Int32)) - (p1 &&& (2147483647 : Int32)) / (314570 : Int32) * (314570 : Int32)).toInt64)), .second, .val (.int (((314569 : Int64) - (((p1 &&& (2147483647 : Int32)) - (p1 &&& (2147483647 : Int32)) / (314570 : Int32) * (314570 : Int32)).toInt64)).toInt32)), .val (.long LL), .second, .val (.int v162), .val (.int v164), .val (.int v166), .val (.long (f6 v162)), .second, .unset, .unset, .unset, .unset, .unset, .unset, .unset, .unset, .unset, .unset, .unset, .unset, .unset, .unset] [(.int v164)])) rfl (by rw [hml]; rfl) (argsL := [(.int v164)]) (rest := []) (lenOf pd_6 rfl) rfl (by show 2 * 0 + _ ≤ _; exact Nat.le_of_eq rfl) (hb hby at_117) (fun _ _ => ⟨rfl, e168, (by decide : 1 + 0 ≤ _), (by decide : 4 + 0 ≤ _)⟩)
  dsimp only [Pt.U, Pt.locs, Pt.cells, Pt.slots] at X169 l169 y169 z169 st169 hQ169
  subst l169 y169 z169
  obtain ⟨rfl, N169q, e169⟩ := hQ169
  have N169 := Fr.app N168 N169q
  refine Goes.of st169 ?_
  show Goes p e below (T169.setTop (mkF m 120 #[.val (.int p1), .val (.int p2), .val (.int p3), .val (.ref b134), .val (.int (p2 &&& (127 : Int32))), .val (.long (((p1 &&& (2147483647 : Int32)) - (p1 &&& (2147483647 : Int32)) / (314570 : Int32) * (314570 : Int32)).toInt64)), .second, .val (.int (((314569 : Int64) - (((p1 &&& (2147483647 : Int32)) - (p1 &&& (2147483647 : Int32)) / (314570 : Int32) * (314570 : Int32)).toInt64)).toInt32)), .val (.long LL), .second, .val (.int v162), .val (.int v164), .val (.int v166), .val (.long (f6 v162)), .second, .unset, .unset, .unset, .unset, .unset, .unset, .unset, .unset, .unset, .unset, .unset, .unset, .unset, .unset] [(.long (f6 v164))])) _
  refine Goes.of (fun t k => XS.lstore X169.here hx rfl (hb hby at_120) rfl (l' := #[.val (.int p1), .val (.int p2), .val (.int p3), .val (.ref b134), .val (.int (p2 &&& (127 : Int32))), .val (.long (((p1 &&& (2147483647 : Int32)) - (p1 &&& (2147483647 : Int32)) / (314570 : Int32) * (314570 : Int32)).toInt64)), .second, .val (.int (((314569 : Int64) - (((p1 &&& (2147483647 : Int32)) - (p1 &&& (2147483647 : Int32)) / (314570 : Int32) * (314570 : Int32)).toInt64)).toInt32)), .val (.long LL), .second, .val (.int v162), .val (.int v164), .val (.int v166), .val (.long (f6 v162)), .second, .val (.long (f6 v164)), .second, .unset, .unset, .unset, .unset, .unset, .unset, .unset, .unset, .unset, .unset, .unset, .unset]) rfl k) ?_
  show Goes p e below (T169.setTop (mkF m 122 #[.val (.int p1), .val (.int p2), .val (.int p3), .val (.ref b134), .val (.int (p2 &&& (127 : Int32))), .val (.long (((p1 &&& (2147483647 : Int32)) - (p1 &&& (2147483647 : Int32)) / (314570 : Int32) * (314570 : Int32)).toInt64)), .second, .val (.int (((314569 : Int64) - (((p1 &&& (2147483647 : Int32)) - (p1 &&& (2147483647 : Int32)) / (314570 : Int32) * (314570 : Int32)).toInt64)).toInt32)), .val (.long LL), .second, .val (.int v162), .val (.int v164), .val (.int v166), .val (.long (f6 v162)), .second, .val (.long (f6 v164)), .second, .unset, .unset, .unset, .unset, .unset, .unset, .unset, .unset, .unset, .unset, .unset, .unset] [])) _
  refine Goes.of (fun t k => XS.iload X169.here hx rfl (hb hby at_122) rfl k) ?_
  show Goes p e below (T169.setTop (mkF m 124 #[.val (.int p1), .val (.int p2), .val (.int p3), .val (.ref b134), .val (.int (p2 &&& (127 : Int32))), .val (.long (((p1 &&& (2147483647 : Int32)) - (p1 &&& (2147483647 : Int32)) / (314570 : Int32) * (314570 : Int32)).toInt64)), .second, .val (.int (((314569 : Int64) - (((p1 &&& (2147483647 : Int32)) - (p1 &&& (2147483647 : Int32)) / (314570 : Int32) * (314570 : Int32)).toInt64)).toInt32)), .val (.long LL), .second, .val (.int v162), .val (.int v164), .val (.int v166), .val (.long (f6 v162)), .second, .val (.long (f6 v164)), .second, .unset, .unset, .unset, .unset, .unset, .unset, .unset, .unset, .unset, .unset, .unset, .unset] [(.int v166)])) _
  obtain ⟨_, _, ⟨T170, L170, k170, n170⟩, -, X170, ⟨Lc170, hQ170, l170, y170, z170⟩, st170⟩ := Jvm.LawKit.callS X169 hx (y := (⟨"com/example/bit7/bit7/io/ReadBudgetTakeEntityPinLaw", "cost", "(Z)J"⟩ : MethodName)) hown (mvT hZ (hw _ (List.mem_of_getElem? (i := 42) rfl))) (mvT hZ (hw _ (List.mem_of_getElem? (i := 43) rfl))) (mvT hZ (hw _ (List.mem_of_getElem? (i := 44) rfl))) (mvT hZ (hw _ (List.mem_of_getElem? (i := 45) rfl))) (by decide) (backOf (W := 0) (rm6 l Z a0 hw [] v166  T155.heap n0 z156 ) hZ (hw _ (List.mem_of_getElem? (i := 45) rfl)) (hw _ (List.mem_of_getElem? (i := 44) rfl)) (by decide) (by decide)) (g := (mkF m 124 #[.val (.int p1), .val (.int p2), .val (.int p3), .val (.ref b134), .val (.int (p2 &&& (127 : Int32))), .val (.long (((p1 &&& (2147483647 : Int32)) - (p1 &&& (2147483647 : Int32)) / (314570 : Int32) * (314570 : Int32)).toInt64)), .second, .val (.int (((314569 : Int64) - (((p1 &&& (2147483647 : Int32)) - (p1 &&& (2147483647 : Int32)) / (314570 : Int32) * (314570 : Int32)).toInt64)).toInt32)), .val (.long LL), .second, .val (.int v162), .val (.int v164), .val (.int v166), .val (.long (f6 v162)), .second, .val (.long (f6 v164)), .second, .unset, .unset, .unset, .unset, .unset, .unset, .unset, .unset, .unset, .unset, .unset, .unset] [(.int v166)])) rfl (by rw [hml]; rfl) (argsL := [(.int v166)]) (rest := []) (lenOf pd_6 rfl) rfl (by show 2 * 0 + _ ≤ _; exact Nat.le_of_eq rfl) (hb hby at_124) (fun _ _ => ⟨rfl, e169, (by decide : 1 + 0 ≤ _), (by decide : 4 + 0 ≤ _)⟩)
  dsimp only [Pt.U, Pt.locs, Pt.cells, Pt.slots] at X170 l170 y170 z170 st170 hQ170
  subst l170 y170 z170
  obtain ⟨rfl, N170q, e170⟩ := hQ170
  have N170 := Fr.app N169 N170q
  refine Goes.of st170 ?_
  show Goes p e below (T170.setTop (mkF m 127 #[.val (.int p1), .val (.int p2), .val (.int p3), .val (.ref b134), .val (.int (p2 &&& (127 : Int32))), .val (.long (((p1 &&& (2147483647 : Int32)) - (p1 &&& (2147483647 : Int32)) / (314570 : Int32) * (314570 : Int32)).toInt64)), .second, .val (.int (((314569 : Int64) - (((p1 &&& (2147483647 : Int32)) - (p1 &&& (2147483647 : Int32)) / (314570 : Int32) * (314570 : Int32)).toInt64)).toInt32)), .val (.long LL), .second, .val (.int v162), .val (.int v164), .val (.int v166), .val (.long (f6 v162)), .second, .val (.long (f6 v164)), .second, .unset, .unset, .unset, .unset, .unset, .unset, .unset, .unset, .unset, .unset, .unset, .unset] [(.long (f6 v166))])) _
  refine Goes.of (fun t k => XS.lstore X170.here hx rfl (hb hby at_127) rfl (l' := #[.val (.int p1), .val (.int p2), .val (.int p3), .val (.ref b134), .val (.int (p2 &&& (127 : Int32))), .val (.long (((p1 &&& (2147483647 : Int32)) - (p1 &&& (2147483647 : Int32)) / (314570 : Int32) * (314570 : Int32)).toInt64)), .second, .val (.int (((314569 : Int64) - (((p1 &&& (2147483647 : Int32)) - (p1 &&& (2147483647 : Int32)) / (314570 : Int32) * (314570 : Int32)).toInt64)).toInt32)), .val (.long LL), .second, .val (.int v162), .val (.int v164), .val (.int v166), .val (.long (f6 v162)), .second, .val (.long (f6 v164)), .second, .val (.long (f6 v166)), .second, .unset, .unset, .unset, .unset, .unset, .unset, .unset, .unset, .unset, .unset]) rfl k) ?_
  show Goes p e below (T170.setTop (mkF m 129 #[.val (.int p1), .val (.int p2), .val (.int p3), .val (.ref b134), .val (.int (p2 &&& (127 : Int32))), .val (.long (((p1 &&& (2147483647 : Int32)) - (p1 &&& (2147483647 : Int32)) / (314570 : Int32) * (314570 : Int32)).toInt64)), .second, .val (.int (((314569 : Int64) - (((p1 &&& (2147483647 : Int32)) - (p1 &&& (2147483647 : Int32)) / (314570 : Int32) * (314570 : Int32)).toInt64)).toInt32)), .val (.long LL), .second, .val (.int v162), .val (.int v164), .val (.int v166), .val (.long (f6 v162)), .second, .val (.long (f6 v164)), .second, .val (.long (f6 v166)), .second, .unset, .unset, .unset, .unset, .unset, .unset, .unset, .unset, .unset, .unset] [])) _
  refine Goes.of (fun t k => XS.lload X170.here hx rfl (hb hby at_129) rfl k) ?_
  show Goes p e below (T170.setTop (mkF m 131 #[.val (.int p1), .val (.int p2), .val (.int p3), .val (.ref b134), .val (.int (p2 &&& (127 : Int32))), .val (.long (((p1 &&& (2147483647 : Int32)) - (p1 &&& (2147483647 : Int32)) / (314570 : Int32) * (314570 : Int32)).toInt64)), .second, .val (.int (((314569 : Int64) - (((p1 &&& (2147483647 : Int32)) - (p1 &&& (2147483647 : Int32)) / (314570 : Int32) * (314570 : Int32)).toInt64)).toInt32)), .val (.long LL), .second, .val (.int v162), .val (.int v164), .val (.int v166), .val (.long (f6 v162)), .second, .val (.long (f6 v164)), .second, .val (.long (f6 v166)), .second, .unset, .unset, .unset, .unset, .unset, .unset, .unset, .unset, .unset, .unset] [(.long (f6 v162))])) _
  refine Goes.of (fun t k => XS.lload X170.here hx rfl (hb hby at_131) rfl k) ?_
  show Goes p e below (T170.setTop (mkF m 133 #[.val (.int p1), .val (.int p2), .val (.int p3), .val (.ref b134), .val (.int (p2 &&& (127 : Int32))), .val (.long (((p1 &&& (2147483647 : Int32)) - (p1 &&& (2147483647 : Int32)) / (314570 : Int32) * (314570 : Int32)).toInt64)), .second, .val (.int (((314569 : Int64) - (((p1 &&& (2147483647 : Int32)) - (p1 &&& (2147483647 : Int32)) / (314570 : Int32) * (314570 : Int32)).toInt64)).toInt32)), .val (.long LL), .second, .val (.int v162), .val (.int v164), .val (.int v166), .val (.long (f6 v162)), .second, .val (.long (f6 v164)), .second, .val (.long (f6 v166)), .second, .unset, .unset, .unset, .unset, .unset, .unset, .unset, .unset, .unset, .unset] [(.long LL), (.long (f6 v162))])) _
  refine Goes.of (fun t k => XS.lcmp X170.here hx rfl (hb hby at_133) rfl k) ?_
  show Goes p e below (T170.setTop (mkF m 134 #[.val (.int p1), .val (.int p2), .val (.int p3), .val (.ref b134), .val (.int (p2 &&& (127 : Int32))), .val (.long (((p1 &&& (2147483647 : Int32)) - (p1 &&& (2147483647 : Int32)) / (314570 : Int32) * (314570 : Int32)).toInt64)), .second, .val (.int (((314569 : Int64) - (((p1 &&& (2147483647 : Int32)) - (p1 &&& (2147483647 : Int32)) / (314570 : Int32) * (314570 : Int32)).toInt64)).toInt32)), .val (.long LL), .second, .val (.int v162), .val (.int v164), .val (.int v166), .val (.long (f6 v162)), .second, .val (.long (f6 v164)), .second, .val (.long (f6 v166)), .second, .unset, .unset, .unset, .unset, .unset, .unset, .unset, .unset, .unset, .unset] [(.int (lcmpW (f6 v162) LL))])) _
  obtain ⟨v171, hv171⟩ : ∃ z : Int32, z = (if LL < (f6 v162) then (0 : Int32) else (1 : Int32)) := ⟨_, rfl⟩
  refine Goes.of (S' := T170.setTop (mkF m 142 #[.val (.int p1), .val (.int p2), .val (.int p3), .val (.ref b134), .val (.int (p2 &&& (127 : Int32))), .val (.long (((p1 &&& (2147483647 : Int32)) - (p1 &&& (2147483647 : Int32)) / (314570 : Int32) * (314570 : Int32)).toInt64)), .second, .val (.int (((314569 : Int64) - (((p1 &&& (2147483647 : Int32)) - (p1 &&& (2147483647 : Int32)) / (314570 : Int32) * (314570 : Int32)).toInt64)).toInt32)), .val (.long LL), .second, .val (.int v162), .val (.int v164), .val (.int v166), .val (.long (f6 v162)), .second, .val (.long (f6 v164)), .second, .val (.long (f6 v166)), .second, .unset, .unset, .unset, .unset, .unset, .unset, .unset, .unset, .unset, .unset] [(.int v171)])) (fun t k => ?_) ?_
  · by_cases hb172 : LL < (f6 v162)
    · refine XS.ifYes X170.here hx rfl (pc0 := 134) (pc' := 141) rfl (hb hby at_134) rfl ((if0 _ _).trans (tlt ((lw_gt _ _).mpr hb172)).2.2.1) (by decide) (by decide) ?_
      show Steps p.tables e below (T170.setTop (mkF m 141 #[.val (.int p1), .val (.int p2), .val (.int p3), .val (.ref b134), .val (.int (p2 &&& (127 : Int32))), .val (.long (((p1 &&& (2147483647 : Int32)) - (p1 &&& (2147483647 : Int32)) / (314570 : Int32) * (314570 : Int32)).toInt64)), .second, .val (.int (((314569 : Int64) - (((p1 &&& (2147483647 : Int32)) - (p1 &&& (2147483647 : Int32)) / (314570 : Int32) * (314570 : Int32)).toInt64)).toInt32)), .val (.long LL), .second, .val (.int v162), .val (.int v164), .val (.int v166), .val (.long (f6 v162)), .second, .val (.long (f6 v164)), .second, .val (.long (f6 v166)), .second, .unset, .unset, .unset, .unset, .unset, .unset, .unset, .unset, .unset, .unset] [])) _
      refine XS.iconst X170.here hx rfl (hb hby at_141) ?_
      show Steps p.tables e below (T170.setTop (mkF m 142 #[.val (.int p1), .val (.int p2), .val (.int p3), .val (.ref b134), .val (.int (p2 &&& (127 : Int32))), .val (.long (((p1 &&& (2147483647 : Int32)) - (p1 &&& (2147483647 : Int32)) / (314570 : Int32) * (314570 : Int32)).toInt64)), .second, .val (.int (((314569 : Int64) - (((p1 &&& (2147483647 : Int32)) - (p1 &&& (2147483647 : Int32)) / (314570 : Int32) * (314570 : Int32)).toInt64)).toInt32)), .val (.long LL), .second, .val (.int v162), .val (.int v164), .val (.int v166), .val (.long (f6 v162)), .second, .val (.long (f6 v164)), .second, .val (.long (f6 v166)), .second, .unset, .unset, .unset, .unset, .unset, .unset, .unset, .unset, .unset, .unset] [(.int (0 : Int32))])) _
      simp only [if_pos hb172] at hv171; subst hv171
      exact k
    · refine XS.ifNo X170.here hx rfl (hb hby at_134) rfl ((if0 _ _).trans (flt (mt (lw_gt _ _).mp hb172)).2.2.1) ?_
      show Steps p.tables e below (T170.setTop (mkF m 137 #[.val (.int p1), .val (.int p2), .val (.int p3), .val (.ref b134), .val (.int (p2 &&& (127 : Int32))), .val (.long (((p1 &&& (2147483647 : Int32)) - (p1 &&& (2147483647 : Int32)) / (314570 : Int32) * (314570 : Int32)).toInt64)), .second, .val (.int (((314569 : Int64) - (((p1 &&& (2147483647 : Int32)) - (p1 &&& (2147483647 : Int32)) / (314570 : Int32) * (314570 : Int32)).toInt64)).toInt32)), .val (.long LL), .second, .val (.int v162), .val (.int v164), .val (.int v166), .val (.long (f6 v162)), .second, .val (.long (f6 v164)), .second, .val (.long (f6 v166)), .second, .unset, .unset, .unset, .unset, .unset, .unset, .unset, .unset, .unset, .unset] [])) _
      refine XS.iconst X170.here hx rfl (hb hby at_137) ?_
      show Steps p.tables e below (T170.setTop (mkF m 138 #[.val (.int p1), .val (.int p2), .val (.int p3), .val (.ref b134), .val (.int (p2 &&& (127 : Int32))), .val (.long (((p1 &&& (2147483647 : Int32)) - (p1 &&& (2147483647 : Int32)) / (314570 : Int32) * (314570 : Int32)).toInt64)), .second, .val (.int (((314569 : Int64) - (((p1 &&& (2147483647 : Int32)) - (p1 &&& (2147483647 : Int32)) / (314570 : Int32) * (314570 : Int32)).toInt64)).toInt32)), .val (.long LL), .second, .val (.int v162), .val (.int v164), .val (.int v166), .val (.long (f6 v162)), .second, .val (.long (f6 v164)), .second, .val (.long (f6 v166)), .second, .unset, .unset, .unset, .unset, .unset, .unset, .unset, .unset, .unset, .unset] [(.int (1 : Int32))])) _
      refine XS.goto X170.here hx rfl (pc0 := 138) (pc' := 142) rfl (hb hby at_138) (by decide) (by decide) ?_
      show Steps p.tables e below (T170.setTop (mkF m 142 #[.val (.int p1), .val (.int p2), .val (.int p3), .val (.ref b134), .val (.int (p2 &&& (127 : Int32))), .val (.long (((p1 &&& (2147483647 : Int32)) - (p1 &&& (2147483647 : Int32)) / (314570 : Int32) * (314570 : Int32)).toInt64)), .second, .val (.int (((314569 : Int64) - (((p1 &&& (2147483647 : Int32)) - (p1 &&& (2147483647 : Int32)) / (314570 : Int32) * (314570 : Int32)).toInt64)).toInt32)), .val (.long LL), .second, .val (.int v162), .val (.int v164), .val (.int v166), .val (.long (f6 v162)), .second, .val (.long (f6 v164)), .second, .val (.long (f6 v166)), .second, .unset, .unset, .unset, .unset, .unset, .unset, .unset, .unset, .unset, .unset] [(.int (1 : Int32))])) _
      simp only [if_neg hb172] at hv171; subst hv171
      exact k
  show Goes p e below (T170.setTop (mkF m 142 #[.val (.int p1), .val (.int p2), .val (.int p3), .val (.ref b134), .val (.int (p2 &&& (127 : Int32))), .val (.long (((p1 &&& (2147483647 : Int32)) - (p1 &&& (2147483647 : Int32)) / (314570 : Int32) * (314570 : Int32)).toInt64)), .second, .val (.int (((314569 : Int64) - (((p1 &&& (2147483647 : Int32)) - (p1 &&& (2147483647 : Int32)) / (314570 : Int32) * (314570 : Int32)).toInt64)).toInt32)), .val (.long LL), .second, .val (.int v162), .val (.int v164), .val (.int v166), .val (.long (f6 v162)), .second, .val (.long (f6 v164)), .second, .val (.long (f6 v166)), .second, .unset, .unset, .unset, .unset, .unset, .unset, .unset, .unset, .unset, .unset] [(.int v171)])) _
  refine Goes.of (fun t k => XS.istore X170.here hx rfl (hb hby at_142) rfl (l' := #[.val (.int p1), .val (.int p2), .val (.int p3), .val (.ref b134), .val (.int (p2 &&& (127 : Int32))), .val (.long (((p1 &&& (2147483647 : Int32)) - (p1 &&& (2147483647 : Int32)) / (314570 : Int32) * (314570 : Int32)).toInt64)), .second, .val (.int (((314569 : Int64) - (((p1 &&& (2147483647 : Int32)) - (p1 &&& (2147483647 : Int32)) / (314570 : Int32) * (314570 : Int32)).toInt64)).toInt32)), .val (.long LL), .second, .val (.int v162), .val (.int v164), .val (.int v166), .val (.long (f6 v162)), .second, .val (.long (f6 v164)), .second, .val (.long (f6 v166)), .second, .val (.int v171), .unset, .unset, .unset, .unset, .unset, .unset, .unset, .unset, .unset]) rfl k) ?_
  show Goes p e below (T170.setTop (mkF m 144 #[.val (.int p1), .val (.int p2), .val (.int p3), .val (.ref b134), .val (.int (p2 &&& (127 : Int32))), .val (.long (((p1 &&& (2147483647 : Int32)) - (p1 &&& (2147483647 : Int32)) / (314570 : Int32) * (314570 : Int32)).toInt64)), .second, .val (.int (((314569 : Int64) - (((p1 &&& (2147483647 : Int32)) - (p1 &&& (2147483647 : Int32)) / (314570 : Int32) * (314570 : Int32)).toInt64)).toInt32)), .val (.long LL), .second, .val (.int v162), .val (.int v164), .val (.int v166), .val (.long (f6 v162)), .second, .val (.long (f6 v164)), .second, .val (.long (f6 v166)), .second, .val (.int v171), .unset, .unset, .unset, .unset, .unset, .unset, .unset, .unset, .unset] [])) _
  refine Goes.of (fun t k => XS.lload X170.here hx rfl (hb hby at_144) rfl k) ?_
  show Goes p e below (T170.setTop (mkF m 146 #[.val (.int p1), .val (.int p2), .val (.int p3), .val (.ref b134), .val (.int (p2 &&& (127 : Int32))), .val (.long (((p1 &&& (2147483647 : Int32)) - (p1 &&& (2147483647 : Int32)) / (314570 : Int32) * (314570 : Int32)).toInt64)), .second, .val (.int (((314569 : Int64) - (((p1 &&& (2147483647 : Int32)) - (p1 &&& (2147483647 : Int32)) / (314570 : Int32) * (314570 : Int32)).toInt64)).toInt32)), .val (.long LL), .second, .val (.int v162), .val (.int v164), .val (.int v166), .val (.long (f6 v162)), .second, .val (.long (f6 v164)), .second, .val (.long (f6 v166)), .second, .val (.int v171), .unset, .unset, .unset, .unset, .unset, .unset, .unset, .unset, .unset] [(.long LL)])) _
  refine Goes.of (fun t k => XS.lstore X170.here hx rfl (hb hby at_146) rfl (l' := #[.val (.int p1), .val (.int p2), .val (.int p3), .val (.ref b134), .val (.int (p2 &&& (127 : Int32))), .val (.long (((p1 &&& (2147483647 : Int32)) - (p1 &&& (2147483647 : Int32)) / (314570 : Int32) * (314570 : Int32)).toInt64)), .second, .val (.int (((314569 : Int64) - (((p1 &&& (2147483647 : Int32)) - (p1 &&& (2147483647 : Int32)) / (314570 : Int32) * (314570 : Int32)).toInt64)).toInt32)), .val (.long LL), .second, .val (.int v162), .val (.int v164), .val (.int v166), .val (.long (f6 v162)), .second, .val (.long (f6 v164)), .second, .val (.long (f6 v166)), .second, .val (.int v171), .val (.long LL), .second, .unset, .unset, .unset, .unset, .unset, .unset, .unset]) rfl k) ?_
  show Goes p e below (T170.setTop (mkF m 148 #[.val (.int p1), .val (.int p2), .val (.int p3), .val (.ref b134), .val (.int (p2 &&& (127 : Int32))), .val (.long (((p1 &&& (2147483647 : Int32)) - (p1 &&& (2147483647 : Int32)) / (314570 : Int32) * (314570 : Int32)).toInt64)), .second, .val (.int (((314569 : Int64) - (((p1 &&& (2147483647 : Int32)) - (p1 &&& (2147483647 : Int32)) / (314570 : Int32) * (314570 : Int32)).toInt64)).toInt32)), .val (.long LL), .second, .val (.int v162), .val (.int v164), .val (.int v166), .val (.long (f6 v162)), .second, .val (.long (f6 v164)), .second, .val (.long (f6 v166)), .second, .val (.int v171), .val (.long LL), .second, .unset, .unset, .unset, .unset, .unset, .unset, .unset] [])) _
  refine Goes.of (fun t k => XS.iload X170.here hx rfl (hb hby at_148) rfl k) ?_
  show Goes p e below (T170.setTop (mkF m 150 #[.val (.int p1), .val (.int p2), .val (.int p3), .val (.ref b134), .val (.int (p2 &&& (127 : Int32))), .val (.long (((p1 &&& (2147483647 : Int32)) - (p1 &&& (2147483647 : Int32)) / (314570 : Int32) * (314570 : Int32)).toInt64)), .second, .val (.int (((314569 : Int64) - (((p1 &&& (2147483647 : Int32)) - (p1 &&& (2147483647 : Int32)) / (314570 : Int32) * (314570 : Int32)).toInt64)).toInt32)), .val (.long LL), .second, .val (.int v162), .val (.int v164), .val (.int v166), .val (.long (f6 v162)), .second, .val (.long (f6 v164)), .second, .val (.long (f6 v166)), .second, .val (.int v171), .val (.long LL), .second, .unset, .unset, .unset, .unset, .unset, .unset, .unset] [(.int v171)])) _
  obtain ⟨v173, hv173⟩ : ∃ z : Int64, z = (if v171 = (0 : Int32) then LL else (LL - (f6 v162))) := ⟨_, rfl⟩
  refine Goes.of (S' := T170.setTop (mkF m 160 #[.val (.int p1), .val (.int p2), .val (.int p3), .val (.ref b134), .val (.int (p2 &&& (127 : Int32))), .val (.long (((p1 &&& (2147483647 : Int32)) - (p1 &&& (2147483647 : Int32)) / (314570 : Int32) * (314570 : Int32)).toInt64)), .second, .val (.int (((314569 : Int64) - (((p1 &&& (2147483647 : Int32)) - (p1 &&& (2147483647 : Int32)) / (314570 : Int32) * (314570 : Int32)).toInt64)).toInt32)), .val (.long LL), .second, .val (.int v162), .val (.int v164), .val (.int v166), .val (.long (f6 v162)), .second, .val (.long (f6 v164)), .second, .val (.long (f6 v166)), .second, .val (.int v171), .val (.long v173), .second, .unset, .unset, .unset, .unset, .unset, .unset, .unset] [])) (fun t k => ?_) ?_
  · by_cases hb174 : v171 = (0 : Int32)
    · refine XS.ifYes X170.here hx rfl (pc0 := 150) (pc' := 160) rfl (hb hby at_150) rfl ((if0 _ _).trans (teq hb174).1) (by decide) (by decide) ?_
      show Steps p.tables e below (T170.setTop (mkF m 160 #[.val (.int p1), .val (.int p2), .val (.int p3), .val (.ref b134), .val (.int (p2 &&& (127 : Int32))), .val (.long (((p1 &&& (2147483647 : Int32)) - (p1 &&& (2147483647 : Int32)) / (314570 : Int32) * (314570 : Int32)).toInt64)), .second, .val (.int (((314569 : Int64) - (((p1 &&& (2147483647 : Int32)) - (p1 &&& (2147483647 : Int32)) / (314570 : Int32) * (314570 : Int32)).toInt64)).toInt32)), .val (.long LL), .second, .val (.int v162), .val (.int v164), .val (.int v166), .val (.long (f6 v162)), .second, .val (.long (f6 v164)), .second, .val (.long (f6 v166)), .second, .val (.int v171), .val (.long LL), .second, .unset, .unset, .unset, .unset, .unset, .unset, .unset] [])) _
      simp only [if_pos hb174] at hv173; subst hv173
      exact k
    · refine XS.ifNo X170.here hx rfl (hb hby at_150) rfl ((if0 _ _).trans (feq hb174).1) ?_
      show Steps p.tables e below (T170.setTop (mkF m 153 #[.val (.int p1), .val (.int p2), .val (.int p3), .val (.ref b134), .val (.int (p2 &&& (127 : Int32))), .val (.long (((p1 &&& (2147483647 : Int32)) - (p1 &&& (2147483647 : Int32)) / (314570 : Int32) * (314570 : Int32)).toInt64)), .second, .val (.int (((314569 : Int64) - (((p1 &&& (2147483647 : Int32)) - (p1 &&& (2147483647 : Int32)) / (314570 : Int32) * (314570 : Int32)).toInt64)).toInt32)), .val (.long LL), .second, .val (.int v162), .val (.int v164), .val (.int v166), .val (.long (f6 v162)), .second, .val (.long (f6 v164)), .second, .val (.long (f6 v166)), .second, .val (.int v171), .val (.long LL), .second, .unset, .unset, .unset, .unset, .unset, .unset, .unset] [])) _
      refine XS.lload X170.here hx rfl (hb hby at_153) rfl ?_
      show Steps p.tables e below (T170.setTop (mkF m 155 #[.val (.int p1), .val (.int p2), .val (.int p3), .val (.ref b134), .val (.int (p2 &&& (127 : Int32))), .val (.long (((p1 &&& (2147483647 : Int32)) - (p1 &&& (2147483647 : Int32)) / (314570 : Int32) * (314570 : Int32)).toInt64)), .second, .val (.int (((314569 : Int64) - (((p1 &&& (2147483647 : Int32)) - (p1 &&& (2147483647 : Int32)) / (314570 : Int32) * (314570 : Int32)).toInt64)).toInt32)), .val (.long LL), .second, .val (.int v162), .val (.int v164), .val (.int v166), .val (.long (f6 v162)), .second, .val (.long (f6 v164)), .second, .val (.long (f6 v166)), .second, .val (.int v171), .val (.long LL), .second, .unset, .unset, .unset, .unset, .unset, .unset, .unset] [(.long LL)])) _
      refine XS.lload X170.here hx rfl (hb hby at_155) rfl ?_
      show Steps p.tables e below (T170.setTop (mkF m 157 #[.val (.int p1), .val (.int p2), .val (.int p3), .val (.ref b134), .val (.int (p2 &&& (127 : Int32))), .val (.long (((p1 &&& (2147483647 : Int32)) - (p1 &&& (2147483647 : Int32)) / (314570 : Int32) * (314570 : Int32)).toInt64)), .second, .val (.int (((314569 : Int64) - (((p1 &&& (2147483647 : Int32)) - (p1 &&& (2147483647 : Int32)) / (314570 : Int32) * (314570 : Int32)).toInt64)).toInt32)), .val (.long LL), .second, .val (.int v162), .val (.int v164), .val (.int v166), .val (.long (f6 v162)), .second, .val (.long (f6 v164)), .second, .val (.long (f6 v166)), .second, .val (.int v171), .val (.long LL), .second, .unset, .unset, .unset, .unset, .unset, .unset, .unset] [(.long (f6 v162)), (.long LL)])) _
      refine XS.lsub X170.here hx rfl (hb hby at_157) rfl ?_
      show Steps p.tables e below (T170.setTop (mkF m 158 #[.val (.int p1), .val (.int p2), .val (.int p3), .val (.ref b134), .val (.int (p2 &&& (127 : Int32))), .val (.long (((p1 &&& (2147483647 : Int32)) - (p1 &&& (2147483647 : Int32)) / (314570 : Int32) * (314570 : Int32)).toInt64)), .second, .val (.int (((314569 : Int64) - (((p1 &&& (2147483647 : Int32)) - (p1 &&& (2147483647 : Int32)) / (314570 : Int32) * (314570 : Int32)).toInt64)).toInt32)), .val (.long LL), .second, .val (.int v162), .val (.int v164), .val (.int v166), .val (.long (f6 v162)), .second, .val (.long (f6 v164)), .second, .val (.long (f6 v166)), .second, .val (.int v171), .val (.long LL), .second, .unset, .unset, .unset, .unset, .unset, .unset, .unset] [(.long (LL - (f6 v162)))])) _
      refine XS.lstore X170.here hx rfl (hb hby at_158) rfl (l' := #[.val (.int p1), .val (.int p2), .val (.int p3), .val (.ref b134), .val (.int (p2 &&& (127 : Int32))), .val (.long (((p1 &&& (2147483647 : Int32)) - (p1 &&& (2147483647 : Int32)) / (314570 : Int32) * (314570 : Int32)).toInt64)), .second, .val (.int (((314569 : Int64) - (((p1 &&& (2147483647 : Int32)) - (p1 &&& (2147483647 : Int32)) / (314570 : Int32) * (314570 : Int32)).toInt64)).toInt32)), .val (.long LL), .second, .val (.int v162), .val (.int v164), .val (.int v166), .val (.long (f6 v162)), .second, .val (.long (f6 v164)), .second, .val (.long (f6 v166)), .second, .val (.int v171), .val (.long (LL - (f6 v162))), .second, .unset, .unset, .unset, .unset, .unset, .unset, .unset]) rfl ?_
      show Steps p.tables e below (T170.setTop (mkF m 160 #[.val (.int p1), .val (.int p2), .val (.int p3), .val (.ref b134), .val (.int (p2 &&& (127 : Int32))), .val (.long (((p1 &&& (2147483647 : Int32)) - (p1 &&& (2147483647 : Int32)) / (314570 : Int32) * (314570 : Int32)).toInt64)), .second, .val (.int (((314569 : Int64) - (((p1 &&& (2147483647 : Int32)) - (p1 &&& (2147483647 : Int32)) / (314570 : Int32) * (314570 : Int32)).toInt64)).toInt32)), .val (.long LL), .second, .val (.int v162), .val (.int v164), .val (.int v166), .val (.long (f6 v162)), .second, .val (.long (f6 v164)), .second, .val (.long (f6 v166)), .second, .val (.int v171), .val (.long (LL - (f6 v162))), .second, .unset, .unset, .unset, .unset, .unset, .unset, .unset] [])) _
      simp only [if_neg hb174] at hv173; subst hv173
      exact k
  show Goes p e below (T170.setTop (mkF m 160 #[.val (.int p1), .val (.int p2), .val (.int p3), .val (.ref b134), .val (.int (p2 &&& (127 : Int32))), .val (.long (((p1 &&& (2147483647 : Int32)) - (p1 &&& (2147483647 : Int32)) / (314570 : Int32) * (314570 : Int32)).toInt64)), .second, .val (.int (((314569 : Int64) - (((p1 &&& (2147483647 : Int32)) - (p1 &&& (2147483647 : Int32)) / (314570 : Int32) * (314570 : Int32)).toInt64)).toInt32)), .val (.long LL), .second, .val (.int v162), .val (.int v164), .val (.int v166), .val (.long (f6 v162)), .second, .val (.long (f6 v164)), .second, .val (.long (f6 v166)), .second, .val (.int v171), .val (.long v173), .second, .unset, .unset, .unset, .unset, .unset, .unset, .unset] [])) _
  refine Goes.of (fun t k => XS.iload X170.here hx rfl (hb hby at_160) rfl k) ?_
  show Goes p e below (T170.setTop (mkF m 162 #[.val (.int p1), .val (.int p2), .val (.int p3), .val (.ref b134), .val (.int (p2 &&& (127 : Int32))), .val (.long (((p1 &&& (2147483647 : Int32)) - (p1 &&& (2147483647 : Int32)) / (314570 : Int32) * (314570 : Int32)).toInt64)), .second, .val (.int (((314569 : Int64) - (((p1 &&& (2147483647 : Int32)) - (p1 &&& (2147483647 : Int32)) / (314570 : Int32) * (314570 : Int32)).toInt64)).toInt32)), .val (.long LL), .second, .val (.int v162), .val (.int v164), .val (.int v166), .val (.long (f6 v162)), .second, .val (.long (f6 v164)), .second, .val (.long (f6 v166)), .second, .val (.int v171), .val (.long v173), .second, .unset, .unset, .unset, .unset, .unset, .unset, .unset] [(.int v171)])) _
  obtain ⟨v175, hv175⟩ : ∃ z : Int32, z = (if v171 = (0 : Int32) then (0 : Int32) else (if v173 < (f6 v164) then (0 : Int32) else (1 : Int32))) := ⟨_, rfl⟩
  refine Goes.of (S' := T170.setTop (mkF m 178 #[.val (.int p1), .val (.int p2), .val (.int p3), .val (.ref b134), .val (.int (p2 &&& (127 : Int32))), .val (.long (((p1 &&& (2147483647 : Int32)) - (p1 &&& (2147483647 : Int32)) / (314570 : Int32) * (314570 : Int32)).toInt64)), .second, .val (.int (((314569 : Int64) - (((p1 &&& (2147483647 : Int32)) - (p1 &&& (2147483647 : Int32)) / (314570 : Int32) * (314570 : Int32)).toInt64)).toInt32)), .val (.long LL), .second, .val (.int v162), .val (.int v164), .val (.int v166), .val (.long (f6 v162)), .second, .val (.long (f6 v164)), .second, .val (.long (f6 v166)), .second, .val (.int v171), .val (.long v173), .second, .unset, .unset, .unset, .unset, .unset, .unset, .unset] [(.int v175)])) (fun t k => ?_) ?_
  · by_cases hb176 : v171 = (0 : Int32)
    · refine XS.ifYes X170.here hx rfl (pc0 := 162) (pc' := 177) rfl (hb hby at_162) rfl ((if0 _ _).trans (teq hb176).1) (by decide) (by decide) ?_
      show Steps p.tables e below (T170.setTop (mkF m 177 #[.val (.int p1), .val (.int p2), .val (.int p3), .val (.ref b134), .val (.int (p2 &&& (127 : Int32))), .val (.long (((p1 &&& (2147483647 : Int32)) - (p1 &&& (2147483647 : Int32)) / (314570 : Int32) * (314570 : Int32)).toInt64)), .second, .val (.int (((314569 : Int64) - (((p1 &&& (2147483647 : Int32)) - (p1 &&& (2147483647 : Int32)) / (314570 : Int32) * (314570 : Int32)).toInt64)).toInt32)), .val (.long LL), .second, .val (.int v162), .val (.int v164), .val (.int v166), .val (.long (f6 v162)), .second, .val (.long (f6 v164)), .second, .val (.long (f6 v166)), .second, .val (.int v171), .val (.long v173), .second, .unset, .unset, .unset, .unset, .unset, .unset, .unset] [])) _
      refine XS.iconst X170.here hx rfl (hb hby at_177) ?_
      show Steps p.tables e below (T170.setTop (mkF m 178 #[.val (.int p1), .val (.int p2), .val (.int p3), .val (.ref b134), .val (.int (p2 &&& (127 : Int32))), .val (.long (((p1 &&& (2147483647 : Int32)) - (p1 &&& (2147483647 : Int32)) / (314570 : Int32) * (314570 : Int32)).toInt64)), .second, .val (.int (((314569 : Int64) - (((p1 &&& (2147483647 : Int32)) - (p1 &&& (2147483647 : Int32)) / (314570 : Int32) * (314570 : Int32)).toInt64)).toInt32)), .val (.long LL), .second, .val (.int v162), .val (.int v164), .val (.int v166), .val (.long (f6 v162)), .second, .val (.long (f6 v164)), .second, .val (.long (f6 v166)), .second, .val (.int v171), .val (.long v173), .second, .unset, .unset, .unset, .unset, .unset, .unset, .unset] [(.int (0 : Int32))])) _
      simp only [if_pos hb176] at hv175; subst hv175
      exact k
    · refine XS.ifNo X170.here hx rfl (hb hby at_162) rfl ((if0 _ _).trans (feq hb176).1) ?_
      show Steps p.tables e below (T170.setTop (mkF m 165 #[.val (.int p1), .val (.int p2), .val (.int p3), .val (.ref b134), .val (.int (p2 &&& (127 : Int32))), .val (.long (((p1 &&& (2147483647 : Int32)) - (p1 &&& (2147483647 : Int32)) / (314570 : Int32) * (314570 : Int32)).toInt64)), .second, .val (.int (((314569 : Int64) - (((p1 &&& (2147483647 : Int32)) - (p1 &&& (2147483647 : Int32)) / (314570 : Int32) * (314570 : Int32)).toInt64)).toInt32)), .val (.long LL), .second, .val (.int v162), .val (.int v164), .val (.int v166), .val (.long (f6 v162)), .second, .val (.long (f6 v164)), .second, .val (.long (f6 v166)), .second, .val (.int v171), .val (.long v173), .second, .unset, .unset, .unset, .unset, .unset, .unset, .unset] [])) _
      refine XS.lload X170.here hx rfl (hb hby at_165) rfl ?_
      show Steps p.tables e below (T170.setTop (mkF m 167 #[.val (.int p1), .val (.int p2), .val (.int p3), .val (.ref b134), .val (.int (p2 &&& (127 : Int32))), .val (.long (((p1 &&& (2147483647 : Int32)) - (p1 &&& (2147483647 : Int32)) / (314570 : Int32) * (314570 : Int32)).toInt64)), .second, .val (.int (((314569 : Int64) - (((p1 &&& (2147483647 : Int32)) - (p1 &&& (2147483647 : Int32)) / (314570 : Int32) * (314570 : Int32)).toInt64)).toInt32)), .val (.long LL), .second, .val (.int v162), .val (.int v164), .val (.int v166), .val (.long (f6 v162)), .second, .val (.long (f6 v164)), .second, .val (.long (f6 v166)), .second, .val (.int v171), .val (.long v173), .second, .unset, .unset, .unset, .unset, .unset, .unset, .unset] [(.long (f6 v164))])) _
      refine XS.lload X170.here hx rfl (hb hby at_167) rfl ?_
      show Steps p.tables e below (T170.setTop (mkF m 169 #[.val (.int p1), .val (.int p2), .val (.int p3), .val (.ref b134), .val (.int (p2 &&& (127 : Int32))), .val (.long (((p1 &&& (2147483647 : Int32)) - (p1 &&& (2147483647 : Int32)) / (314570 : Int32) * (314570 : Int32)).toInt64)), .second, .val (.int (((314569 : Int64) - (((p1 &&& (2147483647 : Int32)) - (p1 &&& (2147483647 : Int32)) / (314570 : Int32) * (314570 : Int32)).toInt64)).toInt32)), .val (.long LL), .second, .val (.int v162), .val (.int v164), .val (.int v166), .val (.long (f6 v162)), .second, .val (.long (f6 v164)), .second, .val (.long (f6 v166)), .second, .val (.int v171), .val (.long v173), .second, .unset, .unset, .unset, .unset, .unset, .unset, .unset] [(.long v173), (.long (f6 v164))])) _
      refine XS.lcmp X170.here hx rfl (hb hby at_169) rfl ?_
      show Steps p.tables e below (T170.setTop (mkF m 170 #[.val (.int p1), .val (.int p2), .val (.int p3), .val (.ref b134), .val (.int (p2 &&& (127 : Int32))), .val (.long (((p1 &&& (2147483647 : Int32)) - (p1 &&& (2147483647 : Int32)) / (314570 : Int32) * (314570 : Int32)).toInt64)), .second, .val (.int (((314569 : Int64) - (((p1 &&& (2147483647 : Int32)) - (p1 &&& (2147483647 : Int32)) / (314570 : Int32) * (314570 : Int32)).toInt64)).toInt32)), .val (.long LL), .second, .val (.int v162), .val (.int v164), .val (.int v166), .val (.long (f6 v162)), .second, .val (.long (f6 v164)), .second, .val (.long (f6 v166)), .second, .val (.int v171), .val (.long v173), .second, .unset, .unset, .unset, .unset, .unset, .unset, .unset] [(.int (lcmpW (f6 v164) v173))])) _
      by_cases hb177 : v173 < (f6 v164)
      · refine XS.ifYes X170.here hx rfl (pc0 := 170) (pc' := 177) rfl (hb hby at_170) rfl ((if0 _ _).trans (tlt ((lw_gt _ _).mpr hb177)).2.2.1) (by decide) (by decide) ?_
        show Steps p.tables e below (T170.setTop (mkF m 177 #[.val (.int p1), .val (.int p2), .val (.int p3), .val (.ref b134), .val (.int (p2 &&& (127 : Int32))), .val (.long (((p1 &&& (2147483647 : Int32)) - (p1 &&& (2147483647 : Int32)) / (314570 : Int32) * (314570 : Int32)).toInt64)), .second, .val (.int (((314569 : Int64) - (((p1 &&& (2147483647 : Int32)) - (p1 &&& (2147483647 : Int32)) / (314570 : Int32) * (314570 : Int32)).toInt64)).toInt32)), .val (.long LL), .second, .val (.int v162), .val (.int v164), .val (.int v166), .val (.long (f6 v162)), .second, .val (.long (f6 v164)), .second, .val (.long (f6 v166)), .second, .val (.int v171), .val (.long v173), .second, .unset, .unset, .unset, .unset, .unset, .unset, .unset] [])) _
        refine XS.iconst X170.here hx rfl (hb hby at_177) ?_
        show Steps p.tables e below (T170.setTop (mkF m 178 #[.val (.int p1), .val (.int p2), .val (.int p3), .val (.ref b134), .val (.int (p2 &&& (127 : Int32))), .val (.long (((p1 &&& (2147483647 : Int32)) - (p1 &&& (2147483647 : Int32)) / (314570 : Int32) * (314570 : Int32)).toInt64)), .second, .val (.int (((314569 : Int64) - (((p1 &&& (2147483647 : Int32)) - (p1 &&& (2147483647 : Int32)) / (314570 : Int32) * (314570 : Int32)).toInt64)).toInt32)), .val (.long LL), .second, .val (.int v162), .val (.int v164), .val (.int v166), .val (.long (f6 v162)), .second, .val (.long (f6 v164)), .second, .val (.long (f6 v166)), .second, .val (.int v171), .val (.long v173), .second, .unset, .unset, .unset, .unset, .unset, .unset, .unset] [(.int (0 : Int32))])) _
        simp only [if_neg hb176, if_pos hb177] at hv175; subst hv175
        exact k
      · refine XS.ifNo X170.here hx rfl (hb hby at_170) rfl ((if0 _ _).trans (flt (mt (lw_gt _ _).mp hb177)).2.2.1) ?_
        show Steps p.tables e below (T170.setTop (mkF m 173 #[.val (.int p1), .val (.int p2), .val (.int p3), .val (.ref b134), .val (.int (p2 &&& (127 : Int32))), .val (.long (((p1 &&& (2147483647 : Int32)) - (p1 &&& (2147483647 : Int32)) / (314570 : Int32) * (314570 : Int32)).toInt64)), .second, .val (.int (((314569 : Int64) - (((p1 &&& (2147483647 : Int32)) - (p1 &&& (2147483647 : Int32)) / (314570 : Int32) * (314570 : Int32)).toInt64)).toInt32)), .val (.long LL), .second, .val (.int v162), .val (.int v164), .val (.int v166), .val (.long (f6 v162)), .second, .val (.long (f6 v164)), .second, .val (.long (f6 v166)), .second, .val (.int v171), .val (.long v173), .second, .unset, .unset, .unset, .unset, .unset, .unset, .unset] [])) _
        refine XS.iconst X170.here hx rfl (hb hby at_173) ?_
        show Steps p.tables e below (T170.setTop (mkF m 174 #[.val (.int p1), .val (.int p2), .val (.int p3), .val (.ref b134), .val (.int (p2 &&& (127 : Int32))), .val (.long (((p1 &&& (2147483647 : Int32)) - (p1 &&& (2147483647 : Int32)) / (314570 : Int32) * (314570 : Int32)).toInt64)), .second, .val (.int (((314569 : Int64) - (((p1 &&& (2147483647 : Int32)) - (p1 &&& (2147483647 : Int32)) / (314570 : Int32) * (314570 : Int32)).toInt64)).toInt32)), .val (.long LL), .second, .val (.int v162), .val (.int v164), .val (.int v166), .val (.long (f6 v162)), .second, .val (.long (f6 v164)), .second, .val (.long (f6 v166)), .second, .val (.int v171), .val (.long v173), .second, .unset, .unset, .unset, .unset, .unset, .unset, .unset] [(.int (1 : Int32))])) _
        refine XS.goto X170.here hx rfl (pc0 := 174) (pc' := 178) rfl (hb hby at_174) (by decide) (by decide) ?_
        show Steps p.tables e below (T170.setTop (mkF m 178 #[.val (.int p1), .val (.int p2), .val (.int p3), .val (.ref b134), .val (.int (p2 &&& (127 : Int32))), .val (.long (((p1 &&& (2147483647 : Int32)) - (p1 &&& (2147483647 : Int32)) / (314570 : Int32) * (314570 : Int32)).toInt64)), .second, .val (.int (((314569 : Int64) - (((p1 &&& (2147483647 : Int32)) - (p1 &&& (2147483647 : Int32)) / (314570 : Int32) * (314570 : Int32)).toInt64)).toInt32)), .val (.long LL), .second, .val (.int v162), .val (.int v164), .val (.int v166), .val (.long (f6 v162)), .second, .val (.long (f6 v164)), .second, .val (.long (f6 v166)), .second, .val (.int v171), .val (.long v173), .second, .unset, .unset, .unset, .unset, .unset, .unset, .unset] [(.int (1 : Int32))])) _
        simp only [if_neg hb176, if_neg hb177] at hv175; subst hv175
        exact k
  show Goes p e below (T170.setTop (mkF m 178 #[.val (.int p1), .val (.int p2), .val (.int p3), .val (.ref b134), .val (.int (p2 &&& (127 : Int32))), .val (.long (((p1 &&& (2147483647 : Int32)) - (p1 &&& (2147483647 : Int32)) / (314570 : Int32) * (314570 : Int32)).toInt64)), .second, .val (.int (((314569 : Int64) - (((p1 &&& (2147483647 : Int32)) - (p1 &&& (2147483647 : Int32)) / (314570 : Int32) * (314570 : Int32)).toInt64)).toInt32)), .val (.long LL), .second, .val (.int v162), .val (.int v164), .val (.int v166), .val (.long (f6 v162)), .second, .val (.long (f6 v164)), .second, .val (.long (f6 v166)), .second, .val (.int v171), .val (.long v173), .second, .unset, .unset, .unset, .unset, .unset, .unset, .unset] [(.int v175)])) _
  refine Goes.of (fun t k => XS.istore X170.here hx rfl (hb hby at_178) rfl (l' := #[.val (.int p1), .val (.int p2), .val (.int p3), .val (.ref b134), .val (.int (p2 &&& (127 : Int32))), .val (.long (((p1 &&& (2147483647 : Int32)) - (p1 &&& (2147483647 : Int32)) / (314570 : Int32) * (314570 : Int32)).toInt64)), .second, .val (.int (((314569 : Int64) - (((p1 &&& (2147483647 : Int32)) - (p1 &&& (2147483647 : Int32)) / (314570 : Int32) * (314570 : Int32)).toInt64)).toInt32)), .val (.long LL), .second, .val (.int v162), .val (.int v164), .val (.int v166), .val (.long (f6 v162)), .second, .val (.long (f6 v164)), .second, .val (.long (f6 v166)), .second, .val (.int v171), .val (.long v173), .second, .val (.int v175), .unset, .unset, .unset, .unset, .unset, .unset]) rfl k) ?_
  show Goes p e below (T170.setTop (mkF m 180 #[.val (.int p1), .val (.int p2), .val (.int p3), .val (.ref b134), .val (.int (p2 &&& (127 : Int32))), .val (.long (((p1 &&& (2147483647 : Int32)) - (p1 &&& (2147483647 : Int32)) / (314570 : Int32) * (314570 : Int32)).toInt64)), .second, .val (.int (((314569 : Int64) - (((p1 &&& (2147483647 : Int32)) - (p1 &&& (2147483647 : Int32)) / (314570 : Int32) * (314570 : Int32)).toInt64)).toInt32)), .val (.long LL), .second, .val (.int v162), .val (.int v164), .val (.int v166), .val (.long (f6 v162)), .second, .val (.long (f6 v164)), .second, .val (.long (f6 v166)), .second, .val (.int v171), .val (.long v173), .second, .val (.int v175), .unset, .unset, .unset, .unset, .unset, .unset] [])) _
  refine Goes.of (fun t k => XS.lload X170.here hx rfl (hb hby at_180) rfl k) ?_
  show Goes p e below (T170.setTop (mkF m 182 #[.val (.int p1), .val (.int p2), .val (.int p3), .val (.ref b134), .val (.int (p2 &&& (127 : Int32))), .val (.long (((p1 &&& (2147483647 : Int32)) - (p1 &&& (2147483647 : Int32)) / (314570 : Int32) * (314570 : Int32)).toInt64)), .second, .val (.int (((314569 : Int64) - (((p1 &&& (2147483647 : Int32)) - (p1 &&& (2147483647 : Int32)) / (314570 : Int32) * (314570 : Int32)).toInt64)).toInt32)), .val (.long LL), .second, .val (.int v162), .val (.int v164), .val (.int v166), .val (.long (f6 v162)), .second, .val (.long (f6 v164)), .second, .val (.long (f6 v166)), .second, .val (.int v171), .val (.long v173), .second, .val (.int v175), .unset, .unset, .unset, .unset, .unset, .unset] [(.long v173)])) _
  refine Goes.of (fun t k => XS.lstore X170.here hx rfl (hb hby at_182) rfl (l' := #[.val (.int p1), .val (.int p2), .val (.int p3), .val (.ref b134), .val (.int (p2 &&& (127 : Int32))), .val (.long (((p1 &&& (2147483647 : Int32)) - (p1 &&& (2147483647 : Int32)) / (314570 : Int32) * (314570 : Int32)).toInt64)), .second, .val (.int (((314569 : Int64) - (((p1 &&& (2147483647 : Int32)) - (p1 &&& (2147483647 : Int32)) / (314570 : Int32) * (314570 : Int32)).toInt64)).toInt32)), .val (.long LL), .second, .val (.int v162), .val (.int v164), .val (.int v166), .val (.long (f6 v162)), .second, .val (.long (f6 v164)), .second, .val (.long (f6 v166)), .second, .val (.int v171), .val (.long v173), .second, .val (.int v175), .val (.long v173), .second, .unset, .unset, .unset, .unset]) rfl k) ?_
  show Goes p e below (T170.setTop (mkF m 184 #[.val (.int p1), .val (.int p2), .val (.int p3), .val (.ref b134), .val (.int (p2 &&& (127 : Int32))), .val (.long (((p1 &&& (2147483647 : Int32)) - (p1 &&& (2147483647 : Int32)) / (314570 : Int32) * (314570 : Int32)).toInt64)), .second, .val (.int (((314569 : Int64) - (((p1 &&& (2147483647 : Int32)) - (p1 &&& (2147483647 : Int32)) / (314570 : Int32) * (314570 : Int32)).toInt64)).toInt32)), .val (.long LL), .second, .val (.int v162), .val (.int v164), .val (.int v166), .val (.long (f6 v162)), .second, .val (.long (f6 v164)), .second, .val (.long (f6 v166)), .second, .val (.int v171), .val (.long v173), .second, .val (.int v175), .val (.long v173), .second, .unset, .unset, .unset, .unset] [])) _
  refine Goes.of (fun t k => XS.iload X170.here hx rfl (hb hby at_184) rfl k) ?_
  show Goes p e below (T170.setTop (mkF m 186 #[.val (.int p1), .val (.int p2), .val (.int p3), .val (.ref b134), .val (.int (p2 &&& (127 : Int32))), .val (.long (((p1 &&& (2147483647 : Int32)) - (p1 &&& (2147483647 : Int32)) / (314570 : Int32) * (314570 : Int32)).toInt64)), .second, .val (.int (((314569 : Int64) - (((p1 &&& (2147483647 : Int32)) - (p1 &&& (2147483647 : Int32)) / (314570 : Int32) * (314570 : Int32)).toInt64)).toInt32)), .val (.long LL), .second, .val (.int v162), .val (.int v164), .val (.int v166), .val (.long (f6 v162)), .second, .val (.long (f6 v164)), .second, .val (.long (f6 v166)), .second, .val (.int v171), .val (.long v173), .second, .val (.int v175), .val (.long v173), .second, .unset, .unset, .unset, .unset] [(.int v175)])) _
  obtain ⟨v178, hv178⟩ : ∃ z : Int64, z = (if v175 = (0 : Int32) then v173 else (v173 - (f6 v164))) := ⟨_, rfl⟩
  refine Goes.of (S' := T170.setTop (mkF m 196 #[.val (.int p1), .val (.int p2), .val (.int p3), .val (.ref b134), .val (.int (p2 &&& (127 : Int32))), .val (.long (((p1 &&& (2147483647 : Int32)) - (p1 &&& (2147483647 : Int32)) / (314570 : Int32) * (314570 : Int32)).toInt64)), .second, .val (.int (((314569 : Int64) - (((p1 &&& (2147483647 : Int32)) - (p1 &&& (2147483647 : Int32)) / (314570 : Int32) * (314570 : Int32)).toInt64)).toInt32)), .val (.long LL), .second, .val (.int v162), .val (.int v164), .val (.int v166), .val (.long (f6 v162)), .second, .val (.long (f6 v164)), .second, .val (.long (f6 v166)), .second, .val (.int v171), .val (.long v173), .second, .val (.int v175), .val (.long v178), .second, .unset, .unset, .unset, .unset] [])) (fun t k => ?_) ?_
  · by_cases hb179 : v175 = (0 : Int32)
    · refine XS.ifYes X170.here hx rfl (pc0 := 186) (pc' := 196) rfl (hb hby at_186) rfl ((if0 _ _).trans (teq hb179).1) (by decide) (by decide) ?_
      show Steps p.tables e below (T170.setTop (mkF m 196 #[.val (.int p1), .val (.int p2), .val (.int p3), .val (.ref b134), .val (.int (p2 &&& (127 : Int32))), .val (.long (((p1 &&& (2147483647 : Int32)) - (p1 &&& (2147483647 : Int32)) / (314570 : Int32) * (314570 : Int32)).toInt64)), .second, .val (.int (((314569 : Int64) - (((p1 &&& (2147483647 : Int32)) - (p1 &&& (2147483647 : Int32)) / (314570 : Int32) * (314570 : Int32)).toInt64)).toInt32)), .val (.long LL), .second, .val (.int v162), .val (.int v164), .val (.int v166), .val (.long (f6 v162)), .second, .val (.long (f6 v164)), .second, .val (.long (f6 v166)), .second, .val (.int v171), .val (.long v173), .second, .val (.int v175), .val (.long v173), .second, .unset, .unset, .unset, .unset] [])) _
      simp only [if_pos hb179] at hv178; subst hv178
      exact k
    · refine XS.ifNo X170.here hx rfl (hb hby at_186) rfl ((if0 _ _).trans (feq hb179).1) ?_
      show Steps p.tables e below (T170.setTop (mkF m 189 #[.val (.int p1), .val (.int p2), .val (.int p3), .val (.ref b134), .val (.int (p2 &&& (127 : Int32))), .val (.long (((p1 &&& (2147483647 : Int32)) - (p1 &&& (2147483647 : Int32)) / (314570 : Int32) * (314570 : Int32)).toInt64)), .second, .val (.int (((314569 : Int64) - (((p1 &&& (2147483647 : Int32)) - (p1 &&& (2147483647 : Int32)) / (314570 : Int32) * (314570 : Int32)).toInt64)).toInt32)), .val (.long LL), .second, .val (.int v162), .val (.int v164), .val (.int v166), .val (.long (f6 v162)), .second, .val (.long (f6 v164)), .second, .val (.long (f6 v166)), .second, .val (.int v171), .val (.long v173), .second, .val (.int v175), .val (.long v173), .second, .unset, .unset, .unset, .unset] [])) _
      refine XS.lload X170.here hx rfl (hb hby at_189) rfl ?_
      show Steps p.tables e below (T170.setTop (mkF m 191 #[.val (.int p1), .val (.int p2), .val (.int p3), .val (.ref b134), .val (.int (p2 &&& (127 : Int32))), .val (.long (((p1 &&& (2147483647 : Int32)) - (p1 &&& (2147483647 : Int32)) / (314570 : Int32) * (314570 : Int32)).toInt64)), .second, .val (.int (((314569 : Int64) - (((p1 &&& (2147483647 : Int32)) - (p1 &&& (2147483647 : Int32)) / (314570 : Int32) * (314570 : Int32)).toInt64)).toInt32)), .val (.long LL), .second, .val (.int v162), .val (.int v164), .val (.int v166), .val (.long (f6 v162)), .second, .val (.long (f6 v164)), .second, .val (.long (f6 v166)), .second, .val (.int v171), .val (.long v173), .second, .val (.int v175), .val (.long v173), .second, .unset, .unset, .unset, .unset] [(.long v173)])) _
      refine XS.lload X170.here hx rfl (hb hby at_191) rfl ?_
      show Steps p.tables e below (T170.setTop (mkF m 193 #[.val (.int p1), .val (.int p2), .val (.int p3), .val (.ref b134), .val (.int (p2 &&& (127 : Int32))), .val (.long (((p1 &&& (2147483647 : Int32)) - (p1 &&& (2147483647 : Int32)) / (314570 : Int32) * (314570 : Int32)).toInt64)), .second, .val (.int (((314569 : Int64) - (((p1 &&& (2147483647 : Int32)) - (p1 &&& (2147483647 : Int32)) / (314570 : Int32) * (314570 : Int32)).toInt64)).toInt32)), .val (.long LL), .second, .val (.int v162), .val (.int v164), .val (.int v166), .val (.long (f6 v162)), .second, .val (.long (f6 v164)), .second, .val (.long (f6 v166)), .second, .val (.int v171), .val (.long v173), .second, .val (.int v175), .val (.long v173), .second, .unset, .unset, .unset, .unset] [(.long (f6 v164)), (.long v173)])) _
      refine XS.lsub X170.here hx rfl (hb hby at_193) rfl ?_
      show Steps p.tables e below (T170.setTop (mkF m 194 #[.val (.int p1), .val (.int p2), .val (.int p3), .val (.ref b134), .val (.int (p2 &&& (127 : Int32))), .val (.long (((p1 &&& (2147483647 : Int32)) - (p1 &&& (2147483647 : Int32)) / (314570 : Int32) * (314570 : Int32)).toInt64)), .second, .val (.int (((314569 : Int64) - (((p1 &&& (2147483647 : Int32)) - (p1 &&& (2147483647 : Int32)) / (314570 : Int32) * (314570 : Int32)).toInt64)).toInt32)), .val (.long LL), .second, .val (.int v162), .val (.int v164), .val (.int v166), .val (.long (f6 v162)), .second, .val (.long (f6 v164)), .second, .val (.long (f6 v166)), .second, .val (.int v171), .val (.long v173), .second, .val (.int v175), .val (.long v173), .second, .unset, .unset, .unset, .unset] [(.long (v173 - (f6 v164)))])) _
      refine XS.lstore X170.here hx rfl (hb hby at_194) rfl (l' := #[.val (.int p1), .val (.int p2), .val (.int p3), .val (.ref b134), .val (.int (p2 &&& (127 : Int32))), .val (.long (((p1 &&& (2147483647 : Int32)) - (p1 &&& (2147483647 : Int32)) / (314570 : Int32) * (314570 : Int32)).toInt64)), .second, .val (.int (((314569 : Int64) - (((p1 &&& (2147483647 : Int32)) - (p1 &&& (2147483647 : Int32)) / (314570 : Int32) * (314570 : Int32)).toInt64)).toInt32)), .val (.long LL), .second, .val (.int v162), .val (.int v164), .val (.int v166), .val (.long (f6 v162)), .second, .val (.long (f6 v164)), .second, .val (.long (f6 v166)), .second, .val (.int v171), .val (.long v173), .second, .val (.int v175), .val (.long (v173 - (f6 v164))), .second, .unset, .unset, .unset, .unset]) rfl ?_
      show Steps p.tables e below (T170.setTop (mkF m 196 #[.val (.int p1), .val (.int p2), .val (.int p3), .val (.ref b134), .val (.int (p2 &&& (127 : Int32))), .val (.long (((p1 &&& (2147483647 : Int32)) - (p1 &&& (2147483647 : Int32)) / (314570 : Int32) * (314570 : Int32)).toInt64)), .second, .val (.int (((314569 : Int64) - (((p1 &&& (2147483647 : Int32)) - (p1 &&& (2147483647 : Int32)) / (314570 : Int32) * (314570 : Int32)).toInt64)).toInt32)), .val (.long LL), .second, .val (.int v162), .val (.int v164), .val (.int v166), .val (.long (f6 v162)), .second, .val (.long (f6 v164)), .second, .val (.long (f6 v166)), .second, .val (.int v171), .val (.long v173), .second, .val (.int v175), .val (.long (v173 - (f6 v164))), .second, .unset, .unset, .unset, .unset] [])) _
      simp only [if_neg hb179] at hv178; subst hv178
      exact k
  show Goes p e below (T170.setTop (mkF m 196 #[.val (.int p1), .val (.int p2), .val (.int p3), .val (.ref b134), .val (.int (p2 &&& (127 : Int32))), .val (.long (((p1 &&& (2147483647 : Int32)) - (p1 &&& (2147483647 : Int32)) / (314570 : Int32) * (314570 : Int32)).toInt64)), .second, .val (.int (((314569 : Int64) - (((p1 &&& (2147483647 : Int32)) - (p1 &&& (2147483647 : Int32)) / (314570 : Int32) * (314570 : Int32)).toInt64)).toInt32)), .val (.long LL), .second, .val (.int v162), .val (.int v164), .val (.int v166), .val (.long (f6 v162)), .second, .val (.long (f6 v164)), .second, .val (.long (f6 v166)), .second, .val (.int v171), .val (.long v173), .second, .val (.int v175), .val (.long v178), .second, .unset, .unset, .unset, .unset] [])) _
  refine Goes.of (fun t k => XS.iload X170.here hx rfl (hb hby at_196) rfl k) ?_
  show Goes p e below (T170.setTop (mkF m 198 #[.val (.int p1), .val (.int p2), .val (.int p3), .val (.ref b134), .val (.int (p2 &&& (127 : Int32))), .val (.long (((p1 &&& (2147483647 : Int32)) - (p1 &&& (2147483647 : Int32)) / (314570 : Int32) * (314570 : Int32)).toInt64)), .second, .val (.int (((314569 : Int64) - (((p1 &&& (2147483647 : Int32)) - (p1 &&& (2147483647 : Int32)) / (314570 : Int32) * (314570 : Int32)).toInt64)).toInt32)), .val (.long LL), .second, .val (.int v162), .val (.int v164), .val (.int v166), .val (.long (f6 v162)), .second, .val (.long (f6 v164)), .second, .val (.long (f6 v166)), .second, .val (.int v171), .val (.long v173), .second, .val (.int v175), .val (.long v178), .second, .unset, .unset, .unset, .unset] [(.int v175)])) _
  obtain ⟨v180, hv180⟩ : ∃ z : Int32, z = (if v175 = (0 : Int32) then (0 : Int32) else (if v178 < (f6 v166) then (0 : Int32) else (1 : Int32))) := ⟨_, rfl⟩
  refine Goes.of (S' := T170.setTop (mkF m 214 #[.val (.int p1), .val (.int p2), .val (.int p3), .val (.ref b134), .val (.int (p2 &&& (127 : Int32))), .val (.long (((p1 &&& (2147483647 : Int32)) - (p1 &&& (2147483647 : Int32)) / (314570 : Int32) * (314570 : Int32)).toInt64)), .second, .val (.int (((314569 : Int64) - (((p1 &&& (2147483647 : Int32)) - (p1 &&& (2147483647 : Int32)) / (314570 : Int32) * (314570 : Int32)).toInt64)).toInt32)), .val (.long LL), .second, .val (.int v162), .val (.int v164), .val (.int v166), .val (.long (f6 v162)), .second, .val (.long (f6 v164)), .second, .val (.long (f6 v166)), .second, .val (.int v171), .val (.long v173), .second, .val (.int v175), .val (.long v178), .second, .unset, .unset, .unset, .unset] [(.int v180)])) (fun t k => ?_) ?_
  · by_cases hb181 : v175 = (0 : Int32)
    · refine XS.ifYes X170.here hx rfl (pc0 := 198) (pc' := 213) rfl (hb hby at_198) rfl ((if0 _ _).trans (teq hb181).1) (by decide) (by decide) ?_
      show Steps p.tables e below (T170.setTop (mkF m 213 #[.val (.int p1), .val (.int p2), .val (.int p3), .val (.ref b134), .val (.int (p2 &&& (127 : Int32))), .val (.long (((p1 &&& (2147483647 : Int32)) - (p1 &&& (2147483647 : Int32)) / (314570 : Int32) * (314570 : Int32)).toInt64)), .second, .val (.int (((314569 : Int64) - (((p1 &&& (2147483647 : Int32)) - (p1 &&& (2147483647 : Int32)) / (314570 : Int32) * (314570 : Int32)).toInt64)).toInt32)), .val (.long LL), .second, .val (.int v162), .val (.int v164), .val (.int v166), .val (.long (f6 v162)), .second, .val (.long (f6 v164)), .second, .val (.long (f6 v166)), .second, .val (.int v171), .val (.long v173), .second, .val (.int v175), .val (.long v178), .second, .unset, .unset, .unset, .unset] [])) _
      refine XS.iconst X170.here hx rfl (hb hby at_213) ?_
      show Steps p.tables e below (T170.setTop (mkF m 214 #[.val (.int p1), .val (.int p2), .val (.int p3), .val (.ref b134), .val (.int (p2 &&& (127 : Int32))), .val (.long (((p1 &&& (2147483647 : Int32)) - (p1 &&& (2147483647 : Int32)) / (314570 : Int32) * (314570 : Int32)).toInt64)), .second, .val (.int (((314569 : Int64) - (((p1 &&& (2147483647 : Int32)) - (p1 &&& (2147483647 : Int32)) / (314570 : Int32) * (314570 : Int32)).toInt64)).toInt32)), .val (.long LL), .second, .val (.int v162), .val (.int v164), .val (.int v166), .val (.long (f6 v162)), .second, .val (.long (f6 v164)), .second, .val (.long (f6 v166)), .second, .val (.int v171), .val (.long v173), .second, .val (.int v175), .val (.long v178), .second, .unset, .unset, .unset, .unset] [(.int (0 : Int32))])) _
      simp only [if_pos hb181] at hv180; subst hv180
      exact k
    · refine XS.ifNo X170.here hx rfl (hb hby at_198) rfl ((if0 _ _).trans (feq hb181).1) ?_
      show Steps p.tables e below (T170.setTop (mkF m 201 #[.val (.int p1), .val (.int p2), .val (.int p3), .val (.ref b134), .val (.int (p2 &&& (127 : Int32))), .val (.long (((p1 &&& (2147483647 : Int32)) - (p1 &&& (2147483647 : Int32)) / (314570 : Int32) * (314570 : Int32)).toInt64)), .second, .val (.int (((314569 : Int64) - (((p1 &&& (2147483647 : Int32)) - (p1 &&& (2147483647 : Int32)) / (314570 : Int32) * (314570 : Int32)).toInt64)).toInt32)), .val (.long LL), .second, .val (.int v162), .val (.int v164), .val (.int v166), .val (.long (f6 v162)), .second, .val (.long (f6 v164)), .second, .val (.long (f6 v166)), .second, .val (.int v171), .val (.long v173), .second, .val (.int v175), .val (.long v178), .second, .unset, .unset, .unset, .unset] [])) _
      refine XS.lload X170.here hx rfl (hb hby at_201) rfl ?_
      show Steps p.tables e below (T170.setTop (mkF m 203 #[.val (.int p1), .val (.int p2), .val (.int p3), .val (.ref b134), .val (.int (p2 &&& (127 : Int32))), .val (.long (((p1 &&& (2147483647 : Int32)) - (p1 &&& (2147483647 : Int32)) / (314570 : Int32) * (314570 : Int32)).toInt64)), .second, .val (.int (((314569 : Int64) - (((p1 &&& (2147483647 : Int32)) - (p1 &&& (2147483647 : Int32)) / (314570 : Int32) * (314570 : Int32)).toInt64)).toInt32)), .val (.long LL), .second, .val (.int v162), .val (.int v164), .val (.int v166), .val (.long (f6 v162)), .second, .val (.long (f6 v164)), .second, .val (.long (f6 v166)), .second, .val (.int v171), .val (.long v173), .second, .val (.int v175), .val (.long v178), .second, .unset, .unset, .unset, .unset] [(.long (f6 v166))])) _
      refine XS.lload X170.here hx rfl (hb hby at_203) rfl ?_
      show Steps p.tables e below (T170.setTop (mkF m 205 #[.val (.int p1), .val (.int p2), .val (.int p3), .val (.ref b134), .val (.int (p2 &&& (127 : Int32))), .val (.long (((p1 &&& (2147483647 : Int32)) - (p1 &&& (2147483647 : Int32)) / (314570 : Int32) * (314570 : Int32)).toInt64)), .second, .val (.int (((314569 : Int64) - (((p1 &&& (2147483647 : Int32)) - (p1 &&& (2147483647 : Int32)) / (314570 : Int32) * (314570 : Int32)).toInt64)).toInt32)), .val (.long LL), .second, .val (.int v162), .val (.int v164), .val (.int v166), .val (.long (f6 v162)), .second, .val (.long (f6 v164)), .second, .val (.long (f6 v166)), .second, .val (.int v171), .val (.long v173), .second, .val (.int v175), .val (.long v178), .second, .unset, .unset, .unset, .unset] [(.long v178), (.long (f6 v166))])) _
      refine XS.lcmp X170.here hx rfl (hb hby at_205) rfl ?_
      show Steps p.tables e below (T170.setTop (mkF m 206 #[.val (.int p1), .val (.int p2), .val (.int p3), .val (.ref b134), .val (.int (p2 &&& (127 : Int32))), .val (.long (((p1 &&& (2147483647 : Int32)) - (p1 &&& (2147483647 : Int32)) / (314570 : Int32) * (314570 : Int32)).toInt64)), .second, .val (.int (((314569 : Int64) - (((p1 &&& (2147483647 : Int32)) - (p1 &&& (2147483647 : Int32)) / (314570 : Int32) * (314570 : Int32)).toInt64)).toInt32)), .val (.long LL), .second, .val (.int v162), .val (.int v164), .val (.int v166), .val (.long (f6 v162)), .second, .val (.long (f6 v164)), .second, .val (.long (f6 v166)), .second, .val (.int v171), .val (.long v173), .second, .val (.int v175), .val (.long v178), .second, .unset, .unset, .unset, .unset] [(.int (lcmpW (f6 v166) v178))])) _
      by_cases hb182 : v178 < (f6 v166)
      · refine XS.ifYes X170.here hx rfl (pc0 := 206) (pc' := 213) rfl (hb hby at_206) rfl ((if0 _ _).trans (tlt ((lw_gt _ _).mpr hb182)).2.2.1) (by decide) (by decide) ?_
        show Steps p.tables e below (T170.setTop (mkF m 213 #[.val (.int p1), .val (.int p2), .val (.int p3), .val (.ref b134), .val (.int (p2 &&& (127 : Int32))), .val (.long (((p1 &&& (2147483647 : Int32)) - (p1 &&& (2147483647 : Int32)) / (314570 : Int32) * (314570 : Int32)).toInt64)), .second, .val (.int (((314569 : Int64) - (((p1 &&& (2147483647 : Int32)) - (p1 &&& (2147483647 : Int32)) / (314570 : Int32) * (314570 : Int32)).toInt64)).toInt32)), .val (.long LL), .second, .val (.int v162), .val (.int v164), .val (.int v166), .val (.long (f6 v162)), .second, .val (.long (f6 v164)), .second, .val (.long (f6 v166)), .second, .val (.int v171), .val (.long v173), .second, .val (.int v175), .val (.long v178), .second, .unset, .unset, .unset, .unset] [])) _
        refine XS.iconst X170.here hx rfl (hb hby at_213) ?_
        show Steps p.tables e below (T170.setTop (mkF m 214 #[.val (.int p1), .val (.int p2), .val (.int p3), .val (.ref b134), .val (.int (p2 &&& (127 : Int32))), .val (.long (((p1 &&& (2147483647 : Int32)) - (p1 &&& (2147483647 : Int32)) / (314570 : Int32) * (314570 : Int32)).toInt64)), .second, .val (.int (((314569 : Int64) - (((p1 &&& (2147483647 : Int32)) - (p1 &&& (2147483647 : Int32)) / (314570 : Int32) * (314570 : Int32)).toInt64)).toInt32)), .val (.long LL), .second, .val (.int v162), .val (.int v164), .val (.int v166), .val (.long (f6 v162)), .second, .val (.long (f6 v164)), .second, .val (.long (f6 v166)), .second, .val (.int v171), .val (.long v173), .second, .val (.int v175), .val (.long v178), .second, .unset, .unset, .unset, .unset] [(.int (0 : Int32))])) _
        simp only [if_neg hb181, if_pos hb182] at hv180; subst hv180
        exact k
      · refine XS.ifNo X170.here hx rfl (hb hby at_206) rfl ((if0 _ _).trans (flt (mt (lw_gt _ _).mp hb182)).2.2.1) ?_
        show Steps p.tables e below (T170.setTop (mkF m 209 #[.val (.int p1), .val (.int p2), .val (.int p3), .val (.ref b134), .val (.int (p2 &&& (127 : Int32))), .val (.long (((p1 &&& (2147483647 : Int32)) - (p1 &&& (2147483647 : Int32)) / (314570 : Int32) * (314570 : Int32)).toInt64)), .second, .val (.int (((314569 : Int64) - (((p1 &&& (2147483647 : Int32)) - (p1 &&& (2147483647 : Int32)) / (314570 : Int32) * (314570 : Int32)).toInt64)).toInt32)), .val (.long LL), .second, .val (.int v162), .val (.int v164), .val (.int v166), .val (.long (f6 v162)), .second, .val (.long (f6 v164)), .second, .val (.long (f6 v166)), .second, .val (.int v171), .val (.long v173), .second, .val (.int v175), .val (.long v178), .second, .unset, .unset, .unset, .unset] [])) _
        refine XS.iconst X170.here hx rfl (hb hby at_209) ?_
        show Steps p.tables e below (T170.setTop (mkF m 210 #[.val (.int p1), .val (.int p2), .val (.int p3), .val (.ref b134), .val (.int (p2 &&& (127 : Int32))), .val (.long (((p1 &&& (2147483647 : Int32)) - (p1 &&& (2147483647 : Int32)) / (314570 : Int32) * (314570 : Int32)).toInt64)), .second, .val (.int (((314569 : Int64) - (((p1 &&& (2147483647 : Int32)) - (p1 &&& (2147483647 : Int32)) / (314570 : Int32) * (314570 : Int32)).toInt64)).toInt32)), .val (.long LL), .second, .val (.int v162), .val (.int v164), .val (.int v166), .val (.long (f6 v162)), .second, .val (.long (f6 v164)), .second, .val (.long (f6 v166)), .second, .val (.int v171), .val (.long v173), .second, .val (.int v175), .val (.long v178), .second, .unset, .unset, .unset, .unset] [(.int (1 : Int32))])) _
        refine XS.goto X170.here hx rfl (pc0 := 210) (pc' := 214) rfl (hb hby at_210) (by decide) (by decide) ?_
        show Steps p.tables e below (T170.setTop (mkF m 214 #[.val (.int p1), .val (.int p2), .val (.int p3), .val (.ref b134), .val (.int (p2 &&& (127 : Int32))), .val (.long (((p1 &&& (2147483647 : Int32)) - (p1 &&& (2147483647 : Int32)) / (314570 : Int32) * (314570 : Int32)).toInt64)), .second, .val (.int (((314569 : Int64) - (((p1 &&& (2147483647 : Int32)) - (p1 &&& (2147483647 : Int32)) / (314570 : Int32) * (314570 : Int32)).toInt64)).toInt32)), .val (.long LL), .second, .val (.int v162), .val (.int v164), .val (.int v166), .val (.long (f6 v162)), .second, .val (.long (f6 v164)), .second, .val (.long (f6 v166)), .second, .val (.int v171), .val (.long v173), .second, .val (.int v175), .val (.long v178), .second, .unset, .unset, .unset, .unset] [(.int (1 : Int32))])) _
        simp only [if_neg hb181, if_neg hb182] at hv180; subst hv180
        exact k
  show Goes p e below (T170.setTop (mkF m 214 #[.val (.int p1), .val (.int p2), .val (.int p3), .val (.ref b134), .val (.int (p2 &&& (127 : Int32))), .val (.long (((p1 &&& (2147483647 : Int32)) - (p1 &&& (2147483647 : Int32)) / (314570 : Int32) * (314570 : Int32)).toInt64)), .second, .val (.int (((314569 : Int64) - (((p1 &&& (2147483647 : Int32)) - (p1 &&& (2147483647 : Int32)) / (314570 : Int32) * (314570 : Int32)).toInt64)).toInt32)), .val (.long LL), .second, .val (.int v162), .val (.int v164), .val (.int v166), .val (.long (f6 v162)), .second, .val (.long (f6 v164)), .second, .val (.long (f6 v166)), .second, .val (.int v171), .val (.long v173), .second, .val (.int v175), .val (.long v178), .second, .unset, .unset, .unset, .unset] [(.int v180)])) _
  refine Goes.of (fun t k => XS.istore X170.here hx rfl (hb hby at_214) rfl (l' := #[.val (.int p1), .val (.int p2), .val (.int p3), .val (.ref b134), .val (.int (p2 &&& (127 : Int32))), .val (.long (((p1 &&& (2147483647 : Int32)) - (p1 &&& (2147483647 : Int32)) / (314570 : Int32) * (314570 : Int32)).toInt64)), .second, .val (.int (((314569 : Int64) - (((p1 &&& (2147483647 : Int32)) - (p1 &&& (2147483647 : Int32)) / (314570 : Int32) * (314570 : Int32)).toInt64)).toInt32)), .val (.long LL), .second, .val (.int v162), .val (.int v164), .val (.int v166), .val (.long (f6 v162)), .second, .val (.long (f6 v164)), .second, .val (.long (f6 v166)), .second, .val (.int v171), .val (.long v173), .second, .val (.int v175), .val (.long v178), .second, .val (.int v180), .unset, .unset, .unset]) rfl k) ?_
  show Goes p e below (T170.setTop (mkF m 216 #[.val (.int p1), .val (.int p2), .val (.int p3), .val (.ref b134), .val (.int (p2 &&& (127 : Int32))), .val (.long (((p1 &&& (2147483647 : Int32)) - (p1 &&& (2147483647 : Int32)) / (314570 : Int32) * (314570 : Int32)).toInt64)), .second, .val (.int (((314569 : Int64) - (((p1 &&& (2147483647 : Int32)) - (p1 &&& (2147483647 : Int32)) / (314570 : Int32) * (314570 : Int32)).toInt64)).toInt32)), .val (.long LL), .second, .val (.int v162), .val (.int v164), .val (.int v166), .val (.long (f6 v162)), .second, .val (.long (f6 v164)), .second, .val (.long (f6 v166)), .second, .val (.int v171), .val (.long v173), .second, .val (.int v175), .val (.long v178), .second, .val (.int v180), .unset, .unset, .unset] [])) _
  refine Goes.of (fun t k => XS.aloadN X170.here hx rfl (hb hby at_216) rfl rfl k) ?_
  show Goes p e below (T170.setTop (mkF m 217 #[.val (.int p1), .val (.int p2), .val (.int p3), .val (.ref b134), .val (.int (p2 &&& (127 : Int32))), .val (.long (((p1 &&& (2147483647 : Int32)) - (p1 &&& (2147483647 : Int32)) / (314570 : Int32) * (314570 : Int32)).toInt64)), .second, .val (.int (((314569 : Int64) - (((p1 &&& (2147483647 : Int32)) - (p1 &&& (2147483647 : Int32)) / (314570 : Int32) * (314570 : Int32)).toInt64)).toInt32)), .val (.long LL), .second, .val (.int v162), .val (.int v164), .val (.int v166), .val (.long (f6 v162)), .second, .val (.long (f6 v164)), .second, .val (.long (f6 v166)), .second, .val (.int v171), .val (.long v173), .second, .val (.int v175), .val (.long v178), .second, .val (.int v180), .unset, .unset, .unset] [(.ref b134)])) _
  refine Goes.of (fun t k => XS.iload X170.here hx rfl (hb hby at_217) rfl k) ?_
  show Goes p e below (T170.setTop (mkF m 219 #[.val (.int p1), .val (.int p2), .val (.int p3), .val (.ref b134), .val (.int (p2 &&& (127 : Int32))), .val (.long (((p1 &&& (2147483647 : Int32)) - (p1 &&& (2147483647 : Int32)) / (314570 : Int32) * (314570 : Int32)).toInt64)), .second, .val (.int (((314569 : Int64) - (((p1 &&& (2147483647 : Int32)) - (p1 &&& (2147483647 : Int32)) / (314570 : Int32) * (314570 : Int32)).toInt64)).toInt32)), .val (.long LL), .second, .val (.int v162), .val (.int v164), .val (.int v166), .val (.long (f6 v162)), .second, .val (.long (f6 v164)), .second, .val (.long (f6 v166)), .second, .val (.int v171), .val (.long v173), .second, .val (.int v175), .val (.long v178), .second, .val (.int v180), .unset, .unset, .unset] [(.int v162), (.ref b134)])) _
  obtain ⟨cq183, kq183, q183a, q183b, q183c⟩ := isOf hZ e170 f157
  obtain ⟨_, _, ⟨T183, L183, k183, n183⟩, -, X183, ⟨Lc183, hQ183, l183, y183, z183⟩, st183⟩ := X170.virtualBack hx (y := (⟨"com/example/bit7/bit7/io/ReadBudget", "takeEntity", "(Z)Z"⟩ : MethodName)) (z := (⟨"com/example/bit7/bit7/io/ReadBudget", "takeEntity", "(Z)Z"⟩ : MethodName)) hown (mvT hZ (hw _ (List.mem_of_getElem? (i := 48) rfl))) (mvT hZ (hw _ (List.mem_of_getElem? (i := 49) rfl))) (notFace_of_selects (args := #[]) (mvT hZ (hw _ (List.mem_of_getElem? (i := 51) rfl)))) (mvT hZ (hw _ (List.mem_of_getElem? (i := 51) rfl))) (mvT hZ (hw _ (List.mem_of_getElem? (i := 50) rfl))) (by decide) (backOf (W := 0) (rm7 l Z a0 hw [] b134 v162 _ _ _ _ T155.heap n0 z156 f157 g135 F155_left F155_fieldsLeft F155_spent F155_entitiesSpent) hZ (hw _ (List.mem_of_getElem? (i := 52) rfl)) (hw _ (List.mem_of_getElem? (i := 2) rfl)) (by decide) (by decide)) q183a q183c (g := (mkF m 219 #[.val (.int p1), .val (.int p2), .val (.int p3), .val (.ref b134), .val (.int (p2 &&& (127 : Int32))), .val (.long (((p1 &&& (2147483647 : Int32)) - (p1 &&& (2147483647 : Int32)) / (314570 : Int32) * (314570 : Int32)).toInt64)), .second, .val (.int (((314569 : Int64) - (((p1 &&& (2147483647 : Int32)) - (p1 &&& (2147483647 : Int32)) / (314570 : Int32) * (314570 : Int32)).toInt64)).toInt32)), .val (.long LL), .second, .val (.int v162), .val (.int v164), .val (.int v166), .val (.long (f6 v162)), .second, .val (.long (f6 v164)), .second, .val (.long (f6 v166)), .second, .val (.int v171), .val (.long v173), .second, .val (.int v175), .val (.long v178), .second, .val (.int v180), .unset, .unset, .unset] [(.int v162), (.ref b134)])) rfl (by rw [hml]; rfl) (Steps.refl _) (argsL := [(.int v162)]) (rest := []) (lenOf pd_7 rfl) rfl (by show 2 * 0 + _ ≤ _; exact Nat.le_of_eq rfl) (hb hby at_219) (fun _ _ => ⟨rfl, e170, (by decide : 1 + 0 ≤ _), (by decide : 4 + 0 ≤ _)⟩)
  dsimp only [Pt.U, Pt.locs, Pt.cells, Pt.slots] at X183 l183 y183 z183 st183 hQ183
  subst l183 y183 z183
  obtain ⟨rfl, N183q, K183, E183, F183_left, F183_fieldsLeft, F183_spent, F183_entitiesSpent⟩ := hQ183
  have N183 := Fr.app N170 N183q
  have z184 : n0 ≤ T183.heap.size := Nat.le_trans z156 K183.1
  have f185 := f157.keep K183
  refine Goes.of (fun t k => st183.trans k) ?_
  show Goes p e below (T183.setTop (mkF m 222 #[.val (.int p1), .val (.int p2), .val (.int p3), .val (.ref b134), .val (.int (p2 &&& (127 : Int32))), .val (.long (((p1 &&& (2147483647 : Int32)) - (p1 &&& (2147483647 : Int32)) / (314570 : Int32) * (314570 : Int32)).toInt64)), .second, .val (.int (((314569 : Int64) - (((p1 &&& (2147483647 : Int32)) - (p1 &&& (2147483647 : Int32)) / (314570 : Int32) * (314570 : Int32)).toInt64)).toInt32)), .val (.long LL), .second, .val (.int v162), .val (.int v164), .val (.int v166), .val (.long (f6 v162)), .second, .val (.long (f6 v164)), .second, .val (.long (f6 v166)), .second, .val (.int v171), .val (.long v173), .second, .val (.int v175), .val (.long v178), .second, .val (.int v180), .unset, .unset, .unset] [(.int (own_r LL (0 : Int32) v162))])) _
  refine Goes.of (fun t k => XS.istore X183.here hx rfl (hb hby at_222) rfl (l' := #[.val (.int p1), .val (.int p2), .val (.int p3), .val (.ref b134), .val (.int (p2 &&& (127 : Int32))), .val (.long (((p1 &&& (2147483647 : Int32)) - (p1 &&& (2147483647 : Int32)) / (314570 : Int32) * (314570 : Int32)).toInt64)), .second, .val (.int (((314569 : Int64) - (((p1 &&& (2147483647 : Int32)) - (p1 &&& (2147483647 : Int32)) / (314570 : Int32) * (314570 : Int32)).toInt64)).toInt32)), .val (.long LL), .second, .val (.int v162), .val (.int v164), .val (.int v166), .val (.long (f6 v162)), .second, .val (.long (f6 v164)), .second, .val (.long (f6 v166)), .second, .val (.int v171), .val (.long v173), .second, .val (.int v175), .val (.long v178), .second, .val (.int v180), .val (.int (own_r LL (0 : Int32) v162)), .unset, .unset]) rfl k) ?_
  show Goes p e below (T183.setTop (mkF m 224 #[.val (.int p1), .val (.int p2), .val (.int p3), .val (.ref b134), .val (.int (p2 &&& (127 : Int32))), .val (.long (((p1 &&& (2147483647 : Int32)) - (p1 &&& (2147483647 : Int32)) / (314570 : Int32) * (314570 : Int32)).toInt64)), .second, .val (.int (((314569 : Int64) - (((p1 &&& (2147483647 : Int32)) - (p1 &&& (2147483647 : Int32)) / (314570 : Int32) * (314570 : Int32)).toInt64)).toInt32)), .val (.long LL), .second, .val (.int v162), .val (.int v164), .val (.int v166), .val (.long (f6 v162)), .second, .val (.long (f6 v164)), .second, .val (.long (f6 v166)), .second, .val (.int v171), .val (.long v173), .second, .val (.int v175), .val (.long v178), .second, .val (.int v180), .val (.int (own_r LL (0 : Int32) v162)), .unset, .unset] [])) _
  refine Goes.of (fun t k => XS.aloadN X183.here hx rfl (hb hby at_224) rfl rfl k) ?_
  show Goes p e below (T183.setTop (mkF m 225 #[.val (.int p1), .val (.int p2), .val (.int p3), .val (.ref b134), .val (.int (p2 &&& (127 : Int32))), .val (.long (((p1 &&& (2147483647 : Int32)) - (p1 &&& (2147483647 : Int32)) / (314570 : Int32) * (314570 : Int32)).toInt64)), .second, .val (.int (((314569 : Int64) - (((p1 &&& (2147483647 : Int32)) - (p1 &&& (2147483647 : Int32)) / (314570 : Int32) * (314570 : Int32)).toInt64)).toInt32)), .val (.long LL), .second, .val (.int v162), .val (.int v164), .val (.int v166), .val (.long (f6 v162)), .second, .val (.long (f6 v164)), .second, .val (.long (f6 v166)), .second, .val (.int v171), .val (.long v173), .second, .val (.int v175), .val (.long v178), .second, .val (.int v180), .val (.int (own_r LL (0 : Int32) v162)), .unset, .unset] [(.ref b134)])) _
  refine Goes.of (fun t k => XS.iload X183.here hx rfl (hb hby at_225) rfl k) ?_
  show Goes p e below (T183.setTop (mkF m 227 #[.val (.int p1), .val (.int p2), .val (.int p3), .val (.ref b134), .val (.int (p2 &&& (127 : Int32))), .val (.long (((p1 &&& (2147483647 : Int32)) - (p1 &&& (2147483647 : Int32)) / (314570 : Int32) * (314570 : Int32)).toInt64)), .second, .val (.int (((314569 : Int64) - (((p1 &&& (2147483647 : Int32)) - (p1 &&& (2147483647 : Int32)) / (314570 : Int32) * (314570 : Int32)).toInt64)).toInt32)), .val (.long LL), .second, .val (.int v162), .val (.int v164), .val (.int v166), .val (.long (f6 v162)), .second, .val (.long (f6 v164)), .second, .val (.long (f6 v166)), .second, .val (.int v171), .val (.long v173), .second, .val (.int v175), .val (.long v178), .second, .val (.int v180), .val (.int (own_r LL (0 : Int32) v162)), .unset, .unset] [(.int v164), (.ref b134)])) _
  obtain ⟨cq190, kq190, q190a, q190b, q190c⟩ := isOf hZ rfl f185
  obtain ⟨_, _, ⟨T190, L190, k190, n190⟩, -, X190, ⟨Lc190, hQ190, l190, y190, z190⟩, st190⟩ := X183.virtualBack hx (y := (⟨"com/example/bit7/bit7/io/ReadBudget", "takeEntity", "(Z)Z"⟩ : MethodName)) (z := (⟨"com/example/bit7/bit7/io/ReadBudget", "takeEntity", "(Z)Z"⟩ : MethodName)) hown (mvT hZ (hw _ (List.mem_of_getElem? (i := 48) rfl))) (mvT hZ (hw _ (List.mem_of_getElem? (i := 49) rfl))) (notFace_of_selects (args := #[]) (mvT hZ (hw _ (List.mem_of_getElem? (i := 51) rfl)))) (mvT hZ (hw _ (List.mem_of_getElem? (i := 51) rfl))) (mvT hZ (hw _ (List.mem_of_getElem? (i := 50) rfl))) (by decide) (backOf (W := 0) (rm7 l Z a0 hw [] b134 v164 _ _ _ _ T183.heap n0 z184 f185 g135 F183_left F183_fieldsLeft F183_spent F183_entitiesSpent) hZ (hw _ (List.mem_of_getElem? (i := 52) rfl)) (hw _ (List.mem_of_getElem? (i := 2) rfl)) (by decide) (by decide)) q190a q190c (g := (mkF m 227 #[.val (.int p1), .val (.int p2), .val (.int p3), .val (.ref b134), .val (.int (p2 &&& (127 : Int32))), .val (.long (((p1 &&& (2147483647 : Int32)) - (p1 &&& (2147483647 : Int32)) / (314570 : Int32) * (314570 : Int32)).toInt64)), .second, .val (.int (((314569 : Int64) - (((p1 &&& (2147483647 : Int32)) - (p1 &&& (2147483647 : Int32)) / (314570 : Int32) * (314570 : Int32)).toInt64)).toInt32)), .val (.long LL), .second, .val (.int v162), .val (.int v164), .val (.int v166), .val (.long (f6 v162)), .second, .val (.long (f6 v164)), .second, .val (.long (f6 v166)), .second, .val (.int v171), .val (.long v173), .second, .val (.int v175), .val (.long v178), .second, .val (.int v180), .val (.int (own_r LL (0 : Int32) v162)), .unset, .unset] [(.int v164), (.ref b134)])) rfl (by rw [hml]; rfl) (Steps.refl _) (argsL := [(.int v164)]) (rest := []) (lenOf pd_7 rfl) rfl (by show 2 * 0 + _ ≤ _; exact Nat.le_of_eq rfl) (hb hby at_227) (fun _ _ => ⟨rfl, rfl, (by decide : 1 + 0 ≤ _), (by decide : 4 + 0 ≤ _)⟩)
  dsimp only [Pt.U, Pt.locs, Pt.cells, Pt.slots] at X190 l190 y190 z190 st190 hQ190
  subst l190 y190 z190
  obtain ⟨rfl, N190q, K190, E190, F190_left, F190_fieldsLeft, F190_spent, F190_entitiesSpent⟩ := hQ190
  have N190 := Fr.app N183 N190q
  have z191 : n0 ≤ T190.heap.size := Nat.le_trans z184 K190.1
  have f192 := f185.keep K190
  refine Goes.of (fun t k => st190.trans k) ?_
  show Goes p e below (T190.setTop (mkF m 230 #[.val (.int p1), .val (.int p2), .val (.int p3), .val (.ref b134), .val (.int (p2 &&& (127 : Int32))), .val (.long (((p1 &&& (2147483647 : Int32)) - (p1 &&& (2147483647 : Int32)) / (314570 : Int32) * (314570 : Int32)).toInt64)), .second, .val (.int (((314569 : Int64) - (((p1 &&& (2147483647 : Int32)) - (p1 &&& (2147483647 : Int32)) / (314570 : Int32) * (314570 : Int32)).toInt64)).toInt32)), .val (.long LL), .second, .val (.int v162), .val (.int v164), .val (.int v166), .val (.long (f6 v162)), .second, .val (.long (f6 v164)), .second, .val (.long (f6 v166)), .second, .val (.int v171), .val (.long v173), .second, .val (.int v175), .val (.long v178), .second, .val (.int v180), .val (.int (own_r LL (0 : Int32) v162)), .unset, .unset] [(.int (own_r (own_l LL (0 : Int32) v162) (own_e LL (0 : Int32) v162) v164))])) _
  refine Goes.of (fun t k => XS.istore X190.here hx rfl (hb hby at_230) rfl (l' := #[.val (.int p1), .val (.int p2), .val (.int p3), .val (.ref b134), .val (.int (p2 &&& (127 : Int32))), .val (.long (((p1 &&& (2147483647 : Int32)) - (p1 &&& (2147483647 : Int32)) / (314570 : Int32) * (314570 : Int32)).toInt64)), .second, .val (.int (((314569 : Int64) - (((p1 &&& (2147483647 : Int32)) - (p1 &&& (2147483647 : Int32)) / (314570 : Int32) * (314570 : Int32)).toInt64)).toInt32)), .val (.long LL), .second, .val (.int v162), .val (.int v164), .val (.int v166), .val (.long (f6 v162)), .second, .val (.long (f6 v164)), .second, .val (.long (f6 v166)), .second, .val (.int v171), .val (.long v173), .second, .val (.int v175), .val (.long v178), .second, .val (.int v180), .val (.int (own_r LL (0 : Int32) v162)), .val (.int (own_r (own_l LL (0 : Int32) v162) (own_e LL (0 : Int32) v162) v164)), .unset]) rfl k) ?_
  show Goes p e below (T190.setTop (mkF m 232 #[.val (.int p1), .val (.int p2), .val (.int p3), .val (.ref b134), .val (.int (p2 &&& (127 : Int32))), .val (.long (((p1 &&& (2147483647 : Int32)) - (p1 &&& (2147483647 : Int32)) / (314570 : Int32) * (314570 : Int32)).toInt64)), .second, .val (.int (((314569 : Int64) - (((p1 &&& (2147483647 : Int32)) - (p1 &&& (2147483647 : Int32)) / (314570 : Int32) * (314570 : Int32)).toInt64)).toInt32)), .val (.long LL), .second, .val (.int v162), .val (.int v164), .val (.int v166), .val (.long (f6 v162)), .second, .val (.long (f6 v164)), .second, .val (.long (f6 v166)), .second, .val (.int v171), .val (.long v173), .second, .val (.int v175), .val (.long v178), .second, .val (.int v180), .val (.int (own_r LL (0 : Int32) v162)), .val (.int (own_r (own_l LL (0 : Int32) v162) (own_e LL (0 : Int32) v162) v164)), .unset] [])) _
  refine Goes.of (fun t k => XS.aloadN X190.here hx rfl (hb hby at_232) rfl rfl k) ?_
  show Goes p e below (T190.setTop (mkF m 233 #[.val (.int p1), .val (.int p2), .val (.int p3), .val (.ref b134), .val (.int (p2 &&& (127 : Int32))), .val (.long (((p1 &&& (2147483647 : Int32)) - (p1 &&& (2147483647 : Int32)) / (314570 : Int32) * (314570 : Int32)).toInt64)), .second, .val (.int (((314569 : Int64) - (((p1 &&& (2147483647 : Int32)) - (p1 &&& (2147483647 : Int32)) / (314570 : Int32) * (314570 : Int32)).toInt64)).toInt32)), .val (.long LL), .second, .val (.int v162), .val (.int v164), .val (.int v166), .val (.long (f6 v162)), .second, .val (.long (f6 v164)), .second, .val (.long (f6 v166)), .second, .val (.int v171), .val (.long v173), .second, .val (.int v175), .val (.long v178), .second, .val (.int v180), .val (.int (own_r LL (0 : Int32) v162)), .val (.int (own_r (own_l LL (0 : Int32) v162) (own_e LL (0 : Int32) v162) v164)), .unset] [(.ref b134)])) _
  refine Goes.of (fun t k => XS.iload X190.here hx rfl (hb hby at_233) rfl k) ?_
  show Goes p e below (T190.setTop (mkF m 235 #[.val (.int p1), .val (.int p2), .val (.int p3), .val (.ref b134), .val (.int (p2 &&& (127 : Int32))), .val (.long (((p1 &&& (2147483647 : Int32)) - (p1 &&& (2147483647 : Int32)) / (314570 : Int32) * (314570 : Int32)).toInt64)), .second, .val (.int (((314569 : Int64) - (((p1 &&& (2147483647 : Int32)) - (p1 &&& (2147483647 : Int32)) / (314570 : Int32) * (314570 : Int32)).toInt64)).toInt32)), .val (.long LL), .second, .val (.int v162), .val (.int v164), .val (.int v166), .val (.long (f6 v162)), .second, .val (.long (f6 v164)), .second, .val (.long (f6 v166)), .second, .val (.int v171), .val (.long v173), .second, .val (.int v175), .val (.long v178), .second, .val (.int v180), .val (.int (own_r LL (0 : Int32) v162)), .val (.int (own_r (own_l LL (0 : Int32) v162) (own_e LL (0 : Int32) v162) v164)), .unset] [(.int v166), (.ref b134)])) _
  obtain ⟨cq197, kq197, q197a, q197b, q197c⟩ := isOf hZ rfl f192
  obtain ⟨_, _, ⟨T197, L197, k197, n197⟩, -, X197, ⟨Lc197, hQ197, l197, y197, z197⟩, st197⟩ := X190.virtualBack hx (y := (⟨"com/example/bit7/bit7/io/ReadBudget", "takeEntity", "(Z)Z"⟩ : MethodName)) (z := (⟨"com/example/bit7/bit7/io/ReadBudget", "takeEntity", "(Z)Z"⟩ : MethodName)) hown (mvT hZ (hw _ (List.mem_of_getElem? (i := 48) rfl))) (mvT hZ (hw _ (List.mem_of_getElem? (i := 49) rfl))) (notFace_of_selects (args := #[]) (mvT hZ (hw _ (List.mem_of_getElem? (i := 51) rfl)))) (mvT hZ (hw _ (List.mem_of_getElem? (i := 51) rfl))) (mvT hZ (hw _ (List.mem_of_getElem? (i := 50) rfl))) (by decide) (backOf (W := 0) (rm7 l Z a0 hw [] b134 v166 _ _ _ _ T190.heap n0 z191 f192 g135 F190_left F190_fieldsLeft F190_spent F190_entitiesSpent) hZ (hw _ (List.mem_of_getElem? (i := 52) rfl)) (hw _ (List.mem_of_getElem? (i := 2) rfl)) (by decide) (by decide)) q197a q197c (g := (mkF m 235 #[.val (.int p1), .val (.int p2), .val (.int p3), .val (.ref b134), .val (.int (p2 &&& (127 : Int32))), .val (.long (((p1 &&& (2147483647 : Int32)) - (p1 &&& (2147483647 : Int32)) / (314570 : Int32) * (314570 : Int32)).toInt64)), .second, .val (.int (((314569 : Int64) - (((p1 &&& (2147483647 : Int32)) - (p1 &&& (2147483647 : Int32)) / (314570 : Int32) * (314570 : Int32)).toInt64)).toInt32)), .val (.long LL), .second, .val (.int v162), .val (.int v164), .val (.int v166), .val (.long (f6 v162)), .second, .val (.long (f6 v164)), .second, .val (.long (f6 v166)), .second, .val (.int v171), .val (.long v173), .second, .val (.int v175), .val (.long v178), .second, .val (.int v180), .val (.int (own_r LL (0 : Int32) v162)), .val (.int (own_r (own_l LL (0 : Int32) v162) (own_e LL (0 : Int32) v162) v164)), .unset] [(.int v166), (.ref b134)])) rfl (by rw [hml]; rfl) (Steps.refl _) (argsL := [(.int v166)]) (rest := []) (lenOf pd_7 rfl) rfl (by show 2 * 0 + _ ≤ _; exact Nat.le_of_eq rfl) (hb hby at_235) (fun _ _ => ⟨rfl, rfl, (by decide : 1 + 0 ≤ _), (by decide : 4 + 0 ≤ _)⟩)
  dsimp only [Pt.U, Pt.locs, Pt.cells, Pt.slots] at X197 l197 y197 z197 st197 hQ197
  subst l197 y197 z197
  obtain ⟨rfl, N197q, K197, E197, F197_left, F197_fieldsLeft, F197_spent, F197_entitiesSpent⟩ := hQ197
  have N197 := Fr.app N190 N197q
  have z198 : n0 ≤ T197.heap.size := Nat.le_trans z191 K197.1
  have f199 := f192.keep K197
  refine Goes.of (fun t k => st197.trans k) ?_
  show Goes p e below (T197.setTop (mkF m 238 #[.val (.int p1), .val (.int p2), .val (.int p3), .val (.ref b134), .val (.int (p2 &&& (127 : Int32))), .val (.long (((p1 &&& (2147483647 : Int32)) - (p1 &&& (2147483647 : Int32)) / (314570 : Int32) * (314570 : Int32)).toInt64)), .second, .val (.int (((314569 : Int64) - (((p1 &&& (2147483647 : Int32)) - (p1 &&& (2147483647 : Int32)) / (314570 : Int32) * (314570 : Int32)).toInt64)).toInt32)), .val (.long LL), .second, .val (.int v162), .val (.int v164), .val (.int v166), .val (.long (f6 v162)), .second, .val (.long (f6 v164)), .second, .val (.long (f6 v166)), .second, .val (.int v171), .val (.long v173), .second, .val (.int v175), .val (.long v178), .second, .val (.int v180), .val (.int (own_r LL (0 : Int32) v162)), .val (.int (own_r (own_l LL (0 : Int32) v162) (own_e LL (0 : Int32) v162) v164)), .unset] [(.int (own_r (own_l (own_l LL (0 : Int32) v162) (own_e LL (0 : Int32) v162) v164) (own_e (own_l LL (0 : Int32) v162) (own_e LL (0 : Int32) v162) v164) v166))])) _
  refine Goes.of (fun t k => XS.istore X197.here hx rfl (hb hby at_238) rfl (l' := #[.val (.int p1), .val (.int p2), .val (.int p3), .val (.ref b134), .val (.int (p2 &&& (127 : Int32))), .val (.long (((p1 &&& (2147483647 : Int32)) - (p1 &&& (2147483647 : Int32)) / (314570 : Int32) * (314570 : Int32)).toInt64)), .second, .val (.int (((314569 : Int64) - (((p1 &&& (2147483647 : Int32)) - (p1 &&& (2147483647 : Int32)) / (314570 : Int32) * (314570 : Int32)).toInt64)).toInt32)), .val (.long LL), .second, .val (.int v162), .val (.int v164), .val (.int v166), .val (.long (f6 v162)), .second, .val (.long (f6 v164)), .second, .val (.long (f6 v166)), .second, .val (.int v171), .val (.long v173), .second, .val (.int v175), .val (.long v178), .second, .val (.int v180), .val (.int (own_r LL (0 : Int32) v162)), .val (.int (own_r (own_l LL (0 : Int32) v162) (own_e LL (0 : Int32) v162) v164)), .val (.int (own_r (own_l (own_l LL (0 : Int32) v162) (own_e LL (0 : Int32) v162) v164) (own_e (own_l LL (0 : Int32) v162) (own_e LL (0 : Int32) v162) v164) v166))]) rfl k) ?_
  show Goes p e below (T197.setTop (mkF m 240 #[.val (.int p1), .val (.int p2), .val (.int p3), .val (.ref b134), .val (.int (p2 &&& (127 : Int32))), .val (.long (((p1 &&& (2147483647 : Int32)) - (p1 &&& (2147483647 : Int32)) / (314570 : Int32) * (314570 : Int32)).toInt64)), .second, .val (.int (((314569 : Int64) - (((p1 &&& (2147483647 : Int32)) - (p1 &&& (2147483647 : Int32)) / (314570 : Int32) * (314570 : Int32)).toInt64)).toInt32)), .val (.long LL), .second, .val (.int v162), .val (.int v164), .val (.int v166), .val (.long (f6 v162)), .second, .val (.long (f6 v164)), .second, .val (.long (f6 v166)), .second, .val (.int v171), .val (.long v173), .second, .val (.int v175), .val (.long v178), .second, .val (.int v180), .val (.int (own_r LL (0 : Int32) v162)), .val (.int (own_r (own_l LL (0 : Int32) v162) (own_e LL (0 : Int32) v162) v164)), .val (.int (own_r (own_l (own_l LL (0 : Int32) v162) (own_e LL (0 : Int32) v162) v164) (own_e (own_l LL (0 : Int32) v162) (own_e LL (0 : Int32) v162) v164) v166))] [])) _
  refine Goes.of (fun t k => XS.iload X197.here hx rfl (hb hby at_240) rfl k) ?_
  show Goes p e below (T197.setTop (mkF m 242 #[.val (.int p1), .val (.int p2), .val (.int p3), .val (.ref b134), .val (.int (p2 &&& (127 : Int32))), .val (.long (((p1 &&& (2147483647 : Int32)) - (p1 &&& (2147483647 : Int32)) / (314570 : Int32) * (314570 : Int32)).toInt64)), .second, .val (.int (((314569 : Int64) - (((p1 &&& (2147483647 : Int32)) - (p1 &&& (2147483647 : Int32)) / (314570 : Int32) * (314570 : Int32)).toInt64)).toInt32)), .val (.long LL), .second, .val (.int v162), .val (.int v164), .val (.int v166), .val (.long (f6 v162)), .second, .val (.long (f6 v164)), .second, .val (.long (f6 v166)), .second, .val (.int v171), .val (.long v173), .second, .val (.int v175), .val (.long v178), .second, .val (.int v180), .val (.int (own_r LL (0 : Int32) v162)), .val (.int (own_r (own_l LL (0 : Int32) v162) (own_e LL (0 : Int32) v162) v164)), .val (.int (own_r (own_l (own_l LL (0 : Int32) v162) (own_e LL (0 : Int32) v162) v164) (own_e (own_l LL (0 : Int32) v162) (own_e LL (0 : Int32) v162) v164) v166))] [(.int (own_r LL (0 : Int32) v162))])) _
  refine Goes.of (fun t k => XS.iload X197.here hx rfl (hb hby at_242) rfl k) ?_
  show Goes p e below (T197.setTop (mkF m 244 #[.val (.int p1), .val (.int p2), .val (.int p3), .val (.ref b134), .val (.int (p2 &&& (127 : Int32))), .val (.long (((p1 &&& (2147483647 : Int32)) - (p1 &&& (2147483647 : Int32)) / (314570 : Int32) * (314570 : Int32)).toInt64)), .second, .val (.int (((314569 : Int64) - (((p1 &&& (2147483647 : Int32)) - (p1 &&& (2147483647 : Int32)) / (314570 : Int32) * (314570 : Int32)).toInt64)).toInt32)), .val (.long LL), .second, .val (.int v162), .val (.int v164), .val (.int v166), .val (.long (f6 v162)), .second, .val (.long (f6 v164)), .second, .val (.long (f6 v166)), .second, .val (.int v171), .val (.long v173), .second, .val (.int v175), .val (.long v178), .second, .val (.int v180), .val (.int (own_r LL (0 : Int32) v162)), .val (.int (own_r (own_l LL (0 : Int32) v162) (own_e LL (0 : Int32) v162) v164)), .val (.int (own_r (own_l (own_l LL (0 : Int32) v162) (own_e LL (0 : Int32) v162) v164) (own_e (own_l LL (0 : Int32) v162) (own_e LL (0 : Int32) v162) v164) v166))] [(.int v171), (.int (own_r LL (0 : Int32) v162))])) _
  have fin := own_fin LL v162 v164 v166 v173 v178 hv171 hv173 hv175 hv178 hv180
  have hd244_204 : (own_r LL (0 : Int32) v162) = v171 := fin.1
  refine Goes.of (fun t k => XS.icmpNo X197.here hx rfl (hb hby at_244) rfl (teq hd244_204).2 k) ?_
  show Goes p e below (T197.setTop (mkF m 247 #[.val (.int p1), .val (.int p2), .val (.int p3), .val (.ref b134), .val (.int (p2 &&& (127 : Int32))), .val (.long (((p1 &&& (2147483647 : Int32)) - (p1 &&& (2147483647 : Int32)) / (314570 : Int32) * (314570 : Int32)).toInt64)), .second, .val (.int (((314569 : Int64) - (((p1 &&& (2147483647 : Int32)) - (p1 &&& (2147483647 : Int32)) / (314570 : Int32) * (314570 : Int32)).toInt64)).toInt32)), .val (.long LL), .second, .val (.int v162), .val (.int v164), .val (.int v166), .val (.long (f6 v162)), .second, .val (.long (f6 v164)), .second, .val (.long (f6 v166)), .second, .val (.int v171), .val (.long v173), .second, .val (.int v175), .val (.long v178), .second, .val (.int v180), .val (.int (own_r LL (0 : Int32) v162)), .val (.int (own_r (own_l LL (0 : Int32) v162) (own_e LL (0 : Int32) v162) v164)), .val (.int (own_r (own_l (own_l LL (0 : Int32) v162) (own_e LL (0 : Int32) v162) v164) (own_e (own_l LL (0 : Int32) v162) (own_e LL (0 : Int32) v162) v164) v166))] [])) _
  refine Goes.of (fun t k => XS.iload X197.here hx rfl (hb hby at_247) rfl k) ?_
  show Goes p e below (T197.setTop (mkF m 249 #[.val (.int p1), .val (.int p2), .val (.int p3), .val (.ref b134), .val (.int (p2 &&& (127 : Int32))), .val (.long (((p1 &&& (2147483647 : Int32)) - (p1 &&& (2147483647 : Int32)) / (314570 : Int32) * (314570 : Int32)).toInt64)), .second, .val (.int (((314569 : Int64) - (((p1 &&& (2147483647 : Int32)) - (p1 &&& (2147483647 : Int32)) / (314570 : Int32) * (314570 : Int32)).toInt64)).toInt32)), .val (.long LL), .second, .val (.int v162), .val (.int v164), .val (.int v166), .val (.long (f6 v162)), .second, .val (.long (f6 v164)), .second, .val (.long (f6 v166)), .second, .val (.int v171), .val (.long v173), .second, .val (.int v175), .val (.long v178), .second, .val (.int v180), .val (.int (own_r LL (0 : Int32) v162)), .val (.int (own_r (own_l LL (0 : Int32) v162) (own_e LL (0 : Int32) v162) v164)), .val (.int (own_r (own_l (own_l LL (0 : Int32) v162) (own_e LL (0 : Int32) v162) v164) (own_e (own_l LL (0 : Int32) v162) (own_e LL (0 : Int32) v162) v164) v166))] [(.int (own_r (own_l LL (0 : Int32) v162) (own_e LL (0 : Int32) v162) v164))])) _
  refine Goes.of (fun t k => XS.iload X197.here hx rfl (hb hby at_249) rfl k) ?_
  show Goes p e below (T197.setTop (mkF m 251 #[.val (.int p1), .val (.int p2), .val (.int p3), .val (.ref b134), .val (.int (p2 &&& (127 : Int32))), .val (.long (((p1 &&& (2147483647 : Int32)) - (p1 &&& (2147483647 : Int32)) / (314570 : Int32) * (314570 : Int32)).toInt64)), .second, .val (.int (((314569 : Int64) - (((p1 &&& (2147483647 : Int32)) - (p1 &&& (2147483647 : Int32)) / (314570 : Int32) * (314570 : Int32)).toInt64)).toInt32)), .val (.long LL), .second, .val (.int v162), .val (.int v164), .val (.int v166), .val (.long (f6 v162)), .second, .val (.long (f6 v164)), .second, .val (.long (f6 v166)), .second, .val (.int v171), .val (.long v173), .second, .val (.int v175), .val (.long v178), .second, .val (.int v180), .val (.int (own_r LL (0 : Int32) v162)), .val (.int (own_r (own_l LL (0 : Int32) v162) (own_e LL (0 : Int32) v162) v164)), .val (.int (own_r (own_l (own_l LL (0 : Int32) v162) (own_e LL (0 : Int32) v162) v164) (own_e (own_l LL (0 : Int32) v162) (own_e LL (0 : Int32) v162) v164) v166))] [(.int v175), (.int (own_r (own_l LL (0 : Int32) v162) (own_e LL (0 : Int32) v162) v164))])) _
  have hd251_205 : (own_r (own_l LL (0 : Int32) v162) (own_e LL (0 : Int32) v162) v164) = v175 := fin.2.1
  refine Goes.of (fun t k => XS.icmpNo X197.here hx rfl (hb hby at_251) rfl (teq hd251_205).2 k) ?_
  show Goes p e below (T197.setTop (mkF m 254 #[.val (.int p1), .val (.int p2), .val (.int p3), .val (.ref b134), .val (.int (p2 &&& (127 : Int32))), .val (.long (((p1 &&& (2147483647 : Int32)) - (p1 &&& (2147483647 : Int32)) / (314570 : Int32) * (314570 : Int32)).toInt64)), .second, .val (.int (((314569 : Int64) - (((p1 &&& (2147483647 : Int32)) - (p1 &&& (2147483647 : Int32)) / (314570 : Int32) * (314570 : Int32)).toInt64)).toInt32)), .val (.long LL), .second, .val (.int v162), .val (.int v164), .val (.int v166), .val (.long (f6 v162)), .second, .val (.long (f6 v164)), .second, .val (.long (f6 v166)), .second, .val (.int v171), .val (.long v173), .second, .val (.int v175), .val (.long v178), .second, .val (.int v180), .val (.int (own_r LL (0 : Int32) v162)), .val (.int (own_r (own_l LL (0 : Int32) v162) (own_e LL (0 : Int32) v162) v164)), .val (.int (own_r (own_l (own_l LL (0 : Int32) v162) (own_e LL (0 : Int32) v162) v164) (own_e (own_l LL (0 : Int32) v162) (own_e LL (0 : Int32) v162) v164) v166))] [])) _
  refine Goes.of (fun t k => XS.iload X197.here hx rfl (hb hby at_254) rfl k) ?_
  show Goes p e below (T197.setTop (mkF m 256 #[.val (.int p1), .val (.int p2), .val (.int p3), .val (.ref b134), .val (.int (p2 &&& (127 : Int32))), .val (.long (((p1 &&& (2147483647 : Int32)) - (p1 &&& (2147483647 : Int32)) / (314570 : Int32) * (314570 : Int32)).toInt64)), .second, .val (.int (((314569 : Int64) - (((p1 &&& (2147483647 : Int32)) - (p1 &&& (2147483647 : Int32)) / (314570 : Int32) * (314570 : Int32)).toInt64)).toInt32)), .val (.long LL), .second, .val (.int v162), .val (.int v164), .val (.int v166), .val (.long (f6 v162)), .second, .val (.long (f6 v164)), .second, .val (.long (f6 v166)), .second, .val (.int v171), .val (.long v173), .second, .val (.int v175), .val (.long v178), .second, .val (.int v180), .val (.int (own_r LL (0 : Int32) v162)), .val (.int (own_r (own_l LL (0 : Int32) v162) (own_e LL (0 : Int32) v162) v164)), .val (.int (own_r (own_l (own_l LL (0 : Int32) v162) (own_e LL (0 : Int32) v162) v164) (own_e (own_l LL (0 : Int32) v162) (own_e LL (0 : Int32) v162) v164) v166))] [(.int (own_r (own_l (own_l LL (0 : Int32) v162) (own_e LL (0 : Int32) v162) v164) (own_e (own_l LL (0 : Int32) v162) (own_e LL (0 : Int32) v162) v164) v166))])) _
  refine Goes.of (fun t k => XS.iload X197.here hx rfl (hb hby at_256) rfl k) ?_
  show Goes p e below (T197.setTop (mkF m 258 #[.val (.int p1), .val (.int p2), .val (.int p3), .val (.ref b134), .val (.int (p2 &&& (127 : Int32))), .val (.long (((p1 &&& (2147483647 : Int32)) - (p1 &&& (2147483647 : Int32)) / (314570 : Int32) * (314570 : Int32)).toInt64)), .second, .val (.int (((314569 : Int64) - (((p1 &&& (2147483647 : Int32)) - (p1 &&& (2147483647 : Int32)) / (314570 : Int32) * (314570 : Int32)).toInt64)).toInt32)), .val (.long LL), .second, .val (.int v162), .val (.int v164), .val (.int v166), .val (.long (f6 v162)), .second, .val (.long (f6 v164)), .second, .val (.long (f6 v166)), .second, .val (.int v171), .val (.long v173), .second, .val (.int v175), .val (.long v178), .second, .val (.int v180), .val (.int (own_r LL (0 : Int32) v162)), .val (.int (own_r (own_l LL (0 : Int32) v162) (own_e LL (0 : Int32) v162) v164)), .val (.int (own_r (own_l (own_l LL (0 : Int32) v162) (own_e LL (0 : Int32) v162) v164) (own_e (own_l LL (0 : Int32) v162) (own_e LL (0 : Int32) v162) v164) v166))] [(.int v180), (.int (own_r (own_l (own_l LL (0 : Int32) v162) (own_e LL (0 : Int32) v162) v164) (own_e (own_l LL (0 : Int32) v162) (own_e LL (0 : Int32) v162) v164) v166))])) _
  have hd258_206 : (own_r (own_l (own_l LL (0 : Int32) v162) (own_e LL (0 : Int32) v162) v164) (own_e (own_l LL (0 : Int32) v162) (own_e LL (0 : Int32) v162) v164) v166) = v180 := fin.2.2
  refine Goes.of (fun t k => XS.icmpNo X197.here hx rfl (hb hby at_258) rfl (teq hd258_206).2 k) ?_
  show Goes p e below (T197.setTop (mkF m 261 #[.val (.int p1), .val (.int p2), .val (.int p3), .val (.ref b134), .val (.int (p2 &&& (127 : Int32))), .val (.long (((p1 &&& (2147483647 : Int32)) - (p1 &&& (2147483647 : Int32)) / (314570 : Int32) * (314570 : Int32)).toInt64)), .second, .val (.int (((314569 : Int64) - (((p1 &&& (2147483647 : Int32)) - (p1 &&& (2147483647 : Int32)) / (314570 : Int32) * (314570 : Int32)).toInt64)).toInt32)), .val (.long LL), .second, .val (.int v162), .val (.int v164), .val (.int v166), .val (.long (f6 v162)), .second, .val (.long (f6 v164)), .second, .val (.long (f6 v166)), .second, .val (.int v171), .val (.long v173), .second, .val (.int v175), .val (.long v178), .second, .val (.int v180), .val (.int (own_r LL (0 : Int32) v162)), .val (.int (own_r (own_l LL (0 : Int32) v162) (own_e LL (0 : Int32) v162) v164)), .val (.int (own_r (own_l (own_l LL (0 : Int32) v162) (own_e LL (0 : Int32) v162) v164) (own_e (own_l LL (0 : Int32) v162) (own_e LL (0 : Int32) v162) v164) v166))] [])) _
  refine Goes.of (fun t k => XS.iconst X197.here hx rfl (hb hby at_261) k) ?_
  show Goes p e below (T197.setTop (mkF m 262 #[.val (.int p1), .val (.int p2), .val (.int p3), .val (.ref b134), .val (.int (p2 &&& (127 : Int32))), .val (.long (((p1 &&& (2147483647 : Int32)) - (p1 &&& (2147483647 : Int32)) / (314570 : Int32) * (314570 : Int32)).toInt64)), .second, .val (.int (((314569 : Int64) - (((p1 &&& (2147483647 : Int32)) - (p1 &&& (2147483647 : Int32)) / (314570 : Int32) * (314570 : Int32)).toInt64)).toInt32)), .val (.long LL), .second, .val (.int v162), .val (.int v164), .val (.int v166), .val (.long (f6 v162)), .second, .val (.long (f6 v164)), .second, .val (.long (f6 v166)), .second, .val (.int v171), .val (.long v173), .second, .val (.int v175), .val (.long v178), .second, .val (.int v180), .val (.int (own_r LL (0 : Int32) v162)), .val (.int (own_r (own_l LL (0 : Int32) v162) (own_e LL (0 : Int32) v162) v164)), .val (.int (own_r (own_l (own_l LL (0 : Int32) v162) (own_e LL (0 : Int32) v162) v164) (own_e (own_l LL (0 : Int32) v162) (own_e LL (0 : Int32) v162) v164) v166))] [(.int (1 : Int32))])) _
  refine Goes.of (fun t k => XS.goto X197.here hx rfl (pc0 := 262) (pc' := 266) rfl (hb hby at_262) (by decide) (by decide) k) ?_
  show Goes p e below (T197.setTop (mkF m 266 #[.val (.int p1), .val (.int p2), .val (.int p3), .val (.ref b134), .val (.int (p2 &&& (127 : Int32))), .val (.long (((p1 &&& (2147483647 : Int32)) - (p1 &&& (2147483647 : Int32)) / (314570 : Int32) * (314570 : Int32)).toInt64)), .second, .val (.int (((314569 : Int64) - (((p1 &&& (2147483647 : Int32)) - (p1 &&& (2147483647 : Int32)) / (314570 : Int32) * (314570 : Int32)).toInt64)).toInt32)), .val (.long LL), .second, .val (.int v162), .val (.int v164), .val (.int v166), .val (.long (f6 v162)), .second, .val (.long (f6 v164)), .second, .val (.long (f6 v166)), .second, .val (.int v171), .val (.long v173), .second, .val (.int v175), .val (.long v178), .second, .val (.int v180), .val (.int (own_r LL (0 : Int32) v162)), .val (.int (own_r (own_l LL (0 : Int32) v162) (own_e LL (0 : Int32) v162) v164)), .val (.int (own_r (own_l (own_l LL (0 : Int32) v162) (own_e LL (0 : Int32) v162) v164) (own_e (own_l LL (0 : Int32) v162) (own_e LL (0 : Int32) v162) v164) v166))] [(.int (1 : Int32))])) _
  exact Goes.retN (t := .boolean) X197 hx Bd.returns (by simp) hlocks (hb hby at_266) (⟨rfl, N197⟩) (by decide) (by decide)
set_option maxRecDepth 65536 in
set_option maxHeartbeats 40000000 in
theorem comes_1 {Post : Tables → Env → Array Value → State → Outcome → State → Prop} (hpost : ∀ tb e args s v u, (limb_1_1.after args s (.returned v) u = true ∧ limb_1_2.after args s (.returned v) u = true ∧ True) → FrameEnd s (.returned v) u (Jvm.fieldLocs frame_1_writes args s ++ Jvm.arrayLocs frame_1_arrays args s ++ Jvm.staticLocs frame_1_statics s) 16 128 → Post tb e args s (.returned v) u) :
    ArmFor flags0 classFile x code maxLocals ret World_1 tables_1 room_1 Calls_1 rest_1 Pre_1 Post := by
  intro l hfl _ _ p e ha hc hk s m args below hf hA hF happ hP
  obtain ⟨hcalls, hrest, hpre⟩ := hP
  obtain ⟨-, -, -, hnamed, -, -, -, hat⟩ := (Spec.applies_iff hf).mp happ
  obtain ⟨hg, hn⟩ := and_e (Cond.before_iff.mp (show (Jvm.Cond.and given_1 narrow_1).before args s = true from hpre))
  obtain ⟨g207, g208⟩ := and_e hg
  obtain ⟨g209, g210⟩ := and_e g208
  obtain ⟨g211, g212⟩ := and_e g210
  obtain ⟨w0, w1, w2, rfl⟩ : ∃ w0 w1 w2 : Value, args = #[w0, w1, w2] := by
    have hs : args.size = 3 := by simpa [Cond.value, given_1] using g207
    obtain ⟨L⟩ := args
    match L, hs with
    | [w0, w1, w2], _ => exact ⟨w0, w1, w2, rfl⟩
  have hw := fun d (hd : d ∈ tables_1) => atoms_spec (ws := Jvm.Cond.code x code maxLocals ret :: tables_1) hat d (List.mem_cons_of_mem _ hd)
  have hfit : Fit s := fun {y c} hc i hi => by
    obtain ⟨ha, rfl⟩ := Array.getElem?_eq_some_iff.mp hc
    have q := List.all_eq_true.mp ((Array.all_eq_true_iff_forall_mem.mp hF) _ (Array.getElem_mem ha)) i (List.mem_range.mpr hi)
    simpa [Array.getElem?_eq_getElem hi] using q
  obtain ⟨i0, ei0⟩ := is_v g209
  obtain rfl : w0 = (.int i0) := Option.some.inj ei0
  obtain ⟨i1, ei1⟩ := is_v g211
  obtain rfl : w1 = (.int i1) := Option.some.inj ei1
  obtain ⟨i2, ei2⟩ := is_v g212
  obtain rfl : w2 = (.int i2) := Option.some.inj ei2
  obtain ⟨n, o, h1, h2, h3, _, L, rfl, ⟨rfl, N⟩, hq⟩ := rm0 l s _ hw tables_1 i0 i1 i2  s.heap s.heap.size (Nat.le_refl _)  p e ha hc hk s m _ below hf ((Spec.applies_iff_loose hf).mp happ).1 ⟨rfl, State.Warmed39.refl s, rfl⟩ trivial
  refine ⟨n, _, h1, h2, h3, hpost _ _ _ _ _ _ ⟨Cond.after_iff.mpr rfl, Cond.after_iff.mpr (eq_i res_at (Term.int_eval (1)) rfl), trivial⟩ ⟨hq.1, hq.2.1, (hq.2.2.sift fun y hy => Or.inr (N y hy)).mono (by decide) (by decide)⟩⟩
theorem main_1_1 : Claimed_1_1 := comes_1 fun _ _ _ _ _ _ h hF => ⟨h.1, hF⟩
theorem main_1_2 : Claimed_1_2 := comes_1 fun _ _ _ _ _ _ h hF => ⟨h.2.1, hF⟩
end Jvm.Pilot.@@N@@
namespace Jvm.Pilot.@@N@@
open Jvm Jvm.ClassFile Sem Op Lib Jvm.Free Jvm.Stand Jvm.Pilot.@@N@@.Jvm.D
/-! MADE BY PROGRAM (witnessworld.py) out of the Statement's table words and the real class files: 9 classes; the members and pool entries that the words name. The judged class is class 1, her method 2. -/
namespace start1
open Jvm.ClassFile
def u (s : String) : CpInfo := .utf8 (stringToUtf16 s)
/-- a pool by its gaps: so many unusable entries, then the entry; so many at the end -/
def gap : Nat → List CpInfo → List CpInfo
  | 0, r => r
  | n + 1, r => .unusable :: gap n r
def poolList (es : List (Nat × CpInfo)) (last : Nat) : List CpInfo := es.foldr (fun e r => gap e.1 (e.2 :: r)) (gap last [])
def pool (es : List (Nat × CpInfo)) (last : Nat) : Array CpInfo := ⟨poolList es last⟩
def fileOf (pool : Array CpInfo) (this : Nat) (attrs : Array Attribute := #[]) (ms : Array MethodInfo := #[]) (fl : Nat := 33) (sup : Nat := 0) (ifs : Array Nat := #[]) (fds : Array FieldInfo := #[]) : ClassFile where
  minorVersion := 0
  majorVersion := 65
  constantPool := pool
  accessFlags := fl
  thisClass := this
  superClass := sup
  interfaces := ifs
  fields := fds
  methods := ms
  attributes := attrs
def plain (name : String) (sup : Option ClassId) : Class where
  name := name
  kind := .ordinary
  loader := none
  accessFlags := 33
  super := sup
  interfaces := #[]
  cf := none
  fields := #[]
  methods := #[]
  instanceTypes := #[]
  staticTypes := #[]
  resolved := #[]
  callSites := []
  init := .initialized
  statics := none
  mirror := none

def pool0 : Array CpInfo := pool [(5, u "<init>"), (0, u "()V"), (1, .class_ 10), (1, u "java/lang/Object")] 113

def k0c0 : Code := { maxStack := 0, maxLocals := 1, code := object_method_1_code, exceptionTable := #[], attributes := #[] }
def k0m0 : Method := { name := "<init>", desc := "()V", sig := { parameters := [], returnType := none }, accessFlags := 1, code := some k0c0 }
/-- java/lang/Object -/
def k0 : Class := { plain "java/lang/Object" none with
  accessFlags := 33
  interfaces := #[]
  cf := some (fileOf pool0 8 #[] #[{ accessFlags := 1, nameIndex := 5, descriptorIndex := 6, attributes := #[] }] 33 0 #[] #[])
  fields := #[]
  methods := #[k0m0]
  instanceTypes := #[]
  staticTypes := #[]
  resolved := Array.replicate 124 none
  statics := none }

def pool1 : Array CpInfo := pool [(2, .class_ 4), (0, .nameAndType 5 6), (0, u "java/lang/Object"), (0, u "<init>"), (0, u "()V"), (0, .long 100), (1, .long 76), (1, .class_ 12), (0, u "com/example/bit7/bit7/io/ReadBudget"), (0, .methodref 11 3), (0, .integer 2147483647), (0, .integer 314570), (0, .long 314569), (1, .methodref 11 19), (0, .nameAndType 20 21), (0, u "takeField"), (0, u "(JIZ)Z"), (0, .methodref 11 23), (0, .nameAndType 24 25), (0, u "takeParameterizedValue"), (0, u "(I)V"), (0, .long 116), (1, .long 160), (1, .long 2), (1, .methodref 33 34), (0, .class_ 35), (0, .nameAndType 36 37), (0, u "com/example/bit7/bit7/io/ReadBudgetTakeEntityPinLaw"), (0, u "cost"), (0, u "(Z)J"), (0, .methodref 11 39), (0, .nameAndType 40 41), (0, u "takeEntity"), (0, u "(Z)Z"), (3, u "law"), (0, u "(III)Z")] 2

def k1m0 : Method := { name := "<init>", desc := "()V", sig := { parameters := [], returnType := none }, accessFlags := 2, code := none }
def k1c1 : Code := { maxStack := 2, maxLocals := 1, code := method_2_code, exceptionTable := #[], attributes := #[] }
def k1m1 : Method := { name := "cost", desc := "(Z)J", sig := { parameters := [.boolean], returnType := some .long }, accessFlags := 10, code := some k1c1 }
def k1c2 : Code := { maxStack := 6, maxLocals := 29, code := code, exceptionTable := #[], attributes := #[] }
def k1m2 : Method := { name := "law", desc := "(III)Z", sig := { parameters := [.int, .int, .int], returnType := some .boolean }, accessFlags := 9, code := some k1c2 }
/-- com/example/bit7/bit7/io/ReadBudgetTakeEntityPinLaw -/
def k1 : Class := { plain "com/example/bit7/bit7/io/ReadBudgetTakeEntityPinLaw" (some 0) with
  accessFlags := 49
  interfaces := #[]
  cf := some (fileOf pool1 33 #[] #[{ accessFlags := 2, nameIndex := 5, descriptorIndex := 6, attributes := #[] }, { accessFlags := 10, nameIndex := 36, descriptorIndex := 37, attributes := #[] }, { accessFlags := 9, nameIndex := 45, descriptorIndex := 46, attributes := #[] }] 49 2 #[] #[])
  fields := #[]
  methods := #[k1m0, k1m1, k1m2]
  instanceTypes := #[]
  staticTypes := #[]
  resolved := Array.replicate 49 none
  statics := none }

def pool2 : Array CpInfo := pool [(1, .methodref 2 3), (0, .class_ 4), (0, .nameAndType 5 6), (0, u "java/lang/Object"), (0, u "<init>"), (0, u "()V"), (0, .class_ 8), (0, u "com/example/bit7/bit7/io/ReadBudget"), (0, .long 50331572), (1, .fieldref 7 12), (0, .nameAndType 13 14), (0, u "left"), (0, u "J"), (0, .long 33554432), (1, .fieldref 7 18), (0, .nameAndType 19 14), (0, u "fieldsLeft"), (0, .long 100), (1, .long 76), (1, .fieldref 7 25), (0, .nameAndType 26 27), (0, u "entitiesSpent"), (0, u "Z"), (0, .long 48), (1, .long 96), (1, .long 2), (1, .long 64), (1, .methodref 7 37), (0, .nameAndType 38 39), (0, u "takeForFields"), (0, u "(J)Z"), (0, .long 160), (1, .long 320), (1, .fieldref 7 45), (0, .nameAndType 46 27), (0, u "spent"), (0, u "CAPACITY"), (3, u "FIELD_CAPACITY"), (0, u "ENTITY_COST"), (0, u "I"), (1, u "RUN_COST"), (1, u "FIELD_COST"), (1, u "NAME_COST"), (1, u "DEPARTURE_COST"), (1, u "PARAMETERIZED_VALUE_COST"), (1, u "PARAMETER_COST"), (3, u "takeEntity"), (0, u "(Z)Z"), (1, u "takeField"), (0, u "(JIZ)Z"), (2, u "takeParameterizedValue"), (0, u "(I)V")] 2

def k2c0 : Code := { maxStack := 3, maxLocals := 1, code := prog_73_method_1_code, exceptionTable := #[], attributes := #[] }
def k2m0 : Method := { name := "<init>", desc := "()V", sig := { parameters := [], returnType := none }, accessFlags := 0, code := some k2c0 }
def k2c1 : Code := { maxStack := 5, maxLocals := 4, code := prog_73_method_2_code, exceptionTable := #[], attributes := #[] }
def k2m1 : Method := { name := "takeEntity", desc := "(Z)Z", sig := { parameters := [.boolean], returnType := some .boolean }, accessFlags := 0, code := some k2c1 }
def k2c2 : Code := { maxStack := 7, maxLocals := 7, code := prog_73_method_3_code, exceptionTable := #[], attributes := #[] }
def k2m2 : Method := { name := "takeField", desc := "(JIZ)Z", sig := { parameters := [.long, .int, .boolean], returnType := some .boolean }, accessFlags := 0, code := some k2c2 }
def k2c3 : Code := { maxStack := 7, maxLocals := 4, code := prog_73_method_5_code, exceptionTable := #[], attributes := #[] }
def k2m3 : Method := { name := "takeParameterizedValue", desc := "(I)V", sig := { parameters := [.int], returnType := none }, accessFlags := 0, code := some k2c3 }
def k2c4 : Code := { maxStack := 5, maxLocals := 3, code := prog_73_method_6_code, exceptionTable := #[], attributes := #[] }
def k2m4 : Method := { name := "takeForFields", desc := "(J)Z", sig := { parameters := [.long], returnType := some .boolean }, accessFlags := 2, code := some k2c4 }
/-- com/example/bit7/bit7/io/ReadBudget -/
def k2 : Class := { plain "com/example/bit7/bit7/io/ReadBudget" (some 0) with
  accessFlags := 32
  interfaces := #[]
  cf := some (fileOf pool2 7 #[] #[{ accessFlags := 0, nameIndex := 5, descriptorIndex := 6, attributes := #[] }, { accessFlags := 0, nameIndex := 69, descriptorIndex := 70, attributes := #[] }, { accessFlags := 0, nameIndex := 72, descriptorIndex := 73, attributes := #[] }, { accessFlags := 0, nameIndex := 76, descriptorIndex := 77, attributes := #[] }, { accessFlags := 2, nameIndex := 38, descriptorIndex := 39, attributes := #[] }] 32 2 #[] #[{ accessFlags := 24, nameIndex := 47, descriptorIndex := 14, attributes := #[] }, { accessFlags := 24, nameIndex := 51, descriptorIndex := 14, attributes := #[] }, { accessFlags := 24, nameIndex := 52, descriptorIndex := 53, attributes := #[] }, { accessFlags := 24, nameIndex := 55, descriptorIndex := 53, attributes := #[] }, { accessFlags := 24, nameIndex := 57, descriptorIndex := 53, attributes := #[] }, { accessFlags := 24, nameIndex := 59, descriptorIndex := 53, attributes := #[] }, { accessFlags := 24, nameIndex := 61, descriptorIndex := 53, attributes := #[] }, { accessFlags := 24, nameIndex := 63, descriptorIndex := 53, attributes := #[] }, { accessFlags := 24, nameIndex := 65, descriptorIndex := 53, attributes := #[] }, { accessFlags := 2, nameIndex := 13, descriptorIndex := 14, attributes := #[] }, { accessFlags := 2, nameIndex := 19, descriptorIndex := 14, attributes := #[] }, { accessFlags := 2, nameIndex := 46, descriptorIndex := 27, attributes := #[] }, { accessFlags := 2, nameIndex := 26, descriptorIndex := 27, attributes := #[] }])
  fields := #[{ name := "CAPACITY", type := .long, accessFlags := 24, slot := 0, constantValue := 0 }, { name := "FIELD_CAPACITY", type := .long, accessFlags := 24, slot := 1, constantValue := 0 }, { name := "ENTITY_COST", type := .int, accessFlags := 24, slot := 2, constantValue := 0 }, { name := "RUN_COST", type := .int, accessFlags := 24, slot := 3, constantValue := 0 }, { name := "FIELD_COST", type := .int, accessFlags := 24, slot := 4, constantValue := 0 }, { name := "NAME_COST", type := .int, accessFlags := 24, slot := 5, constantValue := 0 }, { name := "DEPARTURE_COST", type := .int, accessFlags := 24, slot := 6, constantValue := 0 }, { name := "PARAMETERIZED_VALUE_COST", type := .int, accessFlags := 24, slot := 7, constantValue := 0 }, { name := "PARAMETER_COST", type := .int, accessFlags := 24, slot := 8, constantValue := 0 }, { name := "left", type := .long, accessFlags := 2, slot := 0, constantValue := 0 }, { name := "fieldsLeft", type := .long, accessFlags := 2, slot := 1, constantValue := 0 }, { name := "spent", type := .boolean, accessFlags := 2, slot := 2, constantValue := 0 }, { name := "entitiesSpent", type := .boolean, accessFlags := 2, slot := 3, constantValue := 0 }]
  methods := #[k2m0, k2m1, k2m2, k2m3, k2m4]
  instanceTypes := #[.long, .long, .boolean, .boolean]
  staticTypes := #[.long, .long, .int, .int, .int, .int, .int, .int, .int]
  resolved := Array.replicate 80 none
  statics := none }

def pool3 : Array CpInfo := pool [(1, u "java/lang/Cloneable"), (0, .class_ 1), (0, u "java/lang/Object"), (0, .class_ 3)] 3

/-- java/lang/Cloneable -/
def k3 : Class := { plain "java/lang/Cloneable" (some 0) with
  accessFlags := 1537
  interfaces := #[]
  cf := some (fileOf pool3 2 #[] #[] 1537 4 #[] #[])
  fields := #[]
  methods := #[]
  instanceTypes := #[]
  staticTypes := #[]
  resolved := Array.replicate 8 none
  statics := none }

def pool4 : Array CpInfo := pool [(1, u "java/io/Serializable"), (0, .class_ 1), (0, u "java/lang/Object"), (0, .class_ 3)] 3

/-- java/io/Serializable -/
def k4 : Class := { plain "java/io/Serializable" (some 0) with
  accessFlags := 1537
  interfaces := #[]
  cf := some (fileOf pool4 2 #[] #[] 1537 4 #[] #[])
  fields := #[]
  methods := #[]
  instanceTypes := #[]
  staticTypes := #[]
  resolved := Array.replicate 8 none
  statics := none }

/-- the primitive byte -/
def k5 : Class := { plain "byte" none with kind := .primitive 'B', accessFlags := 0x411 }
/-- [B -/
def k6 : Class := { plain "[B" (some 0) with kind := .array 5 .byte, interfaces := #[3, 4], accessFlags := 1041 }

/-- the primitive int -/
def k7 : Class := { plain "int" none with kind := .primitive 'I', accessFlags := 0x411 }
/-- [I -/
def k8 : Class := { plain "[I" (some 0) with kind := .array 7 .int, interfaces := #[3, 4], accessFlags := 1041 }

def heap : Heap := #[]
def classes : Array Class := #[k0, k1, k2, k3, k4, k5, k6, k7, k8]
def interned : List (Array UInt16 × Addr) := []
def slotsUsed : Nat := 0
def theMethod : MethodId := ⟨1, 2⟩
def args0 : Array Value := #[.int 5, .int 7, .int 1]
def aboutOver (below : List Frame) : State where
  vm := { classes := classes, interned := interned.toArray }
  heap := heap
  slotsUsed := slotsUsed
  threads := #[{ frames := .invoking theMethod args0 :: below }]
def below0 : List Frame := [.native { method := ⟨0, 0⟩, args := #[] }]
def about1 : State := aboutOver below0
def p0 : Program := .bare "" "" ""
def e0 : Env := launch0.env 0 0 0
theorem w_frames : about1.frames = Frame.invoking theMethod args0 :: below0 := rfl
set_option maxRecDepth 65536 in
theorem w_args : argsFit about1.vm theMethod args0 = true := by decide +kernel
set_option maxRecDepth 65536 in
theorem w_heap : heapFits about1 = true := by decide +kernel
set_option maxRecDepth 65536 in
theorem w_runnable : about1.curStatus? = some .runnable := by decide +kernel
set_option maxRecDepth 65536 in
theorem w_alone : about1.alone = true := by decide +kernel
set_option maxRecDepth 65536 in
theorem w_named : about1.methodNamed? x = some theMethod := by decide +kernel
set_option maxRecDepth 65536 in
theorem w_hears : about1.hears theMethod below0 = true := by decide +kernel
set_option maxRecDepth 65536 in
theorem w_ripe : about1.ripe theMethod args0 below0 = true := by decide +kernel
theorem w_running : about1.status = .running := rfl
set_option maxRecDepth 65536 in
theorem w_room : about1.hasRoom e0.platform room_1 = true :=
  launch0.hasRoom_least _ room_1 (by decide +kernel) (by decide +kernel) (by decide +kernel) (by decide +kernel) (by decide +kernel) (by decide +kernel)
theorem allAtoms_all (ts : List Jvm.Cond) (a : Array Jvm.Value) (st : Jvm.State) : (allAtoms ts).before a st = ts.all (fun c => c.before a st) := by
  induction ts with
  | nil => rfl
  | cons c t ih =>
    show (Jvm.Cond.and c (allAtoms t)).before a st = _
    rw [Jvm.Cond.before_and, ih, List.all_cons]
def words1 : List Jvm.Cond := Jvm.Cond.code x code maxLocals ret :: tables_1
/-- a 'code' word, met by the world's own term for the bytes: nothing is compared byte by byte -/
theorem code_word {y : MethodName} {bytes : ByteArray} {mx : Nat} {rt : Option FieldType} {a : Array Value} {s : State} {m : MethodId} {meth : Method} {c : Code} (h1 : s.methodNamed? y = some m) (h2 : s.vm.method? m = some meth) (h3 : meth.code = some c) (h4 : c.code = bytes)
    (h5 : (c.maxLocals == mx && c.exceptionTable.isEmpty && decide (c.maxStack ≤ mostOperands) && decide (meth.sig.returnType = rt) && !meth.locks && decide (parseMethodDescriptor y.desc = some meth.sig)) = true) : (Jvm.Cond.code y bytes mx rt).before a s = true := by
  simp only [Bool.and_eq_true, beq_iff_eq, Bool.not_eq_true', decide_eq_true_eq] at h5
  obtain ⟨⟨⟨⟨⟨g1, g2⟩, g3⟩, g4⟩, g5⟩, g6⟩ := h5
  simp [Cond.before, Cond.holds, Cond.value, h1, h2, h3, h4, g1, g2, g3, g4, g5, g6]
def isCode : Jvm.Cond → Bool
  | .code _ _ _ _ => true
  | _ => false
theorem all_split {L : List Jvm.Cond} {P : Jvm.Cond → Bool} (h1 : L.all (fun c => isCode c || P c) = true) (h2 : ∀ c ∈ L.filter isCode, P c = true) : L.all P = true := by
  refine List.all_eq_true.mpr fun c hc => ?_
  have h := List.all_eq_true.mp h1 c hc
  rcases Bool.eq_false_or_eq_true (isCode c) with hi | hi
  · exact h2 c (List.mem_filter.mpr ⟨hc, hi⟩)
  · simpa [hi] using h
set_option maxRecDepth 65536 in
theorem w_c0 : (Jvm.Cond.code x code maxLocals ret).before args0 about1 = true := code_word (m := ⟨1, 2⟩) (meth := k1m2) (c := k1c2) (by decide +kernel) rfl rfl rfl (by decide +kernel)
set_option maxRecDepth 65536 in
theorem w_c1 : (Jvm.Cond.code ({ cls := "com/example/bit7/bit7/io/ReadBudget", name := "<init>", desc := "()V" } : Jvm.MethodName) prog_73_method_1_code (1 : Nat) (Option.none : Option Jvm.ClassFile.FieldType)).before args0 about1 = true := code_word (m := ⟨2, 0⟩) (meth := k2m0) (c := k2c0) (by decide +kernel) rfl rfl rfl (by decide +kernel)
set_option maxRecDepth 65536 in
theorem w_c2 : (Jvm.Cond.code ({ cls := "java/lang/Object", name := "<init>", desc := "()V" } : Jvm.MethodName) object_method_1_code (1 : Nat) (Option.none : Option Jvm.ClassFile.FieldType)).before args0 about1 = true := code_word (m := ⟨0, 0⟩) (meth := k0m0) (c := k0c0) (by decide +kernel) rfl rfl rfl (by decide +kernel)
set_option maxRecDepth 65536 in
theorem w_c3 : (Jvm.Cond.code ({ cls := "com/example/bit7/bit7/io/ReadBudget", name := "takeField", desc := "(JIZ)Z" } : Jvm.MethodName) prog_73_method_3_code (7 : Nat) (Option.some Jvm.ClassFile.FieldType.boolean)).before args0 about1 = true := code_word (m := ⟨2, 2⟩) (meth := k2m2) (c := k2c2) (by decide +kernel) rfl rfl rfl (by decide +kernel)
set_option maxRecDepth 65536 in
theorem w_c4 : (Jvm.Cond.code ({ cls := "com/example/bit7/bit7/io/ReadBudget", name := "takeForFields", desc := "(J)Z" } : Jvm.MethodName) prog_73_method_6_code (3 : Nat) (Option.some Jvm.ClassFile.FieldType.boolean)).before args0 about1 = true := code_word (m := ⟨2, 4⟩) (meth := k2m4) (c := k2c4) (by decide +kernel) rfl rfl rfl (by decide +kernel)
set_option maxRecDepth 65536 in
theorem w_c5 : (Jvm.Cond.code ({ cls := "com/example/bit7/bit7/io/ReadBudget", name := "takeParameterizedValue", desc := "(I)V" } : Jvm.MethodName) prog_73_method_5_code (4 : Nat) (Option.none : Option Jvm.ClassFile.FieldType)).before args0 about1 = true := code_word (m := ⟨2, 3⟩) (meth := k2m3) (c := k2c3) (by decide +kernel) rfl rfl rfl (by decide +kernel)
set_option maxRecDepth 65536 in
theorem w_c6 : (Jvm.Cond.code ({ cls := "com/example/bit7/bit7/io/ReadBudgetTakeEntityPinLaw", name := "cost", desc := "(Z)J" } : Jvm.MethodName) method_2_code (1 : Nat) (Option.some Jvm.ClassFile.FieldType.long)).before args0 about1 = true := code_word (m := ⟨1, 1⟩) (meth := k1m1) (c := k1c1) (by decide +kernel) rfl rfl rfl (by decide +kernel)
set_option maxRecDepth 65536 in
theorem w_c7 : (Jvm.Cond.code ({ cls := "com/example/bit7/bit7/io/ReadBudget", name := "takeEntity", desc := "(Z)Z" } : Jvm.MethodName) prog_73_method_2_code (4 : Nat) (Option.some Jvm.ClassFile.FieldType.boolean)).before args0 about1 = true := code_word (m := ⟨2, 1⟩) (meth := k2m1) (c := k2c1) (by decide +kernel) rfl rfl rfl (by decide +kernel)
def codes1 : List Jvm.Cond := [Jvm.Cond.code x code maxLocals ret, Jvm.Cond.code ({ cls := "com/example/bit7/bit7/io/ReadBudget", name := "<init>", desc := "()V" } : Jvm.MethodName) prog_73_method_1_code (1 : Nat) (Option.none : Option Jvm.ClassFile.FieldType), Jvm.Cond.code ({ cls := "java/lang/Object", name := "<init>", desc := "()V" } : Jvm.MethodName) object_method_1_code (1 : Nat) (Option.none : Option Jvm.ClassFile.FieldType), Jvm.Cond.code ({ cls := "com/example/bit7/bit7/io/ReadBudget", name := "takeField", desc := "(JIZ)Z" } : Jvm.MethodName) prog_73_method_3_code (7 : Nat) (Option.some Jvm.ClassFile.FieldType.boolean), Jvm.Cond.code ({ cls := "com/example/bit7/bit7/io/ReadBudget", name := "takeForFields", desc := "(J)Z" } : Jvm.MethodName) prog_73_method_6_code (3 : Nat) (Option.some Jvm.ClassFile.FieldType.boolean), Jvm.Cond.code ({ cls := "com/example/bit7/bit7/io/ReadBudget", name := "takeParameterizedValue", desc := "(I)V" } : Jvm.MethodName) prog_73_method_5_code (4 : Nat) (Option.none : Option Jvm.ClassFile.FieldType), Jvm.Cond.code ({ cls := "com/example/bit7/bit7/io/ReadBudgetTakeEntityPinLaw", name := "cost", desc := "(Z)J" } : Jvm.MethodName) method_2_code (1 : Nat) (Option.some Jvm.ClassFile.FieldType.long), Jvm.Cond.code ({ cls := "com/example/bit7/bit7/io/ReadBudget", name := "takeEntity", desc := "(Z)Z" } : Jvm.MethodName) prog_73_method_2_code (4 : Nat) (Option.some Jvm.ClassFile.FieldType.boolean)]
set_option maxRecDepth 65536 in
theorem codes_eq : words1.filter isCode = codes1 := rfl
theorem w_codes : ∀ c ∈ words1.filter isCode, c.before args0 about1 = true := by
  rw [codes_eq]
  intro c hc
  simp only [codes1, List.mem_cons, List.not_mem_nil, or_false] at hc
  rcases hc with rfl | rfl | rfl | rfl | rfl | rfl | rfl | rfl
  · exact w_c0
  · exact w_c1
  · exact w_c2
  · exact w_c3
  · exact w_c4
  · exact w_c5
  · exact w_c6
  · exact w_c7
set_option maxRecDepth 65536 in
theorem w_t1 : (words1.take 24).all (fun c => isCode c || c.before args0 about1) = true := by decide +kernel
set_option maxRecDepth 65536 in
theorem w_t2 : ((words1.drop 24).take 24).all (fun c => isCode c || c.before args0 about1) = true := by decide +kernel
set_option maxRecDepth 65536 in
theorem w_t3 : ((words1.drop 24).drop 24).all (fun c => isCode c || c.before args0 about1) = true := by decide +kernel
theorem w_tables : (allAtoms (Jvm.Cond.code x code maxLocals ret :: tables_1)).before args0 about1 = true := by
  rw [allAtoms_all]
  show words1.all (fun c => c.before args0 about1) = true
  refine all_split ?_ w_codes
  rw [← List.take_append_drop 24 words1, List.all_append, w_t1, ← List.take_append_drop 24 (words1.drop 24), List.all_append, w_t2, w_t3]
  rfl
set_option maxRecDepth 65536 in
theorem w_case : (Jvm.Cond.and given_1 narrow_1).before args0 about1 = true := by decide +kernel
theorem w_applies : (headSpec (Jvm.Cond.code x code maxLocals ret :: tables_1) room_1).applies x e0.platform about1 = true :=
  (Spec.applies_iff w_frames).mpr ⟨w_running, w_runnable, w_alone, w_named, w_hears, w_ripe, w_room, w_tables⟩
theorem atStart : AtStart classFile x code maxLocals ret World_1 tables_1 room_1 Calls_1 rest_1 Pre_1 launch0 p0 e0 about1 theMethod args0 below0 :=
  ⟨lists_1, trivial, launch0.admits_env _ _ _, launch0.least_env, fairChoices_fair.cas, fairChoices_fair.clock, w_frames, w_args, w_heap, w_applies, trivial, trivial, w_case⟩
end start1
theorem witness_1 : WitnessClaimed_1 := ⟨start1.p0, start1.e0, start1.about1, start1.theMethod, start1.args0, start1.below0, start1.atStart⟩
end Jvm.Pilot.@@N@@
