import JvmDerived
import JvmDerived.Pilot.@@N@@Statement
import JvmDerived.Pilot.@@N@@Code
set_option linter.unusedVariables false
set_option linter.unusedSimpArgs false
@@BLOCK:NumsL.lean.txt@@
namespace Jvm.OwnN
theorem own_rem32 (x y : Int32) : (x - x / y * y).toInt = x.toInt.tmod y.toInt := by
  have a := (x % y).toInt_lt; have b := (x % y).le_toInt
  rw [Int32.toInt_mod] at a b
  rw [Int32.toInt_sub, Int32.toInt_mul, Int32.toInt_div, Int.bmod_mul_bmod, Int.sub_bmod_bmod, Int.mul_comm, ← Int.tmod_def]
  exact Jvm.Kit.bmod32 b a
theorem own_rem32n {x y : Int32} (hx : 0 ≤ x.toInt) : (x - x / y * y).toInt = x.toInt % y.toInt := by rw [own_rem32, Int.tmod_eq_emod_of_nonneg hx]
end Jvm.OwnN
namespace Jvm.RoadKit
open Sem ClassFile Op Lib Jvm.Stand Jvm.Free Jvm.LawKit
section New
variable {p : Program} {l : Launch} {e : Env} {R : Room} {s : State} {m : MethodId} {args : Array Value} {below : List Frame} {meth : Method} {c : Code} {T : State} {locs : List Loc} {cells slots : Nat}
theorem retI (X : Stand p l e R s m args below meth c T locs cells slots) (hx : p.tables.exec = Jvm.exec) {pc : Nat} {Ls : Array Slot} {z : Int32} {rest : List Value} (hret : meth.sig.returnType = some .int) (hd : decode c.code pc = .ok (.ireturn, 1)) {fs : List Frame}
    (hl : ∀ (f : JFrame) (acts : List Action), f.method = m → f.locked = none → f.entered = [] → (doReturn e (T.setTop f) acts (some (.int z))).1 = T.setFrames fs) : Steps p.tables e below (T.setTop (mkF m pc Ls (.int z :: rest))) (T.setFrames fs) := by
  have hm' : T.vm.method? m = some meth := X.method'
  have hn : narrow .int (.int z) = .int z := rfl
  show Steps p.tables e below (T.setTop { method := m, pc := pc, locals := Ls, stack := _ :: rest, locked := none }) _
  jvm_step X.here [X.here.top, hx, hd, hm', hret, hn]
  first | (intro acts; rw [hl _ acts rfl rfl rfl]) | rw [hl _ _ rfl rfl rfl]
  exact Steps.refl _
/-- the run goes on from S to an end of which P holds -/
def Goes (p : Program) (e : Env) (below : List Frame) (S : State) (P : Outcome → State → Prop) : Prop := ∃ s₂ o, Steps p.tables e below S s₂ ∧ s₂.status = .running ∧ Ended s₂ below o ∧ P o s₂
/-- what every contract here says of the end -/
def Fin (s : State) (Q : Option Value → Heap → List Loc → Prop) (C N : Nat) (o : Outcome) (U : State) : Prop := ∃ v L, o = .returned v ∧ Q v U.heap L ∧ FrameEnd s o U L C N
theorem Goes.of {S S' : State} {P : Outcome → State → Prop} (h : ∀ t, Steps p.tables e below S' t → Steps p.tables e below S t) (g : Goes p e below S' P) : Goes p e below S P := by
  obtain ⟨s₂, o, h1, h2⟩ := g
  exact ⟨s₂, o, h _ h1, h2⟩
theorem Goes.out (X : Stand p l e R s m args below meth c T locs cells slots) {v : Option Value} (hv : meth.sig.returnType = none → v = none) (hlocks : meth.locks = false) {g : JFrame} {Q : Option Value → Heap → List Loc → Prop} {C N : Nat}
    (hst : ∀ fs, (∀ (f : JFrame) (acts : List Action), f.method = m → f.locked = none → f.entered = [] → (doReturn e (T.setTop f) acts v).1 = T.setFrames fs) → Steps p.tables e below (T.setTop g) (T.setFrames fs))
    (hq : Q v T.heap locs) (h1 : cells ≤ C) (h2 : slots ≤ N) : Goes p e below (T.setTop g) (Fin s Q C N) := by
  obtain ⟨fs, hr, hrun, hended, hW, hsame⟩ := X.leave (v := v) hv hlocks
  exact ⟨_, _, hst fs hr, hrun, hended, v, locs, rfl, hq, ⟨_, rfl⟩, hW, hsame.mono h1 h2⟩
theorem Goes.retI (X : Stand p l e R s m args below meth c T locs cells slots) (hx : p.tables.exec = Jvm.exec) (hret : meth.sig.returnType = some .int) (hlocks : meth.locks = false) {pc : Nat} {Ls : Array Slot} {z : Int32} {rest : List Value} (hd : decode c.code pc = .ok (.ireturn, 1)) {Q : Option Value → Heap → List Loc → Prop} {C N : Nat}
    (hq : Q (some (.int z)) T.heap locs) (h1 : cells ≤ C) (h2 : slots ≤ N) : Goes p e below (T.setTop (mkF m pc Ls (.int z :: rest))) (Fin s Q C N) :=
  Goes.out X (v := some (.int z)) (fun h => by rw [hret] at h; cases h) hlocks (fun fs hr => Jvm.RoadKit.retI X hx hret hd hr) hq h1 h2
theorem Goes.retN (X : Stand p l e R s m args below meth c T locs cells slots) (hx : p.tables.exec = Jvm.exec) {t : FieldType} (hret : meth.sig.returnType = some t) (ht : t = .boolean ∨ t = .byte ∨ t = .char ∨ t = .short) (hlocks : meth.locks = false) {pc : Nat} {Ls : Array Slot} {z : Int32} {rest : List Value} (hd : decode c.code pc = .ok (.ireturn, 1)) {Q : Option Value → Heap → List Loc → Prop} {C N : Nat}
    (hq : Q (some (.int (nar t z))) T.heap locs) (h1 : cells ≤ C) (h2 : slots ≤ N) : Goes p e below (T.setTop (mkF m pc Ls (.int z :: rest))) (Fin s Q C N) :=
  Goes.out X (v := some (.int (nar t z))) (fun h => by rw [hret] at h; cases h) hlocks (fun fs hr => Jvm.RoadKit.retN X hx (t := t) hret ht hd hr) hq h1 h2
theorem Goes.retJ (X : Stand p l e R s m args below meth c T locs cells slots) (hx : p.tables.exec = Jvm.exec) (hret : meth.sig.returnType = some .long) (hlocks : meth.locks = false) {pc : Nat} {Ls : Array Slot} {z : Int64} (hd : decode c.code pc = .ok (.lreturn, 1)) {Q : Option Value → Heap → List Loc → Prop} {C N : Nat}
    (hq : Q (some (.long z)) T.heap locs) (h1 : cells ≤ C) (h2 : slots ≤ N) : Goes p e below (T.setTop (mkF m pc Ls [.long z])) (Fin s Q C N) :=
  Goes.out X (v := some (.long z)) (fun h => by rw [hret] at h; cases h) hlocks (fun fs hr => X.lreturnOut hx hret hd hr) hq h1 h2
theorem Goes.retD (X : Stand p l e R s m args below meth c T locs cells slots) (hx : p.tables.exec = Jvm.exec) (hret : meth.sig.returnType = some .double) (hlocks : meth.locks = false) {pc : Nat} {Ls : Array Slot} {z : UInt64} (hd : decode c.code pc = .ok (.dreturn, 1)) {Q : Option Value → Heap → List Loc → Prop} {C N : Nat}
    (hq : Q (some (.double z)) T.heap locs) (h1 : cells ≤ C) (h2 : slots ≤ N) : Goes p e below (T.setTop (mkF m pc Ls [.double z])) (Fin s Q C N) :=
  Goes.out X (v := some (.double z)) (fun h => by rw [hret] at h; cases h) hlocks (fun fs hr => by
    have hm' : T.vm.method? m = some meth := X.method'
    jvm_step X.here [X.here.top, hx, hd, hm', hret, narrow]
    first | (intro acts; rw [hr _ acts rfl rfl rfl]) | rw [hr _ _ rfl rfl rfl]
    exact Steps.refl _) hq h1 h2
theorem Goes.retA (X : Stand p l e R s m args below meth c T locs cells slots) (hx : p.tables.exec = Jvm.exec) {w : Value} {t : FieldType} (hw : w.isRef = true) (hret : meth.sig.returnType = some t) (ht : t.isReference = true) (hlocks : meth.locks = false) {pc : Nat} {Ls : Array Slot} (hd : decode c.code pc = .ok (.areturn, 1)) {Q : Option Value → Heap → List Loc → Prop} {C N : Nat}
    (hq : Q (some w) T.heap locs) (h1 : cells ≤ C) (h2 : slots ≤ N) : Goes p e below (T.setTop (mkF m pc Ls [w])) (Fin s Q C N) :=
  Goes.out X (v := some w) (fun h => by rw [hret] at h; cases h) hlocks (fun fs hr => X.areturnOut hx hw hret ht hd hr) hq h1 h2
theorem Goes.retV (X : Stand p l e R s m args below meth c T locs cells slots) (hx : p.tables.exec = Jvm.exec) (hret : meth.sig.returnType = none) (hlocks : meth.locks = false) {pc : Nat} {Ls : Array Slot} (hd : decode c.code pc = .ok (.return_, 1)) {Q : Option Value → Heap → List Loc → Prop} {C N : Nat}
    (hq : Q none T.heap locs) (h1 : cells ≤ C) (h2 : slots ≤ N) : Goes p e below (T.setTop (mkF m pc Ls [])) (Fin s Q C N) :=
  Goes.out X (v := none) (fun _ => rfl) hlocks (fun fs hr => X.returnOut hx hret hd hr) hq h1 h2
end New
theorem selPriv {s : State} {args : Array Value} {y : MethodName} {n : Nat} (hpriv : s.PrivateAt y) (hinst : (Cond.instanceMethod y).before args s = true) (hi : (Cond.instantiable y.cls n).before args s = true) (hy : y.cls ≠ "java/lang/invoke/MethodHandle" ∧ y.cls ≠ "java/lang/invoke/VarHandle") : (Cond.selects y.cls y y).before args s = true := by
  obtain ⟨c, k, h1, h2, -, h3, -⟩ := Cond.instantiable_spec hi
  exact Jvm.Stand.selects_self_of_private h1 h2 (by cases hk : k.isInterface <;> simp_all) hpriv hinst hy
end Jvm.RoadKit
namespace Jvm.Pilot.@@N@@
open Jvm Jvm.ClassFile Sem Op Lib Jvm.Free Jvm.Stand Jvm.LawKit Jvm.RoadKit Bundle Jvm.OwnN Jvm.Pilot.@@N@@.Jvm.D
theorem d1_0 : decode method_3_code 0 = .ok (.lload_n 0, 1) := by decide +kernel
theorem d1_1 : decode method_3_code 1 = .ok (.bipush 32, 2) := by decide +kernel
theorem d1_3 : decode method_3_code 3 = .ok (.lushr, 1) := by decide +kernel
theorem d1_4 : decode method_3_code 4 = .ok (.lstore 4, 2) := by decide +kernel
theorem d1_6 : decode method_3_code 6 = .ok (.lload_n 0, 1) := by decide +kernel
theorem d1_7 : decode method_3_code 7 = .ok (.ldc2_w 22, 3) := by decide +kernel
theorem d1_10 : decode method_3_code 10 = .ok (.land, 1) := by decide +kernel
theorem d1_11 : decode method_3_code 11 = .ok (.lstore 6, 2) := by decide +kernel
theorem d1_13 : decode method_3_code 13 = .ok (.lload_n 2, 1) := by decide +kernel
theorem d1_14 : decode method_3_code 14 = .ok (.bipush 32, 2) := by decide +kernel
theorem d1_16 : decode method_3_code 16 = .ok (.lushr, 1) := by decide +kernel
theorem d1_17 : decode method_3_code 17 = .ok (.lstore 8, 2) := by decide +kernel
theorem d1_19 : decode method_3_code 19 = .ok (.lload_n 2, 1) := by decide +kernel
theorem d1_20 : decode method_3_code 20 = .ok (.ldc2_w 22, 3) := by decide +kernel
theorem d1_23 : decode method_3_code 23 = .ok (.land, 1) := by decide +kernel
theorem d1_24 : decode method_3_code 24 = .ok (.lstore 10, 2) := by decide +kernel
theorem d1_26 : decode method_3_code 26 = .ok (.lload 4, 2) := by decide +kernel
theorem d1_28 : decode method_3_code 28 = .ok (.lconst 0, 1) := by decide +kernel
theorem d1_29 : decode method_3_code 29 = .ok (.lcmp, 1) := by decide +kernel
theorem d1_30 : decode method_3_code 30 = .ok (.ifCond .eq 14, 3) := by decide +kernel
theorem d1_33 : decode method_3_code 33 = .ok (.lload 8, 2) := by decide +kernel
theorem d1_35 : decode method_3_code 35 = .ok (.lconst 0, 1) := by decide +kernel
theorem d1_36 : decode method_3_code 36 = .ok (.lcmp, 1) := by decide +kernel
theorem d1_37 : decode method_3_code 37 = .ok (.ifCond .eq 7, 3) := by decide +kernel
theorem d1_40 : decode method_3_code 40 = .ok (.ldc2_w 9, 3) := by decide +kernel
theorem d1_43 : decode method_3_code 43 = .ok (.lreturn, 1) := by decide +kernel
theorem d1_44 : decode method_3_code 44 = .ok (.lload 4, 2) := by decide +kernel
theorem d1_46 : decode method_3_code 46 = .ok (.lload 10, 2) := by decide +kernel
theorem d1_48 : decode method_3_code 48 = .ok (.lmul, 1) := by decide +kernel
theorem d1_49 : decode method_3_code 49 = .ok (.lload 6, 2) := by decide +kernel
theorem d1_51 : decode method_3_code 51 = .ok (.lload 8, 2) := by decide +kernel
theorem d1_53 : decode method_3_code 53 = .ok (.lmul, 1) := by decide +kernel
theorem d1_54 : decode method_3_code 54 = .ok (.ladd, 1) := by decide +kernel
theorem d1_55 : decode method_3_code 55 = .ok (.lstore 12, 2) := by decide +kernel
theorem d1_57 : decode method_3_code 57 = .ok (.lload 12, 2) := by decide +kernel
theorem d1_59 : decode method_3_code 59 = .ok (.ldc2_w 24, 3) := by decide +kernel
theorem d1_62 : decode method_3_code 62 = .ok (.lcmp, 1) := by decide +kernel
theorem d1_63 : decode method_3_code 63 = .ok (.ifCond .lt 7, 3) := by decide +kernel
theorem d1_66 : decode method_3_code 66 = .ok (.ldc2_w 9, 3) := by decide +kernel
theorem d1_69 : decode method_3_code 69 = .ok (.lreturn, 1) := by decide +kernel
theorem d1_70 : decode method_3_code 70 = .ok (.lload 6, 2) := by decide +kernel
theorem d1_72 : decode method_3_code 72 = .ok (.lload 10, 2) := by decide +kernel
theorem d1_74 : decode method_3_code 74 = .ok (.lmul, 1) := by decide +kernel
theorem d1_75 : decode method_3_code 75 = .ok (.lstore 14, 2) := by decide +kernel
theorem d1_77 : decode method_3_code 77 = .ok (.lload 14, 2) := by decide +kernel
theorem d1_79 : decode method_3_code 79 = .ok (.lconst 0, 1) := by decide +kernel
theorem d1_80 : decode method_3_code 80 = .ok (.lcmp, 1) := by decide +kernel
theorem d1_81 : decode method_3_code 81 = .ok (.ifCond .ge 7, 3) := by decide +kernel
theorem d1_84 : decode method_3_code 84 = .ok (.ldc2_w 9, 3) := by decide +kernel
theorem d1_87 : decode method_3_code 87 = .ok (.lreturn, 1) := by decide +kernel
theorem d1_88 : decode method_3_code 88 = .ok (.lload 12, 2) := by decide +kernel
theorem d1_90 : decode method_3_code 90 = .ok (.bipush 32, 2) := by decide +kernel
theorem d1_92 : decode method_3_code 92 = .ok (.lshl, 1) := by decide +kernel
theorem d1_93 : decode method_3_code 93 = .ok (.lload 14, 2) := by decide +kernel
theorem d1_95 : decode method_3_code 95 = .ok (.ladd, 1) := by decide +kernel
theorem d1_96 : decode method_3_code 96 = .ok (.lstore 16, 2) := by decide +kernel
theorem d1_98 : decode method_3_code 98 = .ok (.lload 16, 2) := by decide +kernel
theorem d1_100 : decode method_3_code 100 = .ok (.lconst 0, 1) := by decide +kernel
theorem d1_101 : decode method_3_code 101 = .ok (.lcmp, 1) := by decide +kernel
theorem d1_102 : decode method_3_code 102 = .ok (.ifCond .ge 7, 3) := by decide +kernel
theorem d1_105 : decode method_3_code 105 = .ok (.ldc2_w 9, 3) := by decide +kernel
theorem d1_108 : decode method_3_code 108 = .ok (.lreturn, 1) := by decide +kernel
theorem d1_109 : decode method_3_code 109 = .ok (.lload 16, 2) := by decide +kernel
theorem d1_111 : decode method_3_code 111 = .ok (.lreturn, 1) := by decide +kernel
theorem pn_0 : plainName "com/example/ripplematch/ripplematch/core/CostBoundProductPinLaw" = true := by first | (simp [plainName, overriddenIn]; done) | decide +kernel
theorem d2_0 : decode prog_30_method_19_code 0 = .ok (.lload_n 0, 1) := by decide +kernel
theorem d2_1 : decode prog_30_method_19_code 1 = .ok (.lconst 0, 1) := by decide +kernel
theorem d2_2 : decode prog_30_method_19_code 2 = .ok (.lcmp, 1) := by decide +kernel
theorem d2_3 : decode prog_30_method_19_code 3 = .ok (.ifCond .eq 9, 3) := by decide +kernel
theorem d2_6 : decode prog_30_method_19_code 6 = .ok (.lload_n 2, 1) := by decide +kernel
theorem d2_7 : decode prog_30_method_19_code 7 = .ok (.lconst 0, 1) := by decide +kernel
theorem d2_8 : decode prog_30_method_19_code 8 = .ok (.lcmp, 1) := by decide +kernel
theorem d2_9 : decode prog_30_method_19_code 9 = .ok (.ifCond .ne 5, 3) := by decide +kernel
theorem d2_12 : decode prog_30_method_19_code 12 = .ok (.lconst 0, 1) := by decide +kernel
theorem d2_13 : decode prog_30_method_19_code 13 = .ok (.lreturn, 1) := by decide +kernel
theorem d2_14 : decode prog_30_method_19_code 14 = .ok (.lload_n 0, 1) := by decide +kernel
theorem d2_15 : decode prog_30_method_19_code 15 = .ok (.ldc2_w 173, 3) := by decide +kernel
theorem d2_18 : decode prog_30_method_19_code 18 = .ok (.lload_n 2, 1) := by decide +kernel
theorem d2_19 : decode prog_30_method_19_code 19 = .ok (.ldiv, 1) := by decide +kernel
theorem d2_20 : decode prog_30_method_19_code 20 = .ok (.lcmp, 1) := by decide +kernel
theorem d2_21 : decode prog_30_method_19_code 21 = .ok (.ifCond .le 9, 3) := by decide +kernel
theorem d2_24 : decode prog_30_method_19_code 24 = .ok (.ldc2_w 173, 3) := by decide +kernel
theorem d2_27 : decode prog_30_method_19_code 27 = .ok (.goto 6, 3) := by decide +kernel
theorem d2_30 : decode prog_30_method_19_code 30 = .ok (.lload_n 0, 1) := by decide +kernel
theorem d2_31 : decode prog_30_method_19_code 31 = .ok (.lload_n 2, 1) := by decide +kernel
theorem d2_32 : decode prog_30_method_19_code 32 = .ok (.lmul, 1) := by decide +kernel
theorem d2_33 : decode prog_30_method_19_code 33 = .ok (.lreturn, 1) := by decide +kernel
theorem pn_1 : plainName "com/example/ripplematch/ripplematch/core/CostBound" = true := by first | (simp [plainName, overriddenIn]; done) | decide +kernel
theorem pd_2 : parseMethodDescriptor "(JJ)J" = some ⟨[.long, .long], some .long⟩ := by decide +kernel
def f1 (q1 : Int64) (q2 : Int64) : Int64 := (if ((q1.toUInt64 >>> ((32 : Int32) &&& 0x3f).toInt64.toUInt64).toInt64) = (0 : Int64) then (if ((((q1.toUInt64 >>> ((32 : Int32) &&& 0x3f).toInt64.toUInt64).toInt64) * (q2 &&& (4294967295 : Int64))) + ((q1 &&& (4294967295 : Int64)) * ((q2.toUInt64 >>> ((32 : Int32) &&& 0x3f).toInt64.toUInt64).toInt64))) < (2147483648 : Int64) then (if ((q1 &&& (4294967295 : Int64)) * (q2 &&& (4294967295 : Int64))) < (0 : Int64) then (9223372036854775807 : Int64) else (if ((((((q1.toUInt64 >>> ((32 : Int32) &&& 0x3f).toInt64.toUInt64).toInt64) * (q2 &&& (4294967295 : Int64))) + ((q1 &&& (4294967295 : Int64)) * ((q2.toUInt64 >>> ((32 : Int32) &&& 0x3f).toInt64.toUInt64).toInt64))) <<< ((32 : Int32) &&& 0x3f).toInt64) + ((q1 &&& (4294967295 : Int64)) * (q2 &&& (4294967295 : Int64)))) < (0 : Int64) then (9223372036854775807 : Int64) else ((((((q1.toUInt64 >>> ((32 : Int32) &&& 0x3f).toInt64.toUInt64).toInt64) * (q2 &&& (4294967295 : Int64))) + ((q1 &&& (4294967295 : Int64)) * ((q2.toUInt64 >>> ((32 : Int32) &&& 0x3f).toInt64.toUInt64).toInt64))) <<< ((32 : Int32) &&& 0x3f).toInt64) + ((q1 &&& (4294967295 : Int64)) * (q2 &&& (4294967295 : Int64)))))) else (9223372036854775807 : Int64)) else (if ((q2.toUInt64 >>> ((32 : Int32) &&& 0x3f).toInt64.toUInt64).toInt64) = (0 : Int64) then (if ((((q1.toUInt64 >>> ((32 : Int32) &&& 0x3f).toInt64.toUInt64).toInt64) * (q2 &&& (4294967295 : Int64))) + ((q1 &&& (4294967295 : Int64)) * ((q2.toUInt64 >>> ((32 : Int32) &&& 0x3f).toInt64.toUInt64).toInt64))) < (2147483648 : Int64) then (if ((q1 &&& (4294967295 : Int64)) * (q2 &&& (4294967295 : Int64))) < (0 : Int64) then (9223372036854775807 : Int64) else (if ((((((q1.toUInt64 >>> ((32 : Int32) &&& 0x3f).toInt64.toUInt64).toInt64) * (q2 &&& (4294967295 : Int64))) + ((q1 &&& (4294967295 : Int64)) * ((q2.toUInt64 >>> ((32 : Int32) &&& 0x3f).toInt64.toUInt64).toInt64))) <<< ((32 : Int32) &&& 0x3f).toInt64) + ((q1 &&& (4294967295 : Int64)) * (q2 &&& (4294967295 : Int64)))) < (0 : Int64) then (9223372036854775807 : Int64) else ((((((q1.toUInt64 >>> ((32 : Int32) &&& 0x3f).toInt64.toUInt64).toInt64) * (q2 &&& (4294967295 : Int64))) + ((q1 &&& (4294967295 : Int64)) * ((q2.toUInt64 >>> ((32 : Int32) &&& 0x3f).toInt64.toUInt64).toInt64))) <<< ((32 : Int32) &&& 0x3f).toInt64) + ((q1 &&& (4294967295 : Int64)) * (q2 &&& (4294967295 : Int64)))))) else (9223372036854775807 : Int64)) else (9223372036854775807 : Int64)))
theorem ef_1 (m : MethodId) (x0 : Int64) (x1 : Int64) : entryFrame m #[(.long x0), (.long x1)] 18 = mkF m 0 #[.val (.long x0), .second, .val (.long x1), .second, .unset, .unset, .unset, .unset, .unset, .unset, .unset, .unset, .unset, .unset, .unset, .unset, .unset, .unset] [] := by first | (simp [entryFrame, mkF, argsToLocals, Value.category]; done) | rfl
def Q1 (Z : State) (q1 : Int64) (q2 : Int64) (h0 : Heap) (n0 : Nat) (v : Option Value) (h : Heap) (L : List Loc) : Prop := v = some (.long (f1 q1 q2)) ∧ Fr n0 L ∧ h = h0
set_option maxRecDepth 65536 in
set_option maxHeartbeats 40000000 in
theorem rm1 (l : Launch) (Z : State) (a0 : Array Value) (hw : ∀ d ∈ tables_1, d.before a0 Z = true) (ws : List Jvm.Cond) (q1 : Int64) (q2 : Int64) (h0 : Heap) (n0 : Nat) (Z0 : n0 ≤ h0.size)  :
    MetFree l (⟨"com/example/ripplematch/ripplematch/core/CostBoundProductPinLaw", "reference", "(JJ)J"⟩ : MethodName) (head1 (Jvm.Cond.code (⟨"com/example/ripplematch/ripplematch/core/CostBoundProductPinLaw", "reference", "(JJ)J"⟩ : MethodName) method_3_code 18 (some .long) :: ws) ({ frames := 0, cells := 0, slots := 0, locals := 0 } : Room)) (fun a U => a = #[(.long q1), (.long q2)] ∧ Z.Warmed39 U.vm ∧ U.heap = h0) (fun _ _ _ _ _ => True) (fun _ U o U' => ∃ v L, o = .returned v ∧ Q1 Z q1 q2 h0 n0 v U'.heap L ∧ FrameEnd U o U' L ({ frames := 0, cells := 0, slots := 0, locals := 0 } : Room).cells ({ frames := 0, cells := 0, slots := 0, locals := 0 } : Room).slots) := by
  refine MetFree.of_bodySF (plainFor_of_name pn_0) hisR ?_
  intro p e s m args below meth c s₁ Bd hml0 hP hK
  obtain ⟨rfl, hZ, hh⟩ := hP
  have hx := Bd.exec
  have hby := Bd.bytes
  have hml : c.maxLocals = 18 := hml0
  have hown : s.vm.findClass "com/example/ripplematch/ripplematch/core/CostBoundProductPinLaw" = some m.cls := findClass_of_methodNamed Bd.named
  have hnm := (name_of_methodNamed Bd.named Bd.method).1
  have hlocks : meth.locks = false := BodyLoose.notSynchronized Bd
  have X0 : Stand p l e ({ frames := 0, cells := 0, slots := 0, locals := 0 } : Room) s m #[(.long q1), (.long q2)] below meth c s₁ [] 0 0 := Stand.of_body Bd
  have e0 : s₁.heap = h0 := by rw [← hh, Bd.state]; rfl
  have N0 := Fr.nil n0
  show Goes p e below (s₁.setTop (entryFrame m #[(.long q1), (.long q2)] 18)) (Fin s (Q1 Z q1 q2 h0 n0) ({ frames := 0, cells := 0, slots := 0, locals := 0 } : Room).cells ({ frames := 0, cells := 0, slots := 0, locals := 0 } : Room).slots)
  refine Goes.of (fun t k => castTop (ef_1 m q1 q2) k) ?_
  show Goes p e below (s₁.setTop (mkF m 0 #[.val (.long q1), .second, .val (.long q2), .second, .unset, .unset, .unset, .unset, .unset, .unset, .unset, .unset, .unset, .unset, .unset, .unset, .unset, .unset] [])) _
  refine Goes.of (fun t k => XS.lloadN X0.here hx rfl (hb hby d1_0) rfl k) ?_
  show Goes p e below (s₁.setTop (mkF m 1 #[.val (.long q1), .second, .val (.long q2), .second, .unset, .unset, .unset, .unset, .unset, .unset, .unset, .unset, .unset, .unset, .unset, .unset, .unset, .unset] [(.long q1)])) _
  refine Goes.of (fun t k => XS.bipush X0.here hx rfl (hb hby d1_1) k) ?_
  show Goes p e below (s₁.setTop (mkF m 3 #[.val (.long q1), .second, .val (.long q2), .second, .unset, .unset, .unset, .unset, .unset, .unset, .unset, .unset, .unset, .unset, .unset, .unset, .unset, .unset] [(.int (32 : Int32)), (.long q1)])) _
  refine Goes.of (fun t k => XS.lushr X0.here hx rfl (hb hby d1_3) rfl k) ?_
  show Goes p e below (s₁.setTop (mkF m 4 #[.val (.long q1), .second, .val (.long q2), .second, .unset, .unset, .unset, .unset, .unset, .unset, .unset, .unset, .unset, .unset, .unset, .unset, .unset, .unset] [(.long ((q1.toUInt64 >>> ((32 : Int32) &&& 0x3f).toInt64.toUInt64).toInt64))])) _
  refine Goes.of (fun t k => XS.lstore X0.here hx rfl (hb hby d1_4) rfl (l' := #[.val (.long q1), .second, .val (.long q2), .second, .val (.long ((q1.toUInt64 >>> ((32 : Int32) &&& 0x3f).toInt64.toUInt64).toInt64)), .second, .unset, .unset, .unset, .unset, .unset, .unset, .unset, .unset, .unset, .unset, .unset, .unset]) rfl k) ?_
  show Goes p e below (s₁.setTop (mkF m 6 #[.val (.long q1), .second, .val (.long q2), .second, .val (.long ((q1.toUInt64 >>> ((32 : Int32) &&& 0x3f).toInt64.toUInt64).toInt64)), .second, .unset, .unset, .unset, .unset, .unset, .unset, .unset, .unset, .unset, .unset, .unset, .unset] [])) _
  refine Goes.of (fun t k => XS.lloadN X0.here hx rfl (hb hby d1_6) rfl k) ?_
  show Goes p e below (s₁.setTop (mkF m 7 #[.val (.long q1), .second, .val (.long q2), .second, .val (.long ((q1.toUInt64 >>> ((32 : Int32) &&& 0x3f).toInt64.toUInt64).toInt64)), .second, .unset, .unset, .unset, .unset, .unset, .unset, .unset, .unset, .unset, .unset, .unset, .unset] [(.long q1)])) _
  refine Goes.of (fun t k => X0.ldc2Long hx hown (mvT hZ (hw _ (List.mem_of_getElem? (i := 5) rfl))) (g := (mkF m 7 #[.val (.long q1), .second, .val (.long q2), .second, .val (.long ((q1.toUInt64 >>> ((32 : Int32) &&& 0x3f).toInt64.toUInt64).toInt64)), .second, .unset, .unset, .unset, .unset, .unset, .unset, .unset, .unset, .unset, .unset, .unset, .unset] [(.long q1)])) rfl (hb hby d1_7) _ k) ?_
  show Goes p e below (s₁.setTop (mkF m 10 #[.val (.long q1), .second, .val (.long q2), .second, .val (.long ((q1.toUInt64 >>> ((32 : Int32) &&& 0x3f).toInt64.toUInt64).toInt64)), .second, .unset, .unset, .unset, .unset, .unset, .unset, .unset, .unset, .unset, .unset, .unset, .unset] [(.long (4294967295 : Int64)), (.long q1)])) _
  refine Goes.of (fun t k => XS.land X0.here hx rfl (hb hby d1_10) rfl k) ?_
  show Goes p e below (s₁.setTop (mkF m 11 #[.val (.long q1), .second, .val (.long q2), .second, .val (.long ((q1.toUInt64 >>> ((32 : Int32) &&& 0x3f).toInt64.toUInt64).toInt64)), .second, .unset, .unset, .unset, .unset, .unset, .unset, .unset, .unset, .unset, .unset, .unset, .unset] [(.long (q1 &&& (4294967295 : Int64)))])) _
  refine Goes.of (fun t k => XS.lstore X0.here hx rfl (hb hby d1_11) rfl (l' := #[.val (.long q1), .second, .val (.long q2), .second, .val (.long ((q1.toUInt64 >>> ((32 : Int32) &&& 0x3f).toInt64.toUInt64).toInt64)), .second, .val (.long (q1 &&& (4294967295 : Int64))), .second, .unset, .unset, .unset, .unset, .unset, .unset, .unset, .unset, .unset, .unset]) rfl k) ?_
  show Goes p e below (s₁.setTop (mkF m 13 #[.val (.long q1), .second, .val (.long q2), .second, .val (.long ((q1.toUInt64 >>> ((32 : Int32) &&& 0x3f).toInt64.toUInt64).toInt64)), .second, .val (.long (q1 &&& (4294967295 : Int64))), .second, .unset, .unset, .unset, .unset, .unset, .unset, .unset, .unset, .unset, .unset] [])) _
  refine Goes.of (fun t k => XS.lloadN X0.here hx rfl (hb hby d1_13) rfl k) ?_
  show Goes p e below (s₁.setTop (mkF m 14 #[.val (.long q1), .second, .val (.long q2), .second, .val (.long ((q1.toUInt64 >>> ((32 : Int32) &&& 0x3f).toInt64.toUInt64).toInt64)), .second, .val (.long (q1 &&& (4294967295 : Int64))), .second, .unset, .unset, .unset, .unset, .unset, .unset, .unset, .unset, .unset, .unset] [(.long q2)])) _
  refine Goes.of (fun t k => XS.bipush X0.here hx rfl (hb hby d1_14) k) ?_
  show Goes p e below (s₁.setTop (mkF m 16 #[.val (.long q1), .second, .val (.long q2), .second, .val (.long ((q1.toUInt64 >>> ((32 : Int32) &&& 0x3f).toInt64.toUInt64).toInt64)), .second, .val (.long (q1 &&& (4294967295 : Int64))), .second, .unset, .unset, .unset, .unset, .unset, .unset, .unset, .unset, .unset, .unset] [(.int (32 : Int32)), (.long q2)])) _
  refine Goes.of (fun t k => XS.lushr X0.here hx rfl (hb hby d1_16) rfl k) ?_
  show Goes p e below (s₁.setTop (mkF m 17 #[.val (.long q1), .second, .val (.long q2), .second, .val (.long ((q1.toUInt64 >>> ((32 : Int32) &&& 0x3f).toInt64.toUInt64).toInt64)), .second, .val (.long (q1 &&& (4294967295 : Int64))), .second, .unset, .unset, .unset, .unset, .unset, .unset, .unset, .unset, .unset, .unset] [(.long ((q2.toUInt64 >>> ((32 : Int32) &&& 0x3f).toInt64.toUInt64).toInt64))])) _
  refine Goes.of (fun t k => XS.lstore X0.here hx rfl (hb hby d1_17) rfl (l' := #[.val (.long q1), .second, .val (.long q2), .second, .val (.long ((q1.toUInt64 >>> ((32 : Int32) &&& 0x3f).toInt64.toUInt64).toInt64)), .second, .val (.long (q1 &&& (4294967295 : Int64))), .second, .val (.long ((q2.toUInt64 >>> ((32 : Int32) &&& 0x3f).toInt64.toUInt64).toInt64)), .second, .unset, .unset, .unset, .unset, .unset, .unset, .unset, .unset]) rfl k) ?_
  show Goes p e below (s₁.setTop (mkF m 19 #[.val (.long q1), .second, .val (.long q2), .second, .val (.long ((q1.toUInt64 >>> ((32 : Int32) &&& 0x3f).toInt64.toUInt64).toInt64)), .second, .val (.long (q1 &&& (4294967295 : Int64))), .second, .val (.long ((q2.toUInt64 >>> ((32 : Int32) &&& 0x3f).toInt64.toUInt64).toInt64)), .second, .unset, .unset, .unset, .unset, .unset, .unset, .unset, .unset] [])) _
  refine Goes.of (fun t k => XS.lloadN X0.here hx rfl (hb hby d1_19) rfl k) ?_
  show Goes p e below (s₁.setTop (mkF m 20 #[.val (.long q1), .second, .val (.long q2), .second, .val (.long ((q1.toUInt64 >>> ((32 : Int32) &&& 0x3f).toInt64.toUInt64).toInt64)), .second, .val (.long (q1 &&& (4294967295 : Int64))), .second, .val (.long ((q2.toUInt64 >>> ((32 : Int32) &&& 0x3f).toInt64.toUInt64).toInt64)), .second, .unset, .unset, .unset, .unset, .unset, .unset, .unset, .unset] [(.long q2)])) _
  refine Goes.of (fun t k => X0.ldc2Long hx hown (mvT hZ (hw _ (List.mem_of_getElem? (i := 5) rfl))) (g := (mkF m 20 #[.val (.long q1), .second, .val (.long q2), .second, .val (.long ((q1.toUInt64 >>> ((32 : Int32) &&& 0x3f).toInt64.toUInt64).toInt64)), .second, .val (.long (q1 &&& (4294967295 : Int64))), .second, .val (.long ((q2.toUInt64 >>> ((32 : Int32) &&& 0x3f).toInt64.toUInt64).toInt64)), .second, .unset, .unset, .unset, .unset, .unset, .unset, .unset, .unset] [(.long q2)])) rfl (hb hby d1_20) _ k) ?_
  show Goes p e below (s₁.setTop (mkF m 23 #[.val (.long q1), .second, .val (.long q2), .second, .val (.long ((q1.toUInt64 >>> ((32 : Int32) &&& 0x3f).toInt64.toUInt64).toInt64)), .second, .val (.long (q1 &&& (4294967295 : Int64))), .second, .val (.long ((q2.toUInt64 >>> ((32 : Int32) &&& 0x3f).toInt64.toUInt64).toInt64)), .second, .unset, .unset, .unset, .unset, .unset, .unset, .unset, .unset] [(.long (4294967295 : Int64)), (.long q2)])) _
  refine Goes.of (fun t k => XS.land X0.here hx rfl (hb hby d1_23) rfl k) ?_
  show Goes p e below (s₁.setTop (mkF m 24 #[.val (.long q1), .second, .val (.long q2), .second, .val (.long ((q1.toUInt64 >>> ((32 : Int32) &&& 0x3f).toInt64.toUInt64).toInt64)), .second, .val (.long (q1 &&& (4294967295 : Int64))), .second, .val (.long ((q2.toUInt64 >>> ((32 : Int32) &&& 0x3f).toInt64.toUInt64).toInt64)), .second, .unset, .unset, .unset, .unset, .unset, .unset, .unset, .unset] [(.long (q2 &&& (4294967295 : Int64)))])) _
  refine Goes.of (fun t k => XS.lstore X0.here hx rfl (hb hby d1_24) rfl (l' := #[.val (.long q1), .second, .val (.long q2), .second, .val (.long ((q1.toUInt64 >>> ((32 : Int32) &&& 0x3f).toInt64.toUInt64).toInt64)), .second, .val (.long (q1 &&& (4294967295 : Int64))), .second, .val (.long ((q2.toUInt64 >>> ((32 : Int32) &&& 0x3f).toInt64.toUInt64).toInt64)), .second, .val (.long (q2 &&& (4294967295 : Int64))), .second, .unset, .unset, .unset, .unset, .unset, .unset]) rfl k) ?_
  show Goes p e below (s₁.setTop (mkF m 26 #[.val (.long q1), .second, .val (.long q2), .second, .val (.long ((q1.toUInt64 >>> ((32 : Int32) &&& 0x3f).toInt64.toUInt64).toInt64)), .second, .val (.long (q1 &&& (4294967295 : Int64))), .second, .val (.long ((q2.toUInt64 >>> ((32 : Int32) &&& 0x3f).toInt64.toUInt64).toInt64)), .second, .val (.long (q2 &&& (4294967295 : Int64))), .second, .unset, .unset, .unset, .unset, .unset, .unset] [])) _
  refine Goes.of (fun t k => XS.lload X0.here hx rfl (hb hby d1_26) rfl k) ?_
  show Goes p e below (s₁.setTop (mkF m 28 #[.val (.long q1), .second, .val (.long q2), .second, .val (.long ((q1.toUInt64 >>> ((32 : Int32) &&& 0x3f).toInt64.toUInt64).toInt64)), .second, .val (.long (q1 &&& (4294967295 : Int64))), .second, .val (.long ((q2.toUInt64 >>> ((32 : Int32) &&& 0x3f).toInt64.toUInt64).toInt64)), .second, .val (.long (q2 &&& (4294967295 : Int64))), .second, .unset, .unset, .unset, .unset, .unset, .unset] [(.long ((q1.toUInt64 >>> ((32 : Int32) &&& 0x3f).toInt64.toUInt64).toInt64))])) _
  refine Goes.of (fun t k => XS.lconst X0.here hx rfl (hb hby d1_28) k) ?_
  show Goes p e below (s₁.setTop (mkF m 29 #[.val (.long q1), .second, .val (.long q2), .second, .val (.long ((q1.toUInt64 >>> ((32 : Int32) &&& 0x3f).toInt64.toUInt64).toInt64)), .second, .val (.long (q1 &&& (4294967295 : Int64))), .second, .val (.long ((q2.toUInt64 >>> ((32 : Int32) &&& 0x3f).toInt64.toUInt64).toInt64)), .second, .val (.long (q2 &&& (4294967295 : Int64))), .second, .unset, .unset, .unset, .unset, .unset, .unset] [(.long (0 : Int64)), (.long ((q1.toUInt64 >>> ((32 : Int32) &&& 0x3f).toInt64.toUInt64).toInt64))])) _
  refine Goes.of (fun t k => XS.lcmp X0.here hx rfl (hb hby d1_29) rfl k) ?_
  show Goes p e below (s₁.setTop (mkF m 30 #[.val (.long q1), .second, .val (.long q2), .second, .val (.long ((q1.toUInt64 >>> ((32 : Int32) &&& 0x3f).toInt64.toUInt64).toInt64)), .second, .val (.long (q1 &&& (4294967295 : Int64))), .second, .val (.long ((q2.toUInt64 >>> ((32 : Int32) &&& 0x3f).toInt64.toUInt64).toInt64)), .second, .val (.long (q2 &&& (4294967295 : Int64))), .second, .unset, .unset, .unset, .unset, .unset, .unset] [(.int (lcmpW ((q1.toUInt64 >>> ((32 : Int32) &&& 0x3f).toInt64.toUInt64).toInt64) (0 : Int64)))])) _
  by_cases hc30_1 : ((q1.toUInt64 >>> ((32 : Int32) &&& 0x3f).toInt64.toUInt64).toInt64) = (0 : Int64)
  · refine Goes.of (fun t k => XS.ifYes X0.here hx rfl (pc0 := 30) (pc' := 44) rfl (hb hby d1_30) rfl ((if0 _ _).trans (teq ((lw_eq _ _).mpr hc30_1)).1) (by decide) (by decide) k) ?_
    show Goes p e below (s₁.setTop (mkF m 44 #[.val (.long q1), .second, .val (.long q2), .second, .val (.long ((q1.toUInt64 >>> ((32 : Int32) &&& 0x3f).toInt64.toUInt64).toInt64)), .second, .val (.long (q1 &&& (4294967295 : Int64))), .second, .val (.long ((q2.toUInt64 >>> ((32 : Int32) &&& 0x3f).toInt64.toUInt64).toInt64)), .second, .val (.long (q2 &&& (4294967295 : Int64))), .second, .unset, .unset, .unset, .unset, .unset, .unset] [])) _
    refine Goes.of (fun t k => XS.lload X0.here hx rfl (hb hby d1_44) rfl k) ?_
    show Goes p e below (s₁.setTop (mkF m 46 #[.val (.long q1), .second, .val (.long q2), .second, .val (.long ((q1.toUInt64 >>> ((32 : Int32) &&& 0x3f).toInt64.toUInt64).toInt64)), .second, .val (.long (q1 &&& (4294967295 : Int64))), .second, .val (.long ((q2.toUInt64 >>> ((32 : Int32) &&& 0x3f).toInt64.toUInt64).toInt64)), .second, .val (.long (q2 &&& (4294967295 : Int64))), .second, .unset, .unset, .unset, .unset, .unset, .unset] [(.long ((q1.toUInt64 >>> ((32 : Int32) &&& 0x3f).toInt64.toUInt64).toInt64))])) _
    refine Goes.of (fun t k => XS.lload X0.here hx rfl (hb hby d1_46) rfl k) ?_
    show Goes p e below (s₁.setTop (mkF m 48 #[.val (.long q1), .second, .val (.long q2), .second, .val (.long ((q1.toUInt64 >>> ((32 : Int32) &&& 0x3f).toInt64.toUInt64).toInt64)), .second, .val (.long (q1 &&& (4294967295 : Int64))), .second, .val (.long ((q2.toUInt64 >>> ((32 : Int32) &&& 0x3f).toInt64.toUInt64).toInt64)), .second, .val (.long (q2 &&& (4294967295 : Int64))), .second, .unset, .unset, .unset, .unset, .unset, .unset] [(.long (q2 &&& (4294967295 : Int64))), (.long ((q1.toUInt64 >>> ((32 : Int32) &&& 0x3f).toInt64.toUInt64).toInt64))])) _
    refine Goes.of (fun t k => XS.lmul X0.here hx rfl (hb hby d1_48) rfl k) ?_
    show Goes p e below (s₁.setTop (mkF m 49 #[.val (.long q1), .second, .val (.long q2), .second, .val (.long ((q1.toUInt64 >>> ((32 : Int32) &&& 0x3f).toInt64.toUInt64).toInt64)), .second, .val (.long (q1 &&& (4294967295 : Int64))), .second, .val (.long ((q2.toUInt64 >>> ((32 : Int32) &&& 0x3f).toInt64.toUInt64).toInt64)), .second, .val (.long (q2 &&& (4294967295 : Int64))), .second, .unset, .unset, .unset, .unset, .unset, .unset] [(.long (((q1.toUInt64 >>> ((32 : Int32) &&& 0x3f).toInt64.toUInt64).toInt64) * (q2 &&& (4294967295 : Int64))))])) _
    refine Goes.of (fun t k => XS.lload X0.here hx rfl (hb hby d1_49) rfl k) ?_
    show Goes p e below (s₁.setTop (mkF m 51 #[.val (.long q1), .second, .val (.long q2), .second, .val (.long ((q1.toUInt64 >>> ((32 : Int32) &&& 0x3f).toInt64.toUInt64).toInt64)), .second, .val (.long (q1 &&& (4294967295 : Int64))), .second, .val (.long ((q2.toUInt64 >>> ((32 : Int32) &&& 0x3f).toInt64.toUInt64).toInt64)), .second, .val (.long (q2 &&& (4294967295 : Int64))), .second, .unset, .unset, .unset, .unset, .unset, .unset] [(.long (q1 &&& (4294967295 : Int64))), (.long (((q1.toUInt64 >>> ((32 : Int32) &&& 0x3f).toInt64.toUInt64).toInt64) * (q2 &&& (4294967295 : Int64))))])) _
    refine Goes.of (fun t k => XS.lload X0.here hx rfl (hb hby d1_51) rfl k) ?_
    show Goes p e below (s₁.setTop (mkF m 53 #[.val (.long q1), .second, .val (.long q2), .second, .val (.long ((q1.toUInt64 >>> ((32 : Int32) &&& 0x3f).toInt64.toUInt64).toInt64)), .second, .val (.long (q1 &&& (4294967295 : Int64))), .second, .val (.long ((q2.toUInt64 >>> ((32 : Int32) &&& 0x3f).toInt64.toUInt64).toInt64)), .second, .val (.long (q2 &&& (4294967295 : Int64))), .second, .unset, .unset, .unset, .unset, .unset, .unset] [(.long ((q2.toUInt64 >>> ((32 : Int32) &&& 0x3f).toInt64.toUInt64).toInt64)), (.long (q1 &&& (4294967295 : Int64))), (.long (((q1.toUInt64 >>> ((32 : Int32) &&& 0x3f).toInt64.toUInt64).toInt64) * (q2 &&& (4294967295 : Int64))))])) _
    refine Goes.of (fun t k => XS.lmul X0.here hx rfl (hb hby d1_53) rfl k) ?_
    show Goes p e below (s₁.setTop (mkF m 54 #[.val (.long q1), .second, .val (.long q2), .second, .val (.long ((q1.toUInt64 >>> ((32 : Int32) &&& 0x3f).toInt64.toUInt64).toInt64)), .second, .val (.long (q1 &&& (4294967295 : Int64))), .second, .val (.long ((q2.toUInt64 >>> ((32 : Int32) &&& 0x3f).toInt64.toUInt64).toInt64)), .second, .val (.long (q2 &&& (4294967295 : Int64))), .second, .unset, .unset, .unset, .unset, .unset, .unset] [(.long ((q1 &&& (4294967295 : Int64)) * ((q2.toUInt64 >>> ((32 : Int32) &&& 0x3f).toInt64.toUInt64).toInt64))), (.long (((q1.toUInt64 >>> ((32 : Int32) &&& 0x3f).toInt64.toUInt64).toInt64) * (q2 &&& (4294967295 : Int64))))])) _
    refine Goes.of (fun t k => XS.ladd X0.here hx rfl (hb hby d1_54) rfl k) ?_
    show Goes p e below (s₁.setTop (mkF m 55 #[.val (.long q1), .second, .val (.long q2), .second, .val (.long ((q1.toUInt64 >>> ((32 : Int32) &&& 0x3f).toInt64.toUInt64).toInt64)), .second, .val (.long (q1 &&& (4294967295 : Int64))), .second, .val (.long ((q2.toUInt64 >>> ((32 : Int32) &&& 0x3f).toInt64.toUInt64).toInt64)), .second, .val (.long (q2 &&& (4294967295 : Int64))), .second, .unset, .unset, .unset, .unset, .unset, .unset] [(.long ((((q1.toUInt64 >>> ((32 : Int32) &&& 0x3f).toInt64.toUInt64).toInt64) * (q2 &&& (4294967295 : Int64))) + ((q1 &&& (4294967295 : Int64)) * ((q2.toUInt64 >>> ((32 : Int32) &&& 0x3f).toInt64.toUInt64).toInt64))))])) _
    refine Goes.of (fun t k => XS.lstore X0.here hx rfl (hb hby d1_55) rfl (l' := #[.val (.long q1), .second, .val (.long q2), .second, .val (.long ((q1.toUInt64 >>> ((32 : Int32) &&& 0x3f).toInt64.toUInt64).toInt64)), .second, .val (.long (q1 &&& (4294967295 : Int64))), .second, .val (.long ((q2.toUInt64 >>> ((32 : Int32) &&& 0x3f).toInt64.toUInt64).toInt64)), .second, .val (.long (q2 &&& (4294967295 : Int64))), .second, .val (.long ((((q1.toUInt64 >>> ((32 : Int32) &&& 0x3f).toInt64.toUInt64).toInt64) * (q2 &&& (4294967295 : Int64))) + ((q1 &&& (4294967295 : Int64)) * ((q2.toUInt64 >>> ((32 : Int32) &&& 0x3f).toInt64.toUInt64).toInt64)))), .second, .unset, .unset, .unset, .unset]) rfl k) ?_
    show Goes p e below (s₁.setTop (mkF m 57 #[.val (.long q1), .second, .val (.long q2), .second, .val (.long ((q1.toUInt64 >>> ((32 : Int32) &&& 0x3f).toInt64.toUInt64).toInt64)), .second, .val (.long (q1 &&& (4294967295 : Int64))), .second, .val (.long ((q2.toUInt64 >>> ((32 : Int32) &&& 0x3f).toInt64.toUInt64).toInt64)), .second, .val (.long (q2 &&& (4294967295 : Int64))), .second, .val (.long ((((q1.toUInt64 >>> ((32 : Int32) &&& 0x3f).toInt64.toUInt64).toInt64) * (q2 &&& (4294967295 : Int64))) + ((q1 &&& (4294967295 : Int64)) * ((q2.toUInt64 >>> ((32 : Int32) &&& 0x3f).toInt64.toUInt64).toInt64)))), .second, .unset, .unset, .unset, .unset] [])) _
    refine Goes.of (fun t k => XS.lload X0.here hx rfl (hb hby d1_57) rfl k) ?_
    show Goes p e below (s₁.setTop (mkF m 59 #[.val (.long q1), .second, .val (.long q2), .second, .val (.long ((q1.toUInt64 >>> ((32 : Int32) &&& 0x3f).toInt64.toUInt64).toInt64)), .second, .val (.long (q1 &&& (4294967295 : Int64))), .second, .val (.long ((q2.toUInt64 >>> ((32 : Int32) &&& 0x3f).toInt64.toUInt64).toInt64)), .second, .val (.long (q2 &&& (4294967295 : Int64))), .second, .val (.long ((((q1.toUInt64 >>> ((32 : Int32) &&& 0x3f).toInt64.toUInt64).toInt64) * (q2 &&& (4294967295 : Int64))) + ((q1 &&& (4294967295 : Int64)) * ((q2.toUInt64 >>> ((32 : Int32) &&& 0x3f).toInt64.toUInt64).toInt64)))), .second, .unset, .unset, .unset, .unset] [(.long ((((q1.toUInt64 >>> ((32 : Int32) &&& 0x3f).toInt64.toUInt64).toInt64) * (q2 &&& (4294967295 : Int64))) + ((q1 &&& (4294967295 : Int64)) * ((q2.toUInt64 >>> ((32 : Int32) &&& 0x3f).toInt64.toUInt64).toInt64))))])) _
    refine Goes.of (fun t k => X0.ldc2Long hx hown (mvT hZ (hw _ (List.mem_of_getElem? (i := 6) rfl))) (g := (mkF m 59 #[.val (.long q1), .second, .val (.long q2), .second, .val (.long ((q1.toUInt64 >>> ((32 : Int32) &&& 0x3f).toInt64.toUInt64).toInt64)), .second, .val (.long (q1 &&& (4294967295 : Int64))), .second, .val (.long ((q2.toUInt64 >>> ((32 : Int32) &&& 0x3f).toInt64.toUInt64).toInt64)), .second, .val (.long (q2 &&& (4294967295 : Int64))), .second, .val (.long ((((q1.toUInt64 >>> ((32 : Int32) &&& 0x3f).toInt64.toUInt64).toInt64) * (q2 &&& (4294967295 : Int64))) + ((q1 &&& (4294967295 : Int64)) * ((q2.toUInt64 >>> ((32 : Int32) &&& 0x3f).toInt64.toUInt64).toInt64)))), .second, .unset, .unset, .unset, .unset] [(.long ((((q1.toUInt64 >>> ((32 : Int32) &&& 0x3f).toInt64.toUInt64).toInt64) * (q2 &&& (4294967295 : Int64))) + ((q1 &&& (4294967295 : Int64)) * ((q2.toUInt64 >>> ((32 : Int32) &&& 0x3f).toInt64.toUInt64).toInt64))))])) rfl (hb hby d1_59) _ k) ?_
    show Goes p e below (s₁.setTop (mkF m 62 #[.val (.long q1), .second, .val (.long q2), .second, .val (.long ((q1.toUInt64 >>> ((32 : Int32) &&& 0x3f).toInt64.toUInt64).toInt64)), .second, .val (.long (q1 &&& (4294967295 : Int64))), .second, .val (.long ((q2.toUInt64 >>> ((32 : Int32) &&& 0x3f).toInt64.toUInt64).toInt64)), .second, .val (.long (q2 &&& (4294967295 : Int64))), .second, .val (.long ((((q1.toUInt64 >>> ((32 : Int32) &&& 0x3f).toInt64.toUInt64).toInt64) * (q2 &&& (4294967295 : Int64))) + ((q1 &&& (4294967295 : Int64)) * ((q2.toUInt64 >>> ((32 : Int32) &&& 0x3f).toInt64.toUInt64).toInt64)))), .second, .unset, .unset, .unset, .unset] [(.long (2147483648 : Int64)), (.long ((((q1.toUInt64 >>> ((32 : Int32) &&& 0x3f).toInt64.toUInt64).toInt64) * (q2 &&& (4294967295 : Int64))) + ((q1 &&& (4294967295 : Int64)) * ((q2.toUInt64 >>> ((32 : Int32) &&& 0x3f).toInt64.toUInt64).toInt64))))])) _
    refine Goes.of (fun t k => XS.lcmp X0.here hx rfl (hb hby d1_62) rfl k) ?_
    show Goes p e below (s₁.setTop (mkF m 63 #[.val (.long q1), .second, .val (.long q2), .second, .val (.long ((q1.toUInt64 >>> ((32 : Int32) &&& 0x3f).toInt64.toUInt64).toInt64)), .second, .val (.long (q1 &&& (4294967295 : Int64))), .second, .val (.long ((q2.toUInt64 >>> ((32 : Int32) &&& 0x3f).toInt64.toUInt64).toInt64)), .second, .val (.long (q2 &&& (4294967295 : Int64))), .second, .val (.long ((((q1.toUInt64 >>> ((32 : Int32) &&& 0x3f).toInt64.toUInt64).toInt64) * (q2 &&& (4294967295 : Int64))) + ((q1 &&& (4294967295 : Int64)) * ((q2.toUInt64 >>> ((32 : Int32) &&& 0x3f).toInt64.toUInt64).toInt64)))), .second, .unset, .unset, .unset, .unset] [(.int (lcmpW ((((q1.toUInt64 >>> ((32 : Int32) &&& 0x3f).toInt64.toUInt64).toInt64) * (q2 &&& (4294967295 : Int64))) + ((q1 &&& (4294967295 : Int64)) * ((q2.toUInt64 >>> ((32 : Int32) &&& 0x3f).toInt64.toUInt64).toInt64))) (2147483648 : Int64)))])) _
    by_cases hc63_2 : ((((q1.toUInt64 >>> ((32 : Int32) &&& 0x3f).toInt64.toUInt64).toInt64) * (q2 &&& (4294967295 : Int64))) + ((q1 &&& (4294967295 : Int64)) * ((q2.toUInt64 >>> ((32 : Int32) &&& 0x3f).toInt64.toUInt64).toInt64))) < (2147483648 : Int64)
    · refine Goes.of (fun t k => XS.ifYes X0.here hx rfl (pc0 := 63) (pc' := 70) rfl (hb hby d1_63) rfl ((if0 _ _).trans (tlt ((lw_lt _ _).mpr hc63_2)).1) (by decide) (by decide) k) ?_
      show Goes p e below (s₁.setTop (mkF m 70 #[.val (.long q1), .second, .val (.long q2), .second, .val (.long ((q1.toUInt64 >>> ((32 : Int32) &&& 0x3f).toInt64.toUInt64).toInt64)), .second, .val (.long (q1 &&& (4294967295 : Int64))), .second, .val (.long ((q2.toUInt64 >>> ((32 : Int32) &&& 0x3f).toInt64.toUInt64).toInt64)), .second, .val (.long (q2 &&& (4294967295 : Int64))), .second, .val (.long ((((q1.toUInt64 >>> ((32 : Int32) &&& 0x3f).toInt64.toUInt64).toInt64) * (q2 &&& (4294967295 : Int64))) + ((q1 &&& (4294967295 : Int64)) * ((q2.toUInt64 >>> ((32 : Int32) &&& 0x3f).toInt64.toUInt64).toInt64)))), .second, .unset, .unset, .unset, .unset] [])) _
      refine Goes.of (fun t k => XS.lload X0.here hx rfl (hb hby d1_70) rfl k) ?_
      show Goes p e below (s₁.setTop (mkF m 72 #[.val (.long q1), .second, .val (.long q2), .second, .val (.long ((q1.toUInt64 >>> ((32 : Int32) &&& 0x3f).toInt64.toUInt64).toInt64)), .second, .val (.long (q1 &&& (4294967295 : Int64))), .second, .val (.long ((q2.toUInt64 >>> ((32 : Int32) &&& 0x3f).toInt64.toUInt64).toInt64)), .second, .val (.long (q2 &&& (4294967295 : Int64))), .second, .val (.long ((((q1.toUInt64 >>> ((32 : Int32) &&& 0x3f).toInt64.toUInt64).toInt64) * (q2 &&& (4294967295 : Int64))) + ((q1 &&& (4294967295 : Int64)) * ((q2.toUInt64 >>> ((32 : Int32) &&& 0x3f).toInt64.toUInt64).toInt64)))), .second, .unset, .unset, .unset, .unset] [(.long (q1 &&& (4294967295 : Int64)))])) _
      refine Goes.of (fun t k => XS.lload X0.here hx rfl (hb hby d1_72) rfl k) ?_
      show Goes p e below (s₁.setTop (mkF m 74 #[.val (.long q1), .second, .val (.long q2), .second, .val (.long ((q1.toUInt64 >>> ((32 : Int32) &&& 0x3f).toInt64.toUInt64).toInt64)), .second, .val (.long (q1 &&& (4294967295 : Int64))), .second, .val (.long ((q2.toUInt64 >>> ((32 : Int32) &&& 0x3f).toInt64.toUInt64).toInt64)), .second, .val (.long (q2 &&& (4294967295 : Int64))), .second, .val (.long ((((q1.toUInt64 >>> ((32 : Int32) &&& 0x3f).toInt64.toUInt64).toInt64) * (q2 &&& (4294967295 : Int64))) + ((q1 &&& (4294967295 : Int64)) * ((q2.toUInt64 >>> ((32 : Int32) &&& 0x3f).toInt64.toUInt64).toInt64)))), .second, .unset, .unset, .unset, .unset] [(.long (q2 &&& (4294967295 : Int64))), (.long (q1 &&& (4294967295 : Int64)))])) _
      refine Goes.of (fun t k => XS.lmul X0.here hx rfl (hb hby d1_74) rfl k) ?_
      show Goes p e below (s₁.setTop (mkF m 75 #[.val (.long q1), .second, .val (.long q2), .second, .val (.long ((q1.toUInt64 >>> ((32 : Int32) &&& 0x3f).toInt64.toUInt64).toInt64)), .second, .val (.long (q1 &&& (4294967295 : Int64))), .second, .val (.long ((q2.toUInt64 >>> ((32 : Int32) &&& 0x3f).toInt64.toUInt64).toInt64)), .second, .val (.long (q2 &&& (4294967295 : Int64))), .second, .val (.long ((((q1.toUInt64 >>> ((32 : Int32) &&& 0x3f).toInt64.toUInt64).toInt64) * (q2 &&& (4294967295 : Int64))) + ((q1 &&& (4294967295 : Int64)) * ((q2.toUInt64 >>> ((32 : Int32) &&& 0x3f).toInt64.toUInt64).toInt64)))), .second, .unset, .unset, .unset, .unset] [(.long ((q1 &&& (4294967295 : Int64)) * (q2 &&& (4294967295 : Int64))))])) _
      refine Goes.of (fun t k => XS.lstore X0.here hx rfl (hb hby d1_75) rfl (l' := #[.val (.long q1), .second, .val (.long q2), .second, .val (.long ((q1.toUInt64 >>> ((32 : Int32) &&& 0x3f).toInt64.toUInt64).toInt64)), .second, .val (.long (q1 &&& (4294967295 : Int64))), .second, .val (.long ((q2.toUInt64 >>> ((32 : Int32) &&& 0x3f).toInt64.toUInt64).toInt64)), .second, .val (.long (q2 &&& (4294967295 : Int64))), .second, .val (.long ((((q1.toUInt64 >>> ((32 : Int32) &&& 0x3f).toInt64.toUInt64).toInt64) * (q2 &&& (4294967295 : Int64))) + ((q1 &&& (4294967295 : Int64)) * ((q2.toUInt64 >>> ((32 : Int32) &&& 0x3f).toInt64.toUInt64).toInt64)))), .second, .val (.long ((q1 &&& (4294967295 : Int64)) * (q2 &&& (4294967295 : Int64)))), .second, .unset, .unset]) rfl k) ?_
      show Goes p e below (s₁.setTop (mkF m 77 #[.val (.long q1), .second, .val (.long q2), .second, .val (.long ((q1.toUInt64 >>> ((32 : Int32) &&& 0x3f).toInt64.toUInt64).toInt64)), .second, .val (.long (q1 &&& (4294967295 : Int64))), .second, .val (.long ((q2.toUInt64 >>> ((32 : Int32) &&& 0x3f).toInt64.toUInt64).toInt64)), .second, .val (.long (q2 &&& (4294967295 : Int64))), .second, .val (.long ((((q1.toUInt64 >>> ((32 : Int32) &&& 0x3f).toInt64.toUInt64).toInt64) * (q2 &&& (4294967295 : Int64))) + ((q1 &&& (4294967295 : Int64)) * ((q2.toUInt64 >>> ((32 : Int32) &&& 0x3f).toInt64.toUInt64).toInt64)))), .second, .val (.long ((q1 &&& (4294967295 : Int64)) * (q2 &&& (4294967295 : Int64)))), .second, .unset, .unset] [])) _
      refine Goes.of (fun t k => XS.lload X0.here hx rfl (hb hby d1_77) rfl k) ?_
      show Goes p e below (s₁.setTop (mkF m 79 #[.val (.long q1), .second, .val (.long q2), .second, .val (.long ((q1.toUInt64 >>> ((32 : Int32) &&& 0x3f).toInt64.toUInt64).toInt64)), .second, .val (.long (q1 &&& (4294967295 : Int64))), .second, .val (.long ((q2.toUInt64 >>> ((32 : Int32) &&& 0x3f).toInt64.toUInt64).toInt64)), .second, .val (.long (q2 &&& (4294967295 : Int64))), .second, .val (.long ((((q1.toUInt64 >>> ((32 : Int32) &&& 0x3f).toInt64.toUInt64).toInt64) * (q2 &&& (4294967295 : Int64))) + ((q1 &&& (4294967295 : Int64)) * ((q2.toUInt64 >>> ((32 : Int32) &&& 0x3f).toInt64.toUInt64).toInt64)))), .second, .val (.long ((q1 &&& (4294967295 : Int64)) * (q2 &&& (4294967295 : Int64)))), .second, .unset, .unset] [(.long ((q1 &&& (4294967295 : Int64)) * (q2 &&& (4294967295 : Int64))))])) _
      refine Goes.of (fun t k => XS.lconst X0.here hx rfl (hb hby d1_79) k) ?_
      show Goes p e below (s₁.setTop (mkF m 80 #[.val (.long q1), .second, .val (.long q2), .second, .val (.long ((q1.toUInt64 >>> ((32 : Int32) &&& 0x3f).toInt64.toUInt64).toInt64)), .second, .val (.long (q1 &&& (4294967295 : Int64))), .second, .val (.long ((q2.toUInt64 >>> ((32 : Int32) &&& 0x3f).toInt64.toUInt64).toInt64)), .second, .val (.long (q2 &&& (4294967295 : Int64))), .second, .val (.long ((((q1.toUInt64 >>> ((32 : Int32) &&& 0x3f).toInt64.toUInt64).toInt64) * (q2 &&& (4294967295 : Int64))) + ((q1 &&& (4294967295 : Int64)) * ((q2.toUInt64 >>> ((32 : Int32) &&& 0x3f).toInt64.toUInt64).toInt64)))), .second, .val (.long ((q1 &&& (4294967295 : Int64)) * (q2 &&& (4294967295 : Int64)))), .second, .unset, .unset] [(.long (0 : Int64)), (.long ((q1 &&& (4294967295 : Int64)) * (q2 &&& (4294967295 : Int64))))])) _
      refine Goes.of (fun t k => XS.lcmp X0.here hx rfl (hb hby d1_80) rfl k) ?_
      show Goes p e below (s₁.setTop (mkF m 81 #[.val (.long q1), .second, .val (.long q2), .second, .val (.long ((q1.toUInt64 >>> ((32 : Int32) &&& 0x3f).toInt64.toUInt64).toInt64)), .second, .val (.long (q1 &&& (4294967295 : Int64))), .second, .val (.long ((q2.toUInt64 >>> ((32 : Int32) &&& 0x3f).toInt64.toUInt64).toInt64)), .second, .val (.long (q2 &&& (4294967295 : Int64))), .second, .val (.long ((((q1.toUInt64 >>> ((32 : Int32) &&& 0x3f).toInt64.toUInt64).toInt64) * (q2 &&& (4294967295 : Int64))) + ((q1 &&& (4294967295 : Int64)) * ((q2.toUInt64 >>> ((32 : Int32) &&& 0x3f).toInt64.toUInt64).toInt64)))), .second, .val (.long ((q1 &&& (4294967295 : Int64)) * (q2 &&& (4294967295 : Int64)))), .second, .unset, .unset] [(.int (lcmpW ((q1 &&& (4294967295 : Int64)) * (q2 &&& (4294967295 : Int64))) (0 : Int64)))])) _
      by_cases hc81_3 : ((q1 &&& (4294967295 : Int64)) * (q2 &&& (4294967295 : Int64))) < (0 : Int64)
      · refine Goes.of (fun t k => XS.ifNo X0.here hx rfl (hb hby d1_81) rfl ((if0 _ _).trans (tlt ((lw_lt _ _).mpr hc81_3)).2.1) k) ?_
        show Goes p e below (s₁.setTop (mkF m 84 #[.val (.long q1), .second, .val (.long q2), .second, .val (.long ((q1.toUInt64 >>> ((32 : Int32) &&& 0x3f).toInt64.toUInt64).toInt64)), .second, .val (.long (q1 &&& (4294967295 : Int64))), .second, .val (.long ((q2.toUInt64 >>> ((32 : Int32) &&& 0x3f).toInt64.toUInt64).toInt64)), .second, .val (.long (q2 &&& (4294967295 : Int64))), .second, .val (.long ((((q1.toUInt64 >>> ((32 : Int32) &&& 0x3f).toInt64.toUInt64).toInt64) * (q2 &&& (4294967295 : Int64))) + ((q1 &&& (4294967295 : Int64)) * ((q2.toUInt64 >>> ((32 : Int32) &&& 0x3f).toInt64.toUInt64).toInt64)))), .second, .val (.long ((q1 &&& (4294967295 : Int64)) * (q2 &&& (4294967295 : Int64)))), .second, .unset, .unset] [])) _
        refine Goes.of (fun t k => X0.ldc2Long hx hown (mvT hZ (hw _ (List.mem_of_getElem? (i := 0) rfl))) (g := (mkF m 84 #[.val (.long q1), .second, .val (.long q2), .second, .val (.long ((q1.toUInt64 >>> ((32 : Int32) &&& 0x3f).toInt64.toUInt64).toInt64)), .second, .val (.long (q1 &&& (4294967295 : Int64))), .second, .val (.long ((q2.toUInt64 >>> ((32 : Int32) &&& 0x3f).toInt64.toUInt64).toInt64)), .second, .val (.long (q2 &&& (4294967295 : Int64))), .second, .val (.long ((((q1.toUInt64 >>> ((32 : Int32) &&& 0x3f).toInt64.toUInt64).toInt64) * (q2 &&& (4294967295 : Int64))) + ((q1 &&& (4294967295 : Int64)) * ((q2.toUInt64 >>> ((32 : Int32) &&& 0x3f).toInt64.toUInt64).toInt64)))), .second, .val (.long ((q1 &&& (4294967295 : Int64)) * (q2 &&& (4294967295 : Int64)))), .second, .unset, .unset] [])) rfl (hb hby d1_84) _ k) ?_
        show Goes p e below (s₁.setTop (mkF m 87 #[.val (.long q1), .second, .val (.long q2), .second, .val (.long ((q1.toUInt64 >>> ((32 : Int32) &&& 0x3f).toInt64.toUInt64).toInt64)), .second, .val (.long (q1 &&& (4294967295 : Int64))), .second, .val (.long ((q2.toUInt64 >>> ((32 : Int32) &&& 0x3f).toInt64.toUInt64).toInt64)), .second, .val (.long (q2 &&& (4294967295 : Int64))), .second, .val (.long ((((q1.toUInt64 >>> ((32 : Int32) &&& 0x3f).toInt64.toUInt64).toInt64) * (q2 &&& (4294967295 : Int64))) + ((q1 &&& (4294967295 : Int64)) * ((q2.toUInt64 >>> ((32 : Int32) &&& 0x3f).toInt64.toUInt64).toInt64)))), .second, .val (.long ((q1 &&& (4294967295 : Int64)) * (q2 &&& (4294967295 : Int64)))), .second, .unset, .unset] [(.long (9223372036854775807 : Int64))])) _
        have hv : f1 q1 q2 = (9223372036854775807 : Int64) := by simp only [f1, if_pos hc30_1, if_pos hc63_2, if_pos hc81_3]
        exact Goes.retJ X0 hx Bd.returns hlocks (hb hby d1_87) (⟨by rw [hv], N0, e0⟩) (by decide) (by decide)
      · refine Goes.of (fun t k => XS.ifYes X0.here hx rfl (pc0 := 81) (pc' := 88) rfl (hb hby d1_81) rfl ((if0 _ _).trans (flt (mt (lw_lt _ _).mp hc81_3)).2.1) (by decide) (by decide) k) ?_
        show Goes p e below (s₁.setTop (mkF m 88 #[.val (.long q1), .second, .val (.long q2), .second, .val (.long ((q1.toUInt64 >>> ((32 : Int32) &&& 0x3f).toInt64.toUInt64).toInt64)), .second, .val (.long (q1 &&& (4294967295 : Int64))), .second, .val (.long ((q2.toUInt64 >>> ((32 : Int32) &&& 0x3f).toInt64.toUInt64).toInt64)), .second, .val (.long (q2 &&& (4294967295 : Int64))), .second, .val (.long ((((q1.toUInt64 >>> ((32 : Int32) &&& 0x3f).toInt64.toUInt64).toInt64) * (q2 &&& (4294967295 : Int64))) + ((q1 &&& (4294967295 : Int64)) * ((q2.toUInt64 >>> ((32 : Int32) &&& 0x3f).toInt64.toUInt64).toInt64)))), .second, .val (.long ((q1 &&& (4294967295 : Int64)) * (q2 &&& (4294967295 : Int64)))), .second, .unset, .unset] [])) _
        refine Goes.of (fun t k => XS.lload X0.here hx rfl (hb hby d1_88) rfl k) ?_
        show Goes p e below (s₁.setTop (mkF m 90 #[.val (.long q1), .second, .val (.long q2), .second, .val (.long ((q1.toUInt64 >>> ((32 : Int32) &&& 0x3f).toInt64.toUInt64).toInt64)), .second, .val (.long (q1 &&& (4294967295 : Int64))), .second, .val (.long ((q2.toUInt64 >>> ((32 : Int32) &&& 0x3f).toInt64.toUInt64).toInt64)), .second, .val (.long (q2 &&& (4294967295 : Int64))), .second, .val (.long ((((q1.toUInt64 >>> ((32 : Int32) &&& 0x3f).toInt64.toUInt64).toInt64) * (q2 &&& (4294967295 : Int64))) + ((q1 &&& (4294967295 : Int64)) * ((q2.toUInt64 >>> ((32 : Int32) &&& 0x3f).toInt64.toUInt64).toInt64)))), .second, .val (.long ((q1 &&& (4294967295 : Int64)) * (q2 &&& (4294967295 : Int64)))), .second, .unset, .unset] [(.long ((((q1.toUInt64 >>> ((32 : Int32) &&& 0x3f).toInt64.toUInt64).toInt64) * (q2 &&& (4294967295 : Int64))) + ((q1 &&& (4294967295 : Int64)) * ((q2.toUInt64 >>> ((32 : Int32) &&& 0x3f).toInt64.toUInt64).toInt64))))])) _
        refine Goes.of (fun t k => XS.bipush X0.here hx rfl (hb hby d1_90) k) ?_
        show Goes p e below (s₁.setTop (mkF m 92 #[.val (.long q1), .second, .val (.long q2), .second, .val (.long ((q1.toUInt64 >>> ((32 : Int32) &&& 0x3f).toInt64.toUInt64).toInt64)), .second, .val (.long (q1 &&& (4294967295 : Int64))), .second, .val (.long ((q2.toUInt64 >>> ((32 : Int32) &&& 0x3f).toInt64.toUInt64).toInt64)), .second, .val (.long (q2 &&& (4294967295 : Int64))), .second, .val (.long ((((q1.toUInt64 >>> ((32 : Int32) &&& 0x3f).toInt64.toUInt64).toInt64) * (q2 &&& (4294967295 : Int64))) + ((q1 &&& (4294967295 : Int64)) * ((q2.toUInt64 >>> ((32 : Int32) &&& 0x3f).toInt64.toUInt64).toInt64)))), .second, .val (.long ((q1 &&& (4294967295 : Int64)) * (q2 &&& (4294967295 : Int64)))), .second, .unset, .unset] [(.int (32 : Int32)), (.long ((((q1.toUInt64 >>> ((32 : Int32) &&& 0x3f).toInt64.toUInt64).toInt64) * (q2 &&& (4294967295 : Int64))) + ((q1 &&& (4294967295 : Int64)) * ((q2.toUInt64 >>> ((32 : Int32) &&& 0x3f).toInt64.toUInt64).toInt64))))])) _
        refine Goes.of (fun t k => XS.lshl X0.here hx rfl (hb hby d1_92) rfl k) ?_
        show Goes p e below (s₁.setTop (mkF m 93 #[.val (.long q1), .second, .val (.long q2), .second, .val (.long ((q1.toUInt64 >>> ((32 : Int32) &&& 0x3f).toInt64.toUInt64).toInt64)), .second, .val (.long (q1 &&& (4294967295 : Int64))), .second, .val (.long ((q2.toUInt64 >>> ((32 : Int32) &&& 0x3f).toInt64.toUInt64).toInt64)), .second, .val (.long (q2 &&& (4294967295 : Int64))), .second, .val (.long ((((q1.toUInt64 >>> ((32 : Int32) &&& 0x3f).toInt64.toUInt64).toInt64) * (q2 &&& (4294967295 : Int64))) + ((q1 &&& (4294967295 : Int64)) * ((q2.toUInt64 >>> ((32 : Int32) &&& 0x3f).toInt64.toUInt64).toInt64)))), .second, .val (.long ((q1 &&& (4294967295 : Int64)) * (q2 &&& (4294967295 : Int64)))), .second, .unset, .unset] [(.long (((((q1.toUInt64 >>> ((32 : Int32) &&& 0x3f).toInt64.toUInt64).toInt64) * (q2 &&& (4294967295 : Int64))) + ((q1 &&& (4294967295 : Int64)) * ((q2.toUInt64 >>> ((32 : Int32) &&& 0x3f).toInt64.toUInt64).toInt64))) <<< ((32 : Int32) &&& 0x3f).toInt64))])) _
        refine Goes.of (fun t k => XS.lload X0.here hx rfl (hb hby d1_93) rfl k) ?_
        show Goes p e below (s₁.setTop (mkF m 95 #[.val (.long q1), .second, .val (.long q2), .second, .val (.long ((q1.toUInt64 >>> ((32 : Int32) &&& 0x3f).toInt64.toUInt64).toInt64)), .second, .val (.long (q1 &&& (4294967295 : Int64))), .second, .val (.long ((q2.toUInt64 >>> ((32 : Int32) &&& 0x3f).toInt64.toUInt64).toInt64)), .second, .val (.long (q2 &&& (4294967295 : Int64))), .second, .val (.long ((((q1.toUInt64 >>> ((32 : Int32) &&& 0x3f).toInt64.toUInt64).toInt64) * (q2 &&& (4294967295 : Int64))) + ((q1 &&& (4294967295 : Int64)) * ((q2.toUInt64 >>> ((32 : Int32) &&& 0x3f).toInt64.toUInt64).toInt64)))), .second, .val (.long ((q1 &&& (4294967295 : Int64)) * (q2 &&& (4294967295 : Int64)))), .second, .unset, .unset] [(.long ((q1 &&& (4294967295 : Int64)) * (q2 &&& (4294967295 : Int64)))), (.long (((((q1.toUInt64 >>> ((32 : Int32) &&& 0x3f).toInt64.toUInt64).toInt64) * (q2 &&& (4294967295 : Int64))) + ((q1 &&& (4294967295 : Int64)) * ((q2.toUInt64 >>> ((32 : Int32) &&& 0x3f).toInt64.toUInt64).toInt64))) <<< ((32 : Int32) &&& 0x3f).toInt64))])) _
        refine Goes.of (fun t k => XS.ladd X0.here hx rfl (hb hby d1_95) rfl k) ?_
        show Goes p e below (s₁.setTop (mkF m 96 #[.val (.long q1), .second, .val (.long q2), .second, .val (.long ((q1.toUInt64 >>> ((32 : Int32) &&& 0x3f).toInt64.toUInt64).toInt64)), .second, .val (.long (q1 &&& (4294967295 : Int64))), .second, .val (.long ((q2.toUInt64 >>> ((32 : Int32) &&& 0x3f).toInt64.toUInt64).toInt64)), .second, .val (.long (q2 &&& (4294967295 : Int64))), .second, .val (.long ((((q1.toUInt64 >>> ((32 : Int32) &&& 0x3f).toInt64.toUInt64).toInt64) * (q2 &&& (4294967295 : Int64))) + ((q1 &&& (4294967295 : Int64)) * ((q2.toUInt64 >>> ((32 : Int32) &&& 0x3f).toInt64.toUInt64).toInt64)))), .second, .val (.long ((q1 &&& (4294967295 : Int64)) * (q2 &&& (4294967295 : Int64)))), .second, .unset, .unset] [(.long ((((((q1.toUInt64 >>> ((32 : Int32) &&& 0x3f).toInt64.toUInt64).toInt64) * (q2 &&& (4294967295 : Int64))) + ((q1 &&& (4294967295 : Int64)) * ((q2.toUInt64 >>> ((32 : Int32) &&& 0x3f).toInt64.toUInt64).toInt64))) <<< ((32 : Int32) &&& 0x3f).toInt64) + ((q1 &&& (4294967295 : Int64)) * (q2 &&& (4294967295 : Int64)))))])) _
        refine Goes.of (fun t k => XS.lstore X0.here hx rfl (hb hby d1_96) rfl (l' := #[.val (.long q1), .second, .val (.long q2), .second, .val (.long ((q1.toUInt64 >>> ((32 : Int32) &&& 0x3f).toInt64.toUInt64).toInt64)), .second, .val (.long (q1 &&& (4294967295 : Int64))), .second, .val (.long ((q2.toUInt64 >>> ((32 : Int32) &&& 0x3f).toInt64.toUInt64).toInt64)), .second, .val (.long (q2 &&& (4294967295 : Int64))), .second, .val (.long ((((q1.toUInt64 >>> ((32 : Int32) &&& 0x3f).toInt64.toUInt64).toInt64) * (q2 &&& (4294967295 : Int64))) + ((q1 &&& (4294967295 : Int64)) * ((q2.toUInt64 >>> ((32 : Int32) &&& 0x3f).toInt64.toUInt64).toInt64)))), .second, .val (.long ((q1 &&& (4294967295 : Int64)) * (q2 &&& (4294967295 : Int64)))), .second, .val (.long ((((((q1.toUInt64 >>> ((32 : Int32) &&& 0x3f).toInt64.toUInt64).toInt64) * (q2 &&& (4294967295 : Int64))) + ((q1 &&& (4294967295 : Int64)) * ((q2.toUInt64 >>> ((32 : Int32) &&& 0x3f).toInt64.toUInt64).toInt64))) <<< ((32 : Int32) &&& 0x3f).toInt64) + ((q1 &&& (4294967295 : Int64)) * (q2 &&& (4294967295 : Int64))))), .second]) rfl k) ?_
        show Goes p e below (s₁.setTop (mkF m 98 #[.val (.long q1), .second, .val (.long q2), .second, .val (.long ((q1.toUInt64 >>> ((32 : Int32) &&& 0x3f).toInt64.toUInt64).toInt64)), .second, .val (.long (q1 &&& (4294967295 : Int64))), .second, .val (.long ((q2.toUInt64 >>> ((32 : Int32) &&& 0x3f).toInt64.toUInt64).toInt64)), .second, .val (.long (q2 &&& (4294967295 : Int64))), .second, .val (.long ((((q1.toUInt64 >>> ((32 : Int32) &&& 0x3f).toInt64.toUInt64).toInt64) * (q2 &&& (4294967295 : Int64))) + ((q1 &&& (4294967295 : Int64)) * ((q2.toUInt64 >>> ((32 : Int32) &&& 0x3f).toInt64.toUInt64).toInt64)))), .second, .val (.long ((q1 &&& (4294967295 : Int64)) * (q2 &&& (4294967295 : Int64)))), .second, .val (.long ((((((q1.toUInt64 >>> ((32 : Int32) &&& 0x3f).toInt64.toUInt64).toInt64) * (q2 &&& (4294967295 : Int64))) + ((q1 &&& (4294967295 : Int64)) * ((q2.toUInt64 >>> ((32 : Int32) &&& 0x3f).toInt64.toUInt64).toInt64))) <<< ((32 : Int32) &&& 0x3f).toInt64) + ((q1 &&& (4294967295 : Int64)) * (q2 &&& (4294967295 : Int64))))), .second] [])) _
        refine Goes.of (fun t k => XS.lload X0.here hx rfl (hb hby d1_98) rfl k) ?_
        show Goes p e below (s₁.setTop (mkF m 100 #[.val (.long q1), .second, .val (.long q2), .second, .val (.long ((q1.toUInt64 >>> ((32 : Int32) &&& 0x3f).toInt64.toUInt64).toInt64)), .second, .val (.long (q1 &&& (4294967295 : Int64))), .second, .val (.long ((q2.toUInt64 >>> ((32 : Int32) &&& 0x3f).toInt64.toUInt64).toInt64)), .second, .val (.long (q2 &&& (4294967295 : Int64))), .second, .val (.long ((((q1.toUInt64 >>> ((32 : Int32) &&& 0x3f).toInt64.toUInt64).toInt64) * (q2 &&& (4294967295 : Int64))) + ((q1 &&& (4294967295 : Int64)) * ((q2.toUInt64 >>> ((32 : Int32) &&& 0x3f).toInt64.toUInt64).toInt64)))), .second, .val (.long ((q1 &&& (4294967295 : Int64)) * (q2 &&& (4294967295 : Int64)))), .second, .val (.long ((((((q1.toUInt64 >>> ((32 : Int32) &&& 0x3f).toInt64.toUInt64).toInt64) * (q2 &&& (4294967295 : Int64))) + ((q1 &&& (4294967295 : Int64)) * ((q2.toUInt64 >>> ((32 : Int32) &&& 0x3f).toInt64.toUInt64).toInt64))) <<< ((32 : Int32) &&& 0x3f).toInt64) + ((q1 &&& (4294967295 : Int64)) * (q2 &&& (4294967295 : Int64))))), .second] [(.long ((((((q1.toUInt64 >>> ((32 : Int32) &&& 0x3f).toInt64.toUInt64).toInt64) * (q2 &&& (4294967295 : Int64))) + ((q1 &&& (4294967295 : Int64)) * ((q2.toUInt64 >>> ((32 : Int32) &&& 0x3f).toInt64.toUInt64).toInt64))) <<< ((32 : Int32) &&& 0x3f).toInt64) + ((q1 &&& (4294967295 : Int64)) * (q2 &&& (4294967295 : Int64)))))])) _
        refine Goes.of (fun t k => XS.lconst X0.here hx rfl (hb hby d1_100) k) ?_
        show Goes p e below (s₁.setTop (mkF m 101 #[.val (.long q1), .second, .val (.long q2), .second, .val (.long ((q1.toUInt64 >>> ((32 : Int32) &&& 0x3f).toInt64.toUInt64).toInt64)), .second, .val (.long (q1 &&& (4294967295 : Int64))), .second, .val (.long ((q2.toUInt64 >>> ((32 : Int32) &&& 0x3f).toInt64.toUInt64).toInt64)), .second, .val (.long (q2 &&& (4294967295 : Int64))), .second, .val (.long ((((q1.toUInt64 >>> ((32 : Int32) &&& 0x3f).toInt64.toUInt64).toInt64) * (q2 &&& (4294967295 : Int64))) + ((q1 &&& (4294967295 : Int64)) * ((q2.toUInt64 >>> ((32 : Int32) &&& 0x3f).toInt64.toUInt64).toInt64)))), .second, .val (.long ((q1 &&& (4294967295 : Int64)) * (q2 &&& (4294967295 : Int64)))), .second, .val (.long ((((((q1.toUInt64 >>> ((32 : Int32) &&& 0x3f).toInt64.toUInt64).toInt64) * (q2 &&& (4294967295 : Int64))) + ((q1 &&& (4294967295 : Int64)) * ((q2.toUInt64 >>> ((32 : Int32) &&& 0x3f).toInt64.toUInt64).toInt64))) <<< ((32 : Int32) &&& 0x3f).toInt64) + ((q1 &&& (4294967295 : Int64)) * (q2 &&& (4294967295 : Int64))))), .second] [(.long (0 : Int64)), (.long ((((((q1.toUInt64 >>> ((32 : Int32) &&& 0x3f).toInt64.toUInt64).toInt64) * (q2 &&& (4294967295 : Int64))) + ((q1 &&& (4294967295 : Int64)) * ((q2.toUInt64 >>> ((32 : Int32) &&& 0x3f).toInt64.toUInt64).toInt64))) <<< ((32 : Int32) &&& 0x3f).toInt64) + ((q1 &&& (4294967295 : Int64)) * (q2 &&& (4294967295 : Int64)))))])) _
        refine Goes.of (fun t k => XS.lcmp X0.here hx rfl (hb hby d1_101) rfl k) ?_
        show Goes p e below (s₁.setTop (mkF m 102 #[.val (.long q1), .second, .val (.long q2), .second, .val (.long ((q1.toUInt64 >>> ((32 : Int32) &&& 0x3f).toInt64.toUInt64).toInt64)), .second, .val (.long (q1 &&& (4294967295 : Int64))), .second, .val (.long ((q2.toUInt64 >>> ((32 : Int32) &&& 0x3f).toInt64.toUInt64).toInt64)), .second, .val (.long (q2 &&& (4294967295 : Int64))), .second, .val (.long ((((q1.toUInt64 >>> ((32 : Int32) &&& 0x3f).toInt64.toUInt64).toInt64) * (q2 &&& (4294967295 : Int64))) + ((q1 &&& (4294967295 : Int64)) * ((q2.toUInt64 >>> ((32 : Int32) &&& 0x3f).toInt64.toUInt64).toInt64)))), .second, .val (.long ((q1 &&& (4294967295 : Int64)) * (q2 &&& (4294967295 : Int64)))), .second, .val (.long ((((((q1.toUInt64 >>> ((32 : Int32) &&& 0x3f).toInt64.toUInt64).toInt64) * (q2 &&& (4294967295 : Int64))) + ((q1 &&& (4294967295 : Int64)) * ((q2.toUInt64 >>> ((32 : Int32) &&& 0x3f).toInt64.toUInt64).toInt64))) <<< ((32 : Int32) &&& 0x3f).toInt64) + ((q1 &&& (4294967295 : Int64)) * (q2 &&& (4294967295 : Int64))))), .second] [(.int (lcmpW ((((((q1.toUInt64 >>> ((32 : Int32) &&& 0x3f).toInt64.toUInt64).toInt64) * (q2 &&& (4294967295 : Int64))) + ((q1 &&& (4294967295 : Int64)) * ((q2.toUInt64 >>> ((32 : Int32) &&& 0x3f).toInt64.toUInt64).toInt64))) <<< ((32 : Int32) &&& 0x3f).toInt64) + ((q1 &&& (4294967295 : Int64)) * (q2 &&& (4294967295 : Int64)))) (0 : Int64)))])) _
        by_cases hc102_4 : ((((((q1.toUInt64 >>> ((32 : Int32) &&& 0x3f).toInt64.toUInt64).toInt64) * (q2 &&& (4294967295 : Int64))) + ((q1 &&& (4294967295 : Int64)) * ((q2.toUInt64 >>> ((32 : Int32) &&& 0x3f).toInt64.toUInt64).toInt64))) <<< ((32 : Int32) &&& 0x3f).toInt64) + ((q1 &&& (4294967295 : Int64)) * (q2 &&& (4294967295 : Int64)))) < (0 : Int64)
        · refine Goes.of (fun t k => XS.ifNo X0.here hx rfl (hb hby d1_102) rfl ((if0 _ _).trans (tlt ((lw_lt _ _).mpr hc102_4)).2.1) k) ?_
          show Goes p e below (s₁.setTop (mkF m 105 #[.val (.long q1), .second, .val (.long q2), .second, .val (.long ((q1.toUInt64 >>> ((32 : Int32) &&& 0x3f).toInt64.toUInt64).toInt64)), .second, .val (.long (q1 &&& (4294967295 : Int64))), .second, .val (.long ((q2.toUInt64 >>> ((32 : Int32) &&& 0x3f).toInt64.toUInt64).toInt64)), .second, .val (.long (q2 &&& (4294967295 : Int64))), .second, .val (.long ((((q1.toUInt64 >>> ((32 : Int32) &&& 0x3f).toInt64.toUInt64).toInt64) * (q2 &&& (4294967295 : Int64))) + ((q1 &&& (4294967295 : Int64)) * ((q2.toUInt64 >>> ((32 : Int32) &&& 0x3f).toInt64.toUInt64).toInt64)))), .second, .val (.long ((q1 &&& (4294967295 : Int64)) * (q2 &&& (4294967295 : Int64)))), .second, .val (.long ((((((q1.toUInt64 >>> ((32 : Int32) &&& 0x3f).toInt64.toUInt64).toInt64) * (q2 &&& (4294967295 : Int64))) + ((q1 &&& (4294967295 : Int64)) * ((q2.toUInt64 >>> ((32 : Int32) &&& 0x3f).toInt64.toUInt64).toInt64))) <<< ((32 : Int32) &&& 0x3f).toInt64) + ((q1 &&& (4294967295 : Int64)) * (q2 &&& (4294967295 : Int64))))), .second] [])) _
          refine Goes.of (fun t k => X0.ldc2Long hx hown (mvT hZ (hw _ (List.mem_of_getElem? (i := 0) rfl))) (g := (mkF m 105 #[.val (.long q1), .second, .val (.long q2), .second, .val (.long ((q1.toUInt64 >>> ((32 : Int32) &&& 0x3f).toInt64.toUInt64).toInt64)), .second, .val (.long (q1 &&& (4294967295 : Int64))), .second, .val (.long ((q2.toUInt64 >>> ((32 : Int32) &&& 0x3f).toInt64.toUInt64).toInt64)), .second, .val (.long (q2 &&& (4294967295 : Int64))), .second, .val (.long ((((q1.toUInt64 >>> ((32 : Int32) &&& 0x3f).toInt64.toUInt64).toInt64) * (q2 &&& (4294967295 : Int64))) + ((q1 &&& (4294967295 : Int64)) * ((q2.toUInt64 >>> ((32 : Int32) &&& 0x3f).toInt64.toUInt64).toInt64)))), .second, .val (.long ((q1 &&& (4294967295 : Int64)) * (q2 &&& (4294967295 : Int64)))), .second, .val (.long ((((((q1.toUInt64 >>> ((32 : Int32) &&& 0x3f).toInt64.toUInt64).toInt64) * (q2 &&& (4294967295 : Int64))) + ((q1 &&& (4294967295 : Int64)) * ((q2.toUInt64 >>> ((32 : Int32) &&& 0x3f).toInt64.toUInt64).toInt64))) <<< ((32 : Int32) &&& 0x3f).toInt64) + ((q1 &&& (4294967295 : Int64)) * (q2 &&& (4294967295 : Int64))))), .second] [])) rfl (hb hby d1_105) _ k) ?_
          show Goes p e below (s₁.setTop (mkF m 108 #[.val (.long q1), .second, .val (.long q2), .second, .val (.long ((q1.toUInt64 >>> ((32 : Int32) &&& 0x3f).toInt64.toUInt64).toInt64)), .second, .val (.long (q1 &&& (4294967295 : Int64))), .second, .val (.long ((q2.toUInt64 >>> ((32 : Int32) &&& 0x3f).toInt64.toUInt64).toInt64)), .second, .val (.long (q2 &&& (4294967295 : Int64))), .second, .val (.long ((((q1.toUInt64 >>> ((32 : Int32) &&& 0x3f).toInt64.toUInt64).toInt64) * (q2 &&& (4294967295 : Int64))) + ((q1 &&& (4294967295 : Int64)) * ((q2.toUInt64 >>> ((32 : Int32) &&& 0x3f).toInt64.toUInt64).toInt64)))), .second, .val (.long ((q1 &&& (4294967295 : Int64)) * (q2 &&& (4294967295 : Int64)))), .second, .val (.long ((((((q1.toUInt64 >>> ((32 : Int32) &&& 0x3f).toInt64.toUInt64).toInt64) * (q2 &&& (4294967295 : Int64))) + ((q1 &&& (4294967295 : Int64)) * ((q2.toUInt64 >>> ((32 : Int32) &&& 0x3f).toInt64.toUInt64).toInt64))) <<< ((32 : Int32) &&& 0x3f).toInt64) + ((q1 &&& (4294967295 : Int64)) * (q2 &&& (4294967295 : Int64))))), .second] [(.long (9223372036854775807 : Int64))])) _
          have hv : f1 q1 q2 = (9223372036854775807 : Int64) := by simp only [f1, if_pos hc30_1, if_pos hc63_2, if_neg hc81_3, if_pos hc102_4]
          exact Goes.retJ X0 hx Bd.returns hlocks (hb hby d1_108) (⟨by rw [hv], N0, e0⟩) (by decide) (by decide)
        · refine Goes.of (fun t k => XS.ifYes X0.here hx rfl (pc0 := 102) (pc' := 109) rfl (hb hby d1_102) rfl ((if0 _ _).trans (flt (mt (lw_lt _ _).mp hc102_4)).2.1) (by decide) (by decide) k) ?_
          show Goes p e below (s₁.setTop (mkF m 109 #[.val (.long q1), .second, .val (.long q2), .second, .val (.long ((q1.toUInt64 >>> ((32 : Int32) &&& 0x3f).toInt64.toUInt64).toInt64)), .second, .val (.long (q1 &&& (4294967295 : Int64))), .second, .val (.long ((q2.toUInt64 >>> ((32 : Int32) &&& 0x3f).toInt64.toUInt64).toInt64)), .second, .val (.long (q2 &&& (4294967295 : Int64))), .second, .val (.long ((((q1.toUInt64 >>> ((32 : Int32) &&& 0x3f).toInt64.toUInt64).toInt64) * (q2 &&& (4294967295 : Int64))) + ((q1 &&& (4294967295 : Int64)) * ((q2.toUInt64 >>> ((32 : Int32) &&& 0x3f).toInt64.toUInt64).toInt64)))), .second, .val (.long ((q1 &&& (4294967295 : Int64)) * (q2 &&& (4294967295 : Int64)))), .second, .val (.long ((((((q1.toUInt64 >>> ((32 : Int32) &&& 0x3f).toInt64.toUInt64).toInt64) * (q2 &&& (4294967295 : Int64))) + ((q1 &&& (4294967295 : Int64)) * ((q2.toUInt64 >>> ((32 : Int32) &&& 0x3f).toInt64.toUInt64).toInt64))) <<< ((32 : Int32) &&& 0x3f).toInt64) + ((q1 &&& (4294967295 : Int64)) * (q2 &&& (4294967295 : Int64))))), .second] [])) _
          refine Goes.of (fun t k => XS.lload X0.here hx rfl (hb hby d1_109) rfl k) ?_
          show Goes p e below (s₁.setTop (mkF m 111 #[.val (.long q1), .second, .val (.long q2), .second, .val (.long ((q1.toUInt64 >>> ((32 : Int32) &&& 0x3f).toInt64.toUInt64).toInt64)), .second, .val (.long (q1 &&& (4294967295 : Int64))), .second, .val (.long ((q2.toUInt64 >>> ((32 : Int32) &&& 0x3f).toInt64.toUInt64).toInt64)), .second, .val (.long (q2 &&& (4294967295 : Int64))), .second, .val (.long ((((q1.toUInt64 >>> ((32 : Int32) &&& 0x3f).toInt64.toUInt64).toInt64) * (q2 &&& (4294967295 : Int64))) + ((q1 &&& (4294967295 : Int64)) * ((q2.toUInt64 >>> ((32 : Int32) &&& 0x3f).toInt64.toUInt64).toInt64)))), .second, .val (.long ((q1 &&& (4294967295 : Int64)) * (q2 &&& (4294967295 : Int64)))), .second, .val (.long ((((((q1.toUInt64 >>> ((32 : Int32) &&& 0x3f).toInt64.toUInt64).toInt64) * (q2 &&& (4294967295 : Int64))) + ((q1 &&& (4294967295 : Int64)) * ((q2.toUInt64 >>> ((32 : Int32) &&& 0x3f).toInt64.toUInt64).toInt64))) <<< ((32 : Int32) &&& 0x3f).toInt64) + ((q1 &&& (4294967295 : Int64)) * (q2 &&& (4294967295 : Int64))))), .second] [(.long ((((((q1.toUInt64 >>> ((32 : Int32) &&& 0x3f).toInt64.toUInt64).toInt64) * (q2 &&& (4294967295 : Int64))) + ((q1 &&& (4294967295 : Int64)) * ((q2.toUInt64 >>> ((32 : Int32) &&& 0x3f).toInt64.toUInt64).toInt64))) <<< ((32 : Int32) &&& 0x3f).toInt64) + ((q1 &&& (4294967295 : Int64)) * (q2 &&& (4294967295 : Int64)))))])) _
          have hv : f1 q1 q2 = ((((((q1.toUInt64 >>> ((32 : Int32) &&& 0x3f).toInt64.toUInt64).toInt64) * (q2 &&& (4294967295 : Int64))) + ((q1 &&& (4294967295 : Int64)) * ((q2.toUInt64 >>> ((32 : Int32) &&& 0x3f).toInt64.toUInt64).toInt64))) <<< ((32 : Int32) &&& 0x3f).toInt64) + ((q1 &&& (4294967295 : Int64)) * (q2 &&& (4294967295 : Int64)))) := by simp only [f1, if_pos hc30_1, if_pos hc63_2, if_neg hc81_3, if_neg hc102_4]
          exact Goes.retJ X0 hx Bd.returns hlocks (hb hby d1_111) (⟨by rw [hv], N0, e0⟩) (by decide) (by decide)
    · refine Goes.of (fun t k => XS.ifNo X0.here hx rfl (hb hby d1_63) rfl ((if0 _ _).trans (flt (mt (lw_lt _ _).mp hc63_2)).1) k) ?_
      show Goes p e below (s₁.setTop (mkF m 66 #[.val (.long q1), .second, .val (.long q2), .second, .val (.long ((q1.toUInt64 >>> ((32 : Int32) &&& 0x3f).toInt64.toUInt64).toInt64)), .second, .val (.long (q1 &&& (4294967295 : Int64))), .second, .val (.long ((q2.toUInt64 >>> ((32 : Int32) &&& 0x3f).toInt64.toUInt64).toInt64)), .second, .val (.long (q2 &&& (4294967295 : Int64))), .second, .val (.long ((((q1.toUInt64 >>> ((32 : Int32) &&& 0x3f).toInt64.toUInt64).toInt64) * (q2 &&& (4294967295 : Int64))) + ((q1 &&& (4294967295 : Int64)) * ((q2.toUInt64 >>> ((32 : Int32) &&& 0x3f).toInt64.toUInt64).toInt64)))), .second, .unset, .unset, .unset, .unset] [])) _
      refine Goes.of (fun t k => X0.ldc2Long hx hown (mvT hZ (hw _ (List.mem_of_getElem? (i := 0) rfl))) (g := (mkF m 66 #[.val (.long q1), .second, .val (.long q2), .second, .val (.long ((q1.toUInt64 >>> ((32 : Int32) &&& 0x3f).toInt64.toUInt64).toInt64)), .second, .val (.long (q1 &&& (4294967295 : Int64))), .second, .val (.long ((q2.toUInt64 >>> ((32 : Int32) &&& 0x3f).toInt64.toUInt64).toInt64)), .second, .val (.long (q2 &&& (4294967295 : Int64))), .second, .val (.long ((((q1.toUInt64 >>> ((32 : Int32) &&& 0x3f).toInt64.toUInt64).toInt64) * (q2 &&& (4294967295 : Int64))) + ((q1 &&& (4294967295 : Int64)) * ((q2.toUInt64 >>> ((32 : Int32) &&& 0x3f).toInt64.toUInt64).toInt64)))), .second, .unset, .unset, .unset, .unset] [])) rfl (hb hby d1_66) _ k) ?_
      show Goes p e below (s₁.setTop (mkF m 69 #[.val (.long q1), .second, .val (.long q2), .second, .val (.long ((q1.toUInt64 >>> ((32 : Int32) &&& 0x3f).toInt64.toUInt64).toInt64)), .second, .val (.long (q1 &&& (4294967295 : Int64))), .second, .val (.long ((q2.toUInt64 >>> ((32 : Int32) &&& 0x3f).toInt64.toUInt64).toInt64)), .second, .val (.long (q2 &&& (4294967295 : Int64))), .second, .val (.long ((((q1.toUInt64 >>> ((32 : Int32) &&& 0x3f).toInt64.toUInt64).toInt64) * (q2 &&& (4294967295 : Int64))) + ((q1 &&& (4294967295 : Int64)) * ((q2.toUInt64 >>> ((32 : Int32) &&& 0x3f).toInt64.toUInt64).toInt64)))), .second, .unset, .unset, .unset, .unset] [(.long (9223372036854775807 : Int64))])) _
      have hv : f1 q1 q2 = (9223372036854775807 : Int64) := by simp only [f1, if_pos hc30_1, if_neg hc63_2]
      exact Goes.retJ X0 hx Bd.returns hlocks (hb hby d1_69) (⟨by rw [hv], N0, e0⟩) (by decide) (by decide)
  · refine Goes.of (fun t k => XS.ifNo X0.here hx rfl (hb hby d1_30) rfl ((if0 _ _).trans (feq (mt (lw_eq _ _).mp hc30_1)).1) k) ?_
    show Goes p e below (s₁.setTop (mkF m 33 #[.val (.long q1), .second, .val (.long q2), .second, .val (.long ((q1.toUInt64 >>> ((32 : Int32) &&& 0x3f).toInt64.toUInt64).toInt64)), .second, .val (.long (q1 &&& (4294967295 : Int64))), .second, .val (.long ((q2.toUInt64 >>> ((32 : Int32) &&& 0x3f).toInt64.toUInt64).toInt64)), .second, .val (.long (q2 &&& (4294967295 : Int64))), .second, .unset, .unset, .unset, .unset, .unset, .unset] [])) _
    refine Goes.of (fun t k => XS.lload X0.here hx rfl (hb hby d1_33) rfl k) ?_
    show Goes p e below (s₁.setTop (mkF m 35 #[.val (.long q1), .second, .val (.long q2), .second, .val (.long ((q1.toUInt64 >>> ((32 : Int32) &&& 0x3f).toInt64.toUInt64).toInt64)), .second, .val (.long (q1 &&& (4294967295 : Int64))), .second, .val (.long ((q2.toUInt64 >>> ((32 : Int32) &&& 0x3f).toInt64.toUInt64).toInt64)), .second, .val (.long (q2 &&& (4294967295 : Int64))), .second, .unset, .unset, .unset, .unset, .unset, .unset] [(.long ((q2.toUInt64 >>> ((32 : Int32) &&& 0x3f).toInt64.toUInt64).toInt64))])) _
    refine Goes.of (fun t k => XS.lconst X0.here hx rfl (hb hby d1_35) k) ?_
    show Goes p e below (s₁.setTop (mkF m 36 #[.val (.long q1), .second, .val (.long q2), .second, .val (.long ((q1.toUInt64 >>> ((32 : Int32) &&& 0x3f).toInt64.toUInt64).toInt64)), .second, .val (.long (q1 &&& (4294967295 : Int64))), .second, .val (.long ((q2.toUInt64 >>> ((32 : Int32) &&& 0x3f).toInt64.toUInt64).toInt64)), .second, .val (.long (q2 &&& (4294967295 : Int64))), .second, .unset, .unset, .unset, .unset, .unset, .unset] [(.long (0 : Int64)), (.long ((q2.toUInt64 >>> ((32 : Int32) &&& 0x3f).toInt64.toUInt64).toInt64))])) _
    refine Goes.of (fun t k => XS.lcmp X0.here hx rfl (hb hby d1_36) rfl k) ?_
    show Goes p e below (s₁.setTop (mkF m 37 #[.val (.long q1), .second, .val (.long q2), .second, .val (.long ((q1.toUInt64 >>> ((32 : Int32) &&& 0x3f).toInt64.toUInt64).toInt64)), .second, .val (.long (q1 &&& (4294967295 : Int64))), .second, .val (.long ((q2.toUInt64 >>> ((32 : Int32) &&& 0x3f).toInt64.toUInt64).toInt64)), .second, .val (.long (q2 &&& (4294967295 : Int64))), .second, .unset, .unset, .unset, .unset, .unset, .unset] [(.int (lcmpW ((q2.toUInt64 >>> ((32 : Int32) &&& 0x3f).toInt64.toUInt64).toInt64) (0 : Int64)))])) _
    by_cases hc37_5 : ((q2.toUInt64 >>> ((32 : Int32) &&& 0x3f).toInt64.toUInt64).toInt64) = (0 : Int64)
    · refine Goes.of (fun t k => XS.ifYes X0.here hx rfl (pc0 := 37) (pc' := 44) rfl (hb hby d1_37) rfl ((if0 _ _).trans (teq ((lw_eq _ _).mpr hc37_5)).1) (by decide) (by decide) k) ?_
      show Goes p e below (s₁.setTop (mkF m 44 #[.val (.long q1), .second, .val (.long q2), .second, .val (.long ((q1.toUInt64 >>> ((32 : Int32) &&& 0x3f).toInt64.toUInt64).toInt64)), .second, .val (.long (q1 &&& (4294967295 : Int64))), .second, .val (.long ((q2.toUInt64 >>> ((32 : Int32) &&& 0x3f).toInt64.toUInt64).toInt64)), .second, .val (.long (q2 &&& (4294967295 : Int64))), .second, .unset, .unset, .unset, .unset, .unset, .unset] [])) _
      refine Goes.of (fun t k => XS.lload X0.here hx rfl (hb hby d1_44) rfl k) ?_
      show Goes p e below (s₁.setTop (mkF m 46 #[.val (.long q1), .second, .val (.long q2), .second, .val (.long ((q1.toUInt64 >>> ((32 : Int32) &&& 0x3f).toInt64.toUInt64).toInt64)), .second, .val (.long (q1 &&& (4294967295 : Int64))), .second, .val (.long ((q2.toUInt64 >>> ((32 : Int32) &&& 0x3f).toInt64.toUInt64).toInt64)), .second, .val (.long (q2 &&& (4294967295 : Int64))), .second, .unset, .unset, .unset, .unset, .unset, .unset] [(.long ((q1.toUInt64 >>> ((32 : Int32) &&& 0x3f).toInt64.toUInt64).toInt64))])) _
      refine Goes.of (fun t k => XS.lload X0.here hx rfl (hb hby d1_46) rfl k) ?_
      show Goes p e below (s₁.setTop (mkF m 48 #[.val (.long q1), .second, .val (.long q2), .second, .val (.long ((q1.toUInt64 >>> ((32 : Int32) &&& 0x3f).toInt64.toUInt64).toInt64)), .second, .val (.long (q1 &&& (4294967295 : Int64))), .second, .val (.long ((q2.toUInt64 >>> ((32 : Int32) &&& 0x3f).toInt64.toUInt64).toInt64)), .second, .val (.long (q2 &&& (4294967295 : Int64))), .second, .unset, .unset, .unset, .unset, .unset, .unset] [(.long (q2 &&& (4294967295 : Int64))), (.long ((q1.toUInt64 >>> ((32 : Int32) &&& 0x3f).toInt64.toUInt64).toInt64))])) _
      refine Goes.of (fun t k => XS.lmul X0.here hx rfl (hb hby d1_48) rfl k) ?_
      show Goes p e below (s₁.setTop (mkF m 49 #[.val (.long q1), .second, .val (.long q2), .second, .val (.long ((q1.toUInt64 >>> ((32 : Int32) &&& 0x3f).toInt64.toUInt64).toInt64)), .second, .val (.long (q1 &&& (4294967295 : Int64))), .second, .val (.long ((q2.toUInt64 >>> ((32 : Int32) &&& 0x3f).toInt64.toUInt64).toInt64)), .second, .val (.long (q2 &&& (4294967295 : Int64))), .second, .unset, .unset, .unset, .unset, .unset, .unset] [(.long (((q1.toUInt64 >>> ((32 : Int32) &&& 0x3f).toInt64.toUInt64).toInt64) * (q2 &&& (4294967295 : Int64))))])) _
      refine Goes.of (fun t k => XS.lload X0.here hx rfl (hb hby d1_49) rfl k) ?_
      show Goes p e below (s₁.setTop (mkF m 51 #[.val (.long q1), .second, .val (.long q2), .second, .val (.long ((q1.toUInt64 >>> ((32 : Int32) &&& 0x3f).toInt64.toUInt64).toInt64)), .second, .val (.long (q1 &&& (4294967295 : Int64))), .second, .val (.long ((q2.toUInt64 >>> ((32 : Int32) &&& 0x3f).toInt64.toUInt64).toInt64)), .second, .val (.long (q2 &&& (4294967295 : Int64))), .second, .unset, .unset, .unset, .unset, .unset, .unset] [(.long (q1 &&& (4294967295 : Int64))), (.long (((q1.toUInt64 >>> ((32 : Int32) &&& 0x3f).toInt64.toUInt64).toInt64) * (q2 &&& (4294967295 : Int64))))])) _
      refine Goes.of (fun t k => XS.lload X0.here hx rfl (hb hby d1_51) rfl k) ?_
      show Goes p e below (s₁.setTop (mkF m 53 #[.val (.long q1), .second, .val (.long q2), .second, .val (.long ((q1.toUInt64 >>> ((32 : Int32) &&& 0x3f).toInt64.toUInt64).toInt64)), .second, .val (.long (q1 &&& (4294967295 : Int64))), .second, .val (.long ((q2.toUInt64 >>> ((32 : Int32) &&& 0x3f).toInt64.toUInt64).toInt64)), .second, .val (.long (q2 &&& (4294967295 : Int64))), .second, .unset, .unset, .unset, .unset, .unset, .unset] [(.long ((q2.toUInt64 >>> ((32 : Int32) &&& 0x3f).toInt64.toUInt64).toInt64)), (.long (q1 &&& (4294967295 : Int64))), (.long (((q1.toUInt64 >>> ((32 : Int32) &&& 0x3f).toInt64.toUInt64).toInt64) * (q2 &&& (4294967295 : Int64))))])) _
      refine Goes.of (fun t k => XS.lmul X0.here hx rfl (hb hby d1_53) rfl k) ?_
      show Goes p e below (s₁.setTop (mkF m 54 #[.val (.long q1), .second, .val (.long q2), .second, .val (.long ((q1.toUInt64 >>> ((32 : Int32) &&& 0x3f).toInt64.toUInt64).toInt64)), .second, .val (.long (q1 &&& (4294967295 : Int64))), .second, .val (.long ((q2.toUInt64 >>> ((32 : Int32) &&& 0x3f).toInt64.toUInt64).toInt64)), .second, .val (.long (q2 &&& (4294967295 : Int64))), .second, .unset, .unset, .unset, .unset, .unset, .unset] [(.long ((q1 &&& (4294967295 : Int64)) * ((q2.toUInt64 >>> ((32 : Int32) &&& 0x3f).toInt64.toUInt64).toInt64))), (.long (((q1.toUInt64 >>> ((32 : Int32) &&& 0x3f).toInt64.toUInt64).toInt64) * (q2 &&& (4294967295 : Int64))))])) _
      refine Goes.of (fun t k => XS.ladd X0.here hx rfl (hb hby d1_54) rfl k) ?_
      show Goes p e below (s₁.setTop (mkF m 55 #[.val (.long q1), .second, .val (.long q2), .second, .val (.long ((q1.toUInt64 >>> ((32 : Int32) &&& 0x3f).toInt64.toUInt64).toInt64)), .second, .val (.long (q1 &&& (4294967295 : Int64))), .second, .val (.long ((q2.toUInt64 >>> ((32 : Int32) &&& 0x3f).toInt64.toUInt64).toInt64)), .second, .val (.long (q2 &&& (4294967295 : Int64))), .second, .unset, .unset, .unset, .unset, .unset, .unset] [(.long ((((q1.toUInt64 >>> ((32 : Int32) &&& 0x3f).toInt64.toUInt64).toInt64) * (q2 &&& (4294967295 : Int64))) + ((q1 &&& (4294967295 : Int64)) * ((q2.toUInt64 >>> ((32 : Int32) &&& 0x3f).toInt64.toUInt64).toInt64))))])) _
      refine Goes.of (fun t k => XS.lstore X0.here hx rfl (hb hby d1_55) rfl (l' := #[.val (.long q1), .second, .val (.long q2), .second, .val (.long ((q1.toUInt64 >>> ((32 : Int32) &&& 0x3f).toInt64.toUInt64).toInt64)), .second, .val (.long (q1 &&& (4294967295 : Int64))), .second, .val (.long ((q2.toUInt64 >>> ((32 : Int32) &&& 0x3f).toInt64.toUInt64).toInt64)), .second, .val (.long (q2 &&& (4294967295 : Int64))), .second, .val (.long ((((q1.toUInt64 >>> ((32 : Int32) &&& 0x3f).toInt64.toUInt64).toInt64) * (q2 &&& (4294967295 : Int64))) + ((q1 &&& (4294967295 : Int64)) * ((q2.toUInt64 >>> ((32 : Int32) &&& 0x3f).toInt64.toUInt64).toInt64)))), .second, .unset, .unset, .unset, .unset]) rfl k) ?_
      show Goes p e below (s₁.setTop (mkF m 57 #[.val (.long q1), .second, .val (.long q2), .second, .val (.long ((q1.toUInt64 >>> ((32 : Int32) &&& 0x3f).toInt64.toUInt64).toInt64)), .second, .val (.long (q1 &&& (4294967295 : Int64))), .second, .val (.long ((q2.toUInt64 >>> ((32 : Int32) &&& 0x3f).toInt64.toUInt64).toInt64)), .second, .val (.long (q2 &&& (4294967295 : Int64))), .second, .val (.long ((((q1.toUInt64 >>> ((32 : Int32) &&& 0x3f).toInt64.toUInt64).toInt64) * (q2 &&& (4294967295 : Int64))) + ((q1 &&& (4294967295 : Int64)) * ((q2.toUInt64 >>> ((32 : Int32) &&& 0x3f).toInt64.toUInt64).toInt64)))), .second, .unset, .unset, .unset, .unset] [])) _
      refine Goes.of (fun t k => XS.lload X0.here hx rfl (hb hby d1_57) rfl k) ?_
      show Goes p e below (s₁.setTop (mkF m 59 #[.val (.long q1), .second, .val (.long q2), .second, .val (.long ((q1.toUInt64 >>> ((32 : Int32) &&& 0x3f).toInt64.toUInt64).toInt64)), .second, .val (.long (q1 &&& (4294967295 : Int64))), .second, .val (.long ((q2.toUInt64 >>> ((32 : Int32) &&& 0x3f).toInt64.toUInt64).toInt64)), .second, .val (.long (q2 &&& (4294967295 : Int64))), .second, .val (.long ((((q1.toUInt64 >>> ((32 : Int32) &&& 0x3f).toInt64.toUInt64).toInt64) * (q2 &&& (4294967295 : Int64))) + ((q1 &&& (4294967295 : Int64)) * ((q2.toUInt64 >>> ((32 : Int32) &&& 0x3f).toInt64.toUInt64).toInt64)))), .second, .unset, .unset, .unset, .unset] [(.long ((((q1.toUInt64 >>> ((32 : Int32) &&& 0x3f).toInt64.toUInt64).toInt64) * (q2 &&& (4294967295 : Int64))) + ((q1 &&& (4294967295 : Int64)) * ((q2.toUInt64 >>> ((32 : Int32) &&& 0x3f).toInt64.toUInt64).toInt64))))])) _
      refine Goes.of (fun t k => X0.ldc2Long hx hown (mvT hZ (hw _ (List.mem_of_getElem? (i := 6) rfl))) (g := (mkF m 59 #[.val (.long q1), .second, .val (.long q2), .second, .val (.long ((q1.toUInt64 >>> ((32 : Int32) &&& 0x3f).toInt64.toUInt64).toInt64)), .second, .val (.long (q1 &&& (4294967295 : Int64))), .second, .val (.long ((q2.toUInt64 >>> ((32 : Int32) &&& 0x3f).toInt64.toUInt64).toInt64)), .second, .val (.long (q2 &&& (4294967295 : Int64))), .second, .val (.long ((((q1.toUInt64 >>> ((32 : Int32) &&& 0x3f).toInt64.toUInt64).toInt64) * (q2 &&& (4294967295 : Int64))) + ((q1 &&& (4294967295 : Int64)) * ((q2.toUInt64 >>> ((32 : Int32) &&& 0x3f).toInt64.toUInt64).toInt64)))), .second, .unset, .unset, .unset, .unset] [(.long ((((q1.toUInt64 >>> ((32 : Int32) &&& 0x3f).toInt64.toUInt64).toInt64) * (q2 &&& (4294967295 : Int64))) + ((q1 &&& (4294967295 : Int64)) * ((q2.toUInt64 >>> ((32 : Int32) &&& 0x3f).toInt64.toUInt64).toInt64))))])) rfl (hb hby d1_59) _ k) ?_
      show Goes p e below (s₁.setTop (mkF m 62 #[.val (.long q1), .second, .val (.long q2), .second, .val (.long ((q1.toUInt64 >>> ((32 : Int32) &&& 0x3f).toInt64.toUInt64).toInt64)), .second, .val (.long (q1 &&& (4294967295 : Int64))), .second, .val (.long ((q2.toUInt64 >>> ((32 : Int32) &&& 0x3f).toInt64.toUInt64).toInt64)), .second, .val (.long (q2 &&& (4294967295 : Int64))), .second, .val (.long ((((q1.toUInt64 >>> ((32 : Int32) &&& 0x3f).toInt64.toUInt64).toInt64) * (q2 &&& (4294967295 : Int64))) + ((q1 &&& (4294967295 : Int64)) * ((q2.toUInt64 >>> ((32 : Int32) &&& 0x3f).toInt64.toUInt64).toInt64)))), .second, .unset, .unset, .unset, .unset] [(.long (2147483648 : Int64)), (.long ((((q1.toUInt64 >>> ((32 : Int32) &&& 0x3f).toInt64.toUInt64).toInt64) * (q2 &&& (4294967295 : Int64))) + ((q1 &&& (4294967295 : Int64)) * ((q2.toUInt64 >>> ((32 : Int32) &&& 0x3f).toInt64.toUInt64).toInt64))))])) _
      refine Goes.of (fun t k => XS.lcmp X0.here hx rfl (hb hby d1_62) rfl k) ?_
      show Goes p e below (s₁.setTop (mkF m 63 #[.val (.long q1), .second, .val (.long q2), .second, .val (.long ((q1.toUInt64 >>> ((32 : Int32) &&& 0x3f).toInt64.toUInt64).toInt64)), .second, .val (.long (q1 &&& (4294967295 : Int64))), .second, .val (.long ((q2.toUInt64 >>> ((32 : Int32) &&& 0x3f).toInt64.toUInt64).toInt64)), .second, .val (.long (q2 &&& (4294967295 : Int64))), .second, .val (.long ((((q1.toUInt64 >>> ((32 : Int32) &&& 0x3f).toInt64.toUInt64).toInt64) * (q2 &&& (4294967295 : Int64))) + ((q1 &&& (4294967295 : Int64)) * ((q2.toUInt64 >>> ((32 : Int32) &&& 0x3f).toInt64.toUInt64).toInt64)))), .second, .unset, .unset, .unset, .unset] [(.int (lcmpW ((((q1.toUInt64 >>> ((32 : Int32) &&& 0x3f).toInt64.toUInt64).toInt64) * (q2 &&& (4294967295 : Int64))) + ((q1 &&& (4294967295 : Int64)) * ((q2.toUInt64 >>> ((32 : Int32) &&& 0x3f).toInt64.toUInt64).toInt64))) (2147483648 : Int64)))])) _
      by_cases hc63_6 : ((((q1.toUInt64 >>> ((32 : Int32) &&& 0x3f).toInt64.toUInt64).toInt64) * (q2 &&& (4294967295 : Int64))) + ((q1 &&& (4294967295 : Int64)) * ((q2.toUInt64 >>> ((32 : Int32) &&& 0x3f).toInt64.toUInt64).toInt64))) < (2147483648 : Int64)
      · refine Goes.of (fun t k => XS.ifYes X0.here hx rfl (pc0 := 63) (pc' := 70) rfl (hb hby d1_63) rfl ((if0 _ _).trans (tlt ((lw_lt _ _).mpr hc63_6)).1) (by decide) (by decide) k) ?_
        show Goes p e below (s₁.setTop (mkF m 70 #[.val (.long q1), .second, .val (.long q2), .second, .val (.long ((q1.toUInt64 >>> ((32 : Int32) &&& 0x3f).toInt64.toUInt64).toInt64)), .second, .val (.long (q1 &&& (4294967295 : Int64))), .second, .val (.long ((q2.toUInt64 >>> ((32 : Int32) &&& 0x3f).toInt64.toUInt64).toInt64)), .second, .val (.long (q2 &&& (4294967295 : Int64))), .second, .val (.long ((((q1.toUInt64 >>> ((32 : Int32) &&& 0x3f).toInt64.toUInt64).toInt64) * (q2 &&& (4294967295 : Int64))) + ((q1 &&& (4294967295 : Int64)) * ((q2.toUInt64 >>> ((32 : Int32) &&& 0x3f).toInt64.toUInt64).toInt64)))), .second, .unset, .unset, .unset, .unset] [])) _
        refine Goes.of (fun t k => XS.lload X0.here hx rfl (hb hby d1_70) rfl k) ?_
        show Goes p e below (s₁.setTop (mkF m 72 #[.val (.long q1), .second, .val (.long q2), .second, .val (.long ((q1.toUInt64 >>> ((32 : Int32) &&& 0x3f).toInt64.toUInt64).toInt64)), .second, .val (.long (q1 &&& (4294967295 : Int64))), .second, .val (.long ((q2.toUInt64 >>> ((32 : Int32) &&& 0x3f).toInt64.toUInt64).toInt64)), .second, .val (.long (q2 &&& (4294967295 : Int64))), .second, .val (.long ((((q1.toUInt64 >>> ((32 : Int32) &&& 0x3f).toInt64.toUInt64).toInt64) * (q2 &&& (4294967295 : Int64))) + ((q1 &&& (4294967295 : Int64)) * ((q2.toUInt64 >>> ((32 : Int32) &&& 0x3f).toInt64.toUInt64).toInt64)))), .second, .unset, .unset, .unset, .unset] [(.long (q1 &&& (4294967295 : Int64)))])) _
        refine Goes.of (fun t k => XS.lload X0.here hx rfl (hb hby d1_72) rfl k) ?_
        show Goes p e below (s₁.setTop (mkF m 74 #[.val (.long q1), .second, .val (.long q2), .second, .val (.long ((q1.toUInt64 >>> ((32 : Int32) &&& 0x3f).toInt64.toUInt64).toInt64)), .second, .val (.long (q1 &&& (4294967295 : Int64))), .second, .val (.long ((q2.toUInt64 >>> ((32 : Int32) &&& 0x3f).toInt64.toUInt64).toInt64)), .second, .val (.long (q2 &&& (4294967295 : Int64))), .second, .val (.long ((((q1.toUInt64 >>> ((32 : Int32) &&& 0x3f).toInt64.toUInt64).toInt64) * (q2 &&& (4294967295 : Int64))) + ((q1 &&& (4294967295 : Int64)) * ((q2.toUInt64 >>> ((32 : Int32) &&& 0x3f).toInt64.toUInt64).toInt64)))), .second, .unset, .unset, .unset, .unset] [(.long (q2 &&& (4294967295 : Int64))), (.long (q1 &&& (4294967295 : Int64)))])) _
        refine Goes.of (fun t k => XS.lmul X0.here hx rfl (hb hby d1_74) rfl k) ?_
        show Goes p e below (s₁.setTop (mkF m 75 #[.val (.long q1), .second, .val (.long q2), .second, .val (.long ((q1.toUInt64 >>> ((32 : Int32) &&& 0x3f).toInt64.toUInt64).toInt64)), .second, .val (.long (q1 &&& (4294967295 : Int64))), .second, .val (.long ((q2.toUInt64 >>> ((32 : Int32) &&& 0x3f).toInt64.toUInt64).toInt64)), .second, .val (.long (q2 &&& (4294967295 : Int64))), .second, .val (.long ((((q1.toUInt64 >>> ((32 : Int32) &&& 0x3f).toInt64.toUInt64).toInt64) * (q2 &&& (4294967295 : Int64))) + ((q1 &&& (4294967295 : Int64)) * ((q2.toUInt64 >>> ((32 : Int32) &&& 0x3f).toInt64.toUInt64).toInt64)))), .second, .unset, .unset, .unset, .unset] [(.long ((q1 &&& (4294967295 : Int64)) * (q2 &&& (4294967295 : Int64))))])) _
        refine Goes.of (fun t k => XS.lstore X0.here hx rfl (hb hby d1_75) rfl (l' := #[.val (.long q1), .second, .val (.long q2), .second, .val (.long ((q1.toUInt64 >>> ((32 : Int32) &&& 0x3f).toInt64.toUInt64).toInt64)), .second, .val (.long (q1 &&& (4294967295 : Int64))), .second, .val (.long ((q2.toUInt64 >>> ((32 : Int32) &&& 0x3f).toInt64.toUInt64).toInt64)), .second, .val (.long (q2 &&& (4294967295 : Int64))), .second, .val (.long ((((q1.toUInt64 >>> ((32 : Int32) &&& 0x3f).toInt64.toUInt64).toInt64) * (q2 &&& (4294967295 : Int64))) + ((q1 &&& (4294967295 : Int64)) * ((q2.toUInt64 >>> ((32 : Int32) &&& 0x3f).toInt64.toUInt64).toInt64)))), .second, .val (.long ((q1 &&& (4294967295 : Int64)) * (q2 &&& (4294967295 : Int64)))), .second, .unset, .unset]) rfl k) ?_
        show Goes p e below (s₁.setTop (mkF m 77 #[.val (.long q1), .second, .val (.long q2), .second, .val (.long ((q1.toUInt64 >>> ((32 : Int32) &&& 0x3f).toInt64.toUInt64).toInt64)), .second, .val (.long (q1 &&& (4294967295 : Int64))), .second, .val (.long ((q2.toUInt64 >>> ((32 : Int32) &&& 0x3f).toInt64.toUInt64).toInt64)), .second, .val (.long (q2 &&& (4294967295 : Int64))), .second, .val (.long ((((q1.toUInt64 >>> ((32 : Int32) &&& 0x3f).toInt64.toUInt64).toInt64) * (q2 &&& (4294967295 : Int64))) + ((q1 &&& (4294967295 : Int64)) * ((q2.toUInt64 >>> ((32 : Int32) &&& 0x3f).toInt64.toUInt64).toInt64)))), .second, .val (.long ((q1 &&& (4294967295 : Int64)) * (q2 &&& (4294967295 : Int64)))), .second, .unset, .unset] [])) _
        refine Goes.of (fun t k => XS.lload X0.here hx rfl (hb hby d1_77) rfl k) ?_
        show Goes p e below (s₁.setTop (mkF m 79 #[.val (.long q1), .second, .val (.long q2), .second, .val (.long ((q1.toUInt64 >>> ((32 : Int32) &&& 0x3f).toInt64.toUInt64).toInt64)), .second, .val (.long (q1 &&& (4294967295 : Int64))), .second, .val (.long ((q2.toUInt64 >>> ((32 : Int32) &&& 0x3f).toInt64.toUInt64).toInt64)), .second, .val (.long (q2 &&& (4294967295 : Int64))), .second, .val (.long ((((q1.toUInt64 >>> ((32 : Int32) &&& 0x3f).toInt64.toUInt64).toInt64) * (q2 &&& (4294967295 : Int64))) + ((q1 &&& (4294967295 : Int64)) * ((q2.toUInt64 >>> ((32 : Int32) &&& 0x3f).toInt64.toUInt64).toInt64)))), .second, .val (.long ((q1 &&& (4294967295 : Int64)) * (q2 &&& (4294967295 : Int64)))), .second, .unset, .unset] [(.long ((q1 &&& (4294967295 : Int64)) * (q2 &&& (4294967295 : Int64))))])) _
        refine Goes.of (fun t k => XS.lconst X0.here hx rfl (hb hby d1_79) k) ?_
        show Goes p e below (s₁.setTop (mkF m 80 #[.val (.long q1), .second, .val (.long q2), .second, .val (.long ((q1.toUInt64 >>> ((32 : Int32) &&& 0x3f).toInt64.toUInt64).toInt64)), .second, .val (.long (q1 &&& (4294967295 : Int64))), .second, .val (.long ((q2.toUInt64 >>> ((32 : Int32) &&& 0x3f).toInt64.toUInt64).toInt64)), .second, .val (.long (q2 &&& (4294967295 : Int64))), .second, .val (.long ((((q1.toUInt64 >>> ((32 : Int32) &&& 0x3f).toInt64.toUInt64).toInt64) * (q2 &&& (4294967295 : Int64))) + ((q1 &&& (4294967295 : Int64)) * ((q2.toUInt64 >>> ((32 : Int32) &&& 0x3f).toInt64.toUInt64).toInt64)))), .second, .val (.long ((q1 &&& (4294967295 : Int64)) * (q2 &&& (4294967295 : Int64)))), .second, .unset, .unset] [(.long (0 : Int64)), (.long ((q1 &&& (4294967295 : Int64)) * (q2 &&& (4294967295 : Int64))))])) _
        refine Goes.of (fun t k => XS.lcmp X0.here hx rfl (hb hby d1_80) rfl k) ?_
        show Goes p e below (s₁.setTop (mkF m 81 #[.val (.long q1), .second, .val (.long q2), .second, .val (.long ((q1.toUInt64 >>> ((32 : Int32) &&& 0x3f).toInt64.toUInt64).toInt64)), .second, .val (.long (q1 &&& (4294967295 : Int64))), .second, .val (.long ((q2.toUInt64 >>> ((32 : Int32) &&& 0x3f).toInt64.toUInt64).toInt64)), .second, .val (.long (q2 &&& (4294967295 : Int64))), .second, .val (.long ((((q1.toUInt64 >>> ((32 : Int32) &&& 0x3f).toInt64.toUInt64).toInt64) * (q2 &&& (4294967295 : Int64))) + ((q1 &&& (4294967295 : Int64)) * ((q2.toUInt64 >>> ((32 : Int32) &&& 0x3f).toInt64.toUInt64).toInt64)))), .second, .val (.long ((q1 &&& (4294967295 : Int64)) * (q2 &&& (4294967295 : Int64)))), .second, .unset, .unset] [(.int (lcmpW ((q1 &&& (4294967295 : Int64)) * (q2 &&& (4294967295 : Int64))) (0 : Int64)))])) _
        by_cases hc81_7 : ((q1 &&& (4294967295 : Int64)) * (q2 &&& (4294967295 : Int64))) < (0 : Int64)
        · refine Goes.of (fun t k => XS.ifNo X0.here hx rfl (hb hby d1_81) rfl ((if0 _ _).trans (tlt ((lw_lt _ _).mpr hc81_7)).2.1) k) ?_
          show Goes p e below (s₁.setTop (mkF m 84 #[.val (.long q1), .second, .val (.long q2), .second, .val (.long ((q1.toUInt64 >>> ((32 : Int32) &&& 0x3f).toInt64.toUInt64).toInt64)), .second, .val (.long (q1 &&& (4294967295 : Int64))), .second, .val (.long ((q2.toUInt64 >>> ((32 : Int32) &&& 0x3f).toInt64.toUInt64).toInt64)), .second, .val (.long (q2 &&& (4294967295 : Int64))), .second, .val (.long ((((q1.toUInt64 >>> ((32 : Int32) &&& 0x3f).toInt64.toUInt64).toInt64) * (q2 &&& (4294967295 : Int64))) + ((q1 &&& (4294967295 : Int64)) * ((q2.toUInt64 >>> ((32 : Int32) &&& 0x3f).toInt64.toUInt64).toInt64)))), .second, .val (.long ((q1 &&& (4294967295 : Int64)) * (q2 &&& (4294967295 : Int64)))), .second, .unset, .unset] [])) _
          refine Goes.of (fun t k => X0.ldc2Long hx hown (mvT hZ (hw _ (List.mem_of_getElem? (i := 0) rfl))) (g := (mkF m 84 #[.val (.long q1), .second, .val (.long q2), .second, .val (.long ((q1.toUInt64 >>> ((32 : Int32) &&& 0x3f).toInt64.toUInt64).toInt64)), .second, .val (.long (q1 &&& (4294967295 : Int64))), .second, .val (.long ((q2.toUInt64 >>> ((32 : Int32) &&& 0x3f).toInt64.toUInt64).toInt64)), .second, .val (.long (q2 &&& (4294967295 : Int64))), .second, .val (.long ((((q1.toUInt64 >>> ((32 : Int32) &&& 0x3f).toInt64.toUInt64).toInt64) * (q2 &&& (4294967295 : Int64))) + ((q1 &&& (4294967295 : Int64)) * ((q2.toUInt64 >>> ((32 : Int32) &&& 0x3f).toInt64.toUInt64).toInt64)))), .second, .val (.long ((q1 &&& (4294967295 : Int64)) * (q2 &&& (4294967295 : Int64)))), .second, .unset, .unset] [])) rfl (hb hby d1_84) _ k) ?_
          show Goes p e below (s₁.setTop (mkF m 87 #[.val (.long q1), .second, .val (.long q2), .second, .val (.long ((q1.toUInt64 >>> ((32 : Int32) &&& 0x3f).toInt64.toUInt64).toInt64)), .second, .val (.long (q1 &&& (4294967295 : Int64))), .second, .val (.long ((q2.toUInt64 >>> ((32 : Int32) &&& 0x3f).toInt64.toUInt64).toInt64)), .second, .val (.long (q2 &&& (4294967295 : Int64))), .second, .val (.long ((((q1.toUInt64 >>> ((32 : Int32) &&& 0x3f).toInt64.toUInt64).toInt64) * (q2 &&& (4294967295 : Int64))) + ((q1 &&& (4294967295 : Int64)) * ((q2.toUInt64 >>> ((32 : Int32) &&& 0x3f).toInt64.toUInt64).toInt64)))), .second, .val (.long ((q1 &&& (4294967295 : Int64)) * (q2 &&& (4294967295 : Int64)))), .second, .unset, .unset] [(.long (9223372036854775807 : Int64))])) _
          have hv : f1 q1 q2 = (9223372036854775807 : Int64) := by simp only [f1, if_neg hc30_1, if_pos hc37_5, if_pos hc63_6, if_pos hc81_7]
          exact Goes.retJ X0 hx Bd.returns hlocks (hb hby d1_87) (⟨by rw [hv], N0, e0⟩) (by decide) (by decide)
        · refine Goes.of (fun t k => XS.ifYes X0.here hx rfl (pc0 := 81) (pc' := 88) rfl (hb hby d1_81) rfl ((if0 _ _).trans (flt (mt (lw_lt _ _).mp hc81_7)).2.1) (by decide) (by decide) k) ?_
          show Goes p e below (s₁.setTop (mkF m 88 #[.val (.long q1), .second, .val (.long q2), .second, .val (.long ((q1.toUInt64 >>> ((32 : Int32) &&& 0x3f).toInt64.toUInt64).toInt64)), .second, .val (.long (q1 &&& (4294967295 : Int64))), .second, .val (.long ((q2.toUInt64 >>> ((32 : Int32) &&& 0x3f).toInt64.toUInt64).toInt64)), .second, .val (.long (q2 &&& (4294967295 : Int64))), .second, .val (.long ((((q1.toUInt64 >>> ((32 : Int32) &&& 0x3f).toInt64.toUInt64).toInt64) * (q2 &&& (4294967295 : Int64))) + ((q1 &&& (4294967295 : Int64)) * ((q2.toUInt64 >>> ((32 : Int32) &&& 0x3f).toInt64.toUInt64).toInt64)))), .second, .val (.long ((q1 &&& (4294967295 : Int64)) * (q2 &&& (4294967295 : Int64)))), .second, .unset, .unset] [])) _
          refine Goes.of (fun t k => XS.lload X0.here hx rfl (hb hby d1_88) rfl k) ?_
          show Goes p e below (s₁.setTop (mkF m 90 #[.val (.long q1), .second, .val (.long q2), .second, .val (.long ((q1.toUInt64 >>> ((32 : Int32) &&& 0x3f).toInt64.toUInt64).toInt64)), .second, .val (.long (q1 &&& (4294967295 : Int64))), .second, .val (.long ((q2.toUInt64 >>> ((32 : Int32) &&& 0x3f).toInt64.toUInt64).toInt64)), .second, .val (.long (q2 &&& (4294967295 : Int64))), .second, .val (.long ((((q1.toUInt64 >>> ((32 : Int32) &&& 0x3f).toInt64.toUInt64).toInt64) * (q2 &&& (4294967295 : Int64))) + ((q1 &&& (4294967295 : Int64)) * ((q2.toUInt64 >>> ((32 : Int32) &&& 0x3f).toInt64.toUInt64).toInt64)))), .second, .val (.long ((q1 &&& (4294967295 : Int64)) * (q2 &&& (4294967295 : Int64)))), .second, .unset, .unset] [(.long ((((q1.toUInt64 >>> ((32 : Int32) &&& 0x3f).toInt64.toUInt64).toInt64) * (q2 &&& (4294967295 : Int64))) + ((q1 &&& (4294967295 : Int64)) * ((q2.toUInt64 >>> ((32 : Int32) &&& 0x3f).toInt64.toUInt64).toInt64))))])) _
          refine Goes.of (fun t k => XS.bipush X0.here hx rfl (hb hby d1_90) k) ?_
          show Goes p e below (s₁.setTop (mkF m 92 #[.val (.long q1), .second, .val (.long q2), .second, .val (.long ((q1.toUInt64 >>> ((32 : Int32) &&& 0x3f).toInt64.toUInt64).toInt64)), .second, .val (.long (q1 &&& (4294967295 : Int64))), .second, .val (.long ((q2.toUInt64 >>> ((32 : Int32) &&& 0x3f).toInt64.toUInt64).toInt64)), .second, .val (.long (q2 &&& (4294967295 : Int64))), .second, .val (.long ((((q1.toUInt64 >>> ((32 : Int32) &&& 0x3f).toInt64.toUInt64).toInt64) * (q2 &&& (4294967295 : Int64))) + ((q1 &&& (4294967295 : Int64)) * ((q2.toUInt64 >>> ((32 : Int32) &&& 0x3f).toInt64.toUInt64).toInt64)))), .second, .val (.long ((q1 &&& (4294967295 : Int64)) * (q2 &&& (4294967295 : Int64)))), .second, .unset, .unset] [(.int (32 : Int32)), (.long ((((q1.toUInt64 >>> ((32 : Int32) &&& 0x3f).toInt64.toUInt64).toInt64) * (q2 &&& (4294967295 : Int64))) + ((q1 &&& (4294967295 : Int64)) * ((q2.toUInt64 >>> ((32 : Int32) &&& 0x3f).toInt64.toUInt64).toInt64))))])) _
          refine Goes.of (fun t k => XS.lshl X0.here hx rfl (hb hby d1_92) rfl k) ?_
          show Goes p e below (s₁.setTop (mkF m 93 #[.val (.long q1), .second, .val (.long q2), .second, .val (.long ((q1.toUInt64 >>> ((32 : Int32) &&& 0x3f).toInt64.toUInt64).toInt64)), .second, .val (.long (q1 &&& (4294967295 : Int64))), .second, .val (.long ((q2.toUInt64 >>> ((32 : Int32) &&& 0x3f).toInt64.toUInt64).toInt64)), .second, .val (.long (q2 &&& (4294967295 : Int64))), .second, .val (.long ((((q1.toUInt64 >>> ((32 : Int32) &&& 0x3f).toInt64.toUInt64).toInt64) * (q2 &&& (4294967295 : Int64))) + ((q1 &&& (4294967295 : Int64)) * ((q2.toUInt64 >>> ((32 : Int32) &&& 0x3f).toInt64.toUInt64).toInt64)))), .second, .val (.long ((q1 &&& (4294967295 : Int64)) * (q2 &&& (4294967295 : Int64)))), .second, .unset, .unset] [(.long (((((q1.toUInt64 >>> ((32 : Int32) &&& 0x3f).toInt64.toUInt64).toInt64) * (q2 &&& (4294967295 : Int64))) + ((q1 &&& (4294967295 : Int64)) * ((q2.toUInt64 >>> ((32 : Int32) &&& 0x3f).toInt64.toUInt64).toInt64))) <<< ((32 : Int32) &&& 0x3f).toInt64))])) _
          refine Goes.of (fun t k => XS.lload X0.here hx rfl (hb hby d1_93) rfl k) ?_
          show Goes p e below (s₁.setTop (mkF m 95 #[.val (.long q1), .second, .val (.long q2), .second, .val (.long ((q1.toUInt64 >>> ((32 : Int32) &&& 0x3f).toInt64.toUInt64).toInt64)), .second, .val (.long (q1 &&& (4294967295 : Int64))), .second, .val (.long ((q2.toUInt64 >>> ((32 : Int32) &&& 0x3f).toInt64.toUInt64).toInt64)), .second, .val (.long (q2 &&& (4294967295 : Int64))), .second, .val (.long ((((q1.toUInt64 >>> ((32 : Int32) &&& 0x3f).toInt64.toUInt64).toInt64) * (q2 &&& (4294967295 : Int64))) + ((q1 &&& (4294967295 : Int64)) * ((q2.toUInt64 >>> ((32 : Int32) &&& 0x3f).toInt64.toUInt64).toInt64)))), .second, .val (.long ((q1 &&& (4294967295 : Int64)) * (q2 &&& (4294967295 : Int64)))), .second, .unset, .unset] [(.long ((q1 &&& (4294967295 : Int64)) * (q2 &&& (4294967295 : Int64)))), (.long (((((q1.toUInt64 >>> ((32 : Int32) &&& 0x3f).toInt64.toUInt64).toInt64) * (q2 &&& (4294967295 : Int64))) + ((q1 &&& (4294967295 : Int64)) * ((q2.toUInt64 >>> ((32 : Int32) &&& 0x3f).toInt64.toUInt64).toInt64))) <<< ((32 : Int32) &&& 0x3f).toInt64))])) _
          refine Goes.of (fun t k => XS.ladd X0.here hx rfl (hb hby d1_95) rfl k) ?_
          show Goes p e below (s₁.setTop (mkF m 96 #[.val (.long q1), .second, .val (.long q2), .second, .val (.long ((q1.toUInt64 >>> ((32 : Int32) &&& 0x3f).toInt64.toUInt64).toInt64)), .second, .val (.long (q1 &&& (4294967295 : Int64))), .second, .val (.long ((q2.toUInt64 >>> ((32 : Int32) &&& 0x3f).toInt64.toUInt64).toInt64)), .second, .val (.long (q2 &&& (4294967295 : Int64))), .second, .val (.long ((((q1.toUInt64 >>> ((32 : Int32) &&& 0x3f).toInt64.toUInt64).toInt64) * (q2 &&& (4294967295 : Int64))) + ((q1 &&& (4294967295 : Int64)) * ((q2.toUInt64 >>> ((32 : Int32) &&& 0x3f).toInt64.toUInt64).toInt64)))), .second, .val (.long ((q1 &&& (4294967295 : Int64)) * (q2 &&& (4294967295 : Int64)))), .second, .unset, .unset] [(.long ((((((q1.toUInt64 >>> ((32 : Int32) &&& 0x3f).toInt64.toUInt64).toInt64) * (q2 &&& (4294967295 : Int64))) + ((q1 &&& (4294967295 : Int64)) * ((q2.toUInt64 >>> ((32 : Int32) &&& 0x3f).toInt64.toUInt64).toInt64))) <<< ((32 : Int32) &&& 0x3f).toInt64) + ((q1 &&& (4294967295 : Int64)) * (q2 &&& (4294967295 : Int64)))))])) _
          refine Goes.of (fun t k => XS.lstore X0.here hx rfl (hb hby d1_96) rfl (l' := #[.val (.long q1), .second, .val (.long q2), .second, .val (.long ((q1.toUInt64 >>> ((32 : Int32) &&& 0x3f).toInt64.toUInt64).toInt64)), .second, .val (.long (q1 &&& (4294967295 : Int64))), .second, .val (.long ((q2.toUInt64 >>> ((32 : Int32) &&& 0x3f).toInt64.toUInt64).toInt64)), .second, .val (.long (q2 &&& (4294967295 : Int64))), .second, .val (.long ((((q1.toUInt64 >>> ((32 : Int32) &&& 0x3f).toInt64.toUInt64).toInt64) * (q2 &&& (4294967295 : Int64))) + ((q1 &&& (4294967295 : Int64)) * ((q2.toUInt64 >>> ((32 : Int32) &&& 0x3f).toInt64.toUInt64).toInt64)))), .second, .val (.long ((q1 &&& (4294967295 : Int64)) * (q2 &&& (4294967295 : Int64)))), .second, .val (.long ((((((q1.toUInt64 >>> ((32 : Int32) &&& 0x3f).toInt64.toUInt64).toInt64) * (q2 &&& (4294967295 : Int64))) + ((q1 &&& (4294967295 : Int64)) * ((q2.toUInt64 >>> ((32 : Int32) &&& 0x3f).toInt64.toUInt64).toInt64))) <<< ((32 : Int32) &&& 0x3f).toInt64) + ((q1 &&& (4294967295 : Int64)) * (q2 &&& (4294967295 : Int64))))), .second]) rfl k) ?_
          show Goes p e below (s₁.setTop (mkF m 98 #[.val (.long q1), .second, .val (.long q2), .second, .val (.long ((q1.toUInt64 >>> ((32 : Int32) &&& 0x3f).toInt64.toUInt64).toInt64)), .second, .val (.long (q1 &&& (4294967295 : Int64))), .second, .val (.long ((q2.toUInt64 >>> ((32 : Int32) &&& 0x3f).toInt64.toUInt64).toInt64)), .second, .val (.long (q2 &&& (4294967295 : Int64))), .second, .val (.long ((((q1.toUInt64 >>> ((32 : Int32) &&& 0x3f).toInt64.toUInt64).toInt64) * (q2 &&& (4294967295 : Int64))) + ((q1 &&& (4294967295 : Int64)) * ((q2.toUInt64 >>> ((32 : Int32) &&& 0x3f).toInt64.toUInt64).toInt64)))), .second, .val (.long ((q1 &&& (4294967295 : Int64)) * (q2 &&& (4294967295 : Int64)))), .second, .val (.long ((((((q1.toUInt64 >>> ((32 : Int32) &&& 0x3f).toInt64.toUInt64).toInt64) * (q2 &&& (4294967295 : Int64))) + ((q1 &&& (4294967295 : Int64)) * ((q2.toUInt64 >>> ((32 : Int32) &&& 0x3f).toInt64.toUInt64).toInt64))) <<< ((32 : Int32) &&& 0x3f).toInt64) + ((q1 &&& (4294967295 : Int64)) * (q2 &&& (4294967295 : Int64))))), .second] [])) _
          refine Goes.of (fun t k => XS.lload X0.here hx rfl (hb hby d1_98) rfl k) ?_
          show Goes p e below (s₁.setTop (mkF m 100 #[.val (.long q1), .second, .val (.long q2), .second, .val (.long ((q1.toUInt64 >>> ((32 : Int32) &&& 0x3f).toInt64.toUInt64).toInt64)), .second, .val (.long (q1 &&& (4294967295 : Int64))), .second, .val (.long ((q2.toUInt64 >>> ((32 : Int32) &&& 0x3f).toInt64.toUInt64).toInt64)), .second, .val (.long (q2 &&& (4294967295 : Int64))), .second, .val (.long ((((q1.toUInt64 >>> ((32 : Int32) &&& 0x3f).toInt64.toUInt64).toInt64) * (q2 &&& (4294967295 : Int64))) + ((q1 &&& (4294967295 : Int64)) * ((q2.toUInt64 >>> ((32 : Int32) &&& 0x3f).toInt64.toUInt64).toInt64)))), .second, .val (.long ((q1 &&& (4294967295 : Int64)) * (q2 &&& (4294967295 : Int64)))), .second, .val (.long ((((((q1.toUInt64 >>> ((32 : Int32) &&& 0x3f).toInt64.toUInt64).toInt64) * (q2 &&& (4294967295 : Int64))) + ((q1 &&& (4294967295 : Int64)) * ((q2.toUInt64 >>> ((32 : Int32) &&& 0x3f).toInt64.toUInt64).toInt64))) <<< ((32 : Int32) &&& 0x3f).toInt64) + ((q1 &&& (4294967295 : Int64)) * (q2 &&& (4294967295 : Int64))))), .second] [(.long ((((((q1.toUInt64 >>> ((32 : Int32) &&& 0x3f).toInt64.toUInt64).toInt64) * (q2 &&& (4294967295 : Int64))) + ((q1 &&& (4294967295 : Int64)) * ((q2.toUInt64 >>> ((32 : Int32) &&& 0x3f).toInt64.toUInt64).toInt64))) <<< ((32 : Int32) &&& 0x3f).toInt64) + ((q1 &&& (4294967295 : Int64)) * (q2 &&& (4294967295 : Int64)))))])) _
          refine Goes.of (fun t k => XS.lconst X0.here hx rfl (hb hby d1_100) k) ?_
          show Goes p e below (s₁.setTop (mkF m 101 #[.val (.long q1), .second, .val (.long q2), .second, .val (.long ((q1.toUInt64 >>> ((32 : Int32) &&& 0x3f).toInt64.toUInt64).toInt64)), .second, .val (.long (q1 &&& (4294967295 : Int64))), .second, .val (.long ((q2.toUInt64 >>> ((32 : Int32) &&& 0x3f).toInt64.toUInt64).toInt64)), .second, .val (.long (q2 &&& (4294967295 : Int64))), .second, .val (.long ((((q1.toUInt64 >>> ((32 : Int32) &&& 0x3f).toInt64.toUInt64).toInt64) * (q2 &&& (4294967295 : Int64))) + ((q1 &&& (4294967295 : Int64)) * ((q2.toUInt64 >>> ((32 : Int32) &&& 0x3f).toInt64.toUInt64).toInt64)))), .second, .val (.long ((q1 &&& (4294967295 : Int64)) * (q2 &&& (4294967295 : Int64)))), .second, .val (.long ((((((q1.toUInt64 >>> ((32 : Int32) &&& 0x3f).toInt64.toUInt64).toInt64) * (q2 &&& (4294967295 : Int64))) + ((q1 &&& (4294967295 : Int64)) * ((q2.toUInt64 >>> ((32 : Int32) &&& 0x3f).toInt64.toUInt64).toInt64))) <<< ((32 : Int32) &&& 0x3f).toInt64) + ((q1 &&& (4294967295 : Int64)) * (q2 &&& (4294967295 : Int64))))), .second] [(.long (0 : Int64)), (.long ((((((q1.toUInt64 >>> ((32 : Int32) &&& 0x3f).toInt64.toUInt64).toInt64) * (q2 &&& (4294967295 : Int64))) + ((q1 &&& (4294967295 : Int64)) * ((q2.toUInt64 >>> ((32 : Int32) &&& 0x3f).toInt64.toUInt64).toInt64))) <<< ((32 : Int32) &&& 0x3f).toInt64) + ((q1 &&& (4294967295 : Int64)) * (q2 &&& (4294967295 : Int64)))))])) _
          refine Goes.of (fun t k => XS.lcmp X0.here hx rfl (hb hby d1_101) rfl k) ?_
          show Goes p e below (s₁.setTop (mkF m 102 #[.val (.long q1), .second, .val (.long q2), .second, .val (.long ((q1.toUInt64 >>> ((32 : Int32) &&& 0x3f).toInt64.toUInt64).toInt64)), .second, .val (.long (q1 &&& (4294967295 : Int64))), .second, .val (.long ((q2.toUInt64 >>> ((32 : Int32) &&& 0x3f).toInt64.toUInt64).toInt64)), .second, .val (.long (q2 &&& (4294967295 : Int64))), .second, .val (.long ((((q1.toUInt64 >>> ((32 : Int32) &&& 0x3f).toInt64.toUInt64).toInt64) * (q2 &&& (4294967295 : Int64))) + ((q1 &&& (4294967295 : Int64)) * ((q2.toUInt64 >>> ((32 : Int32) &&& 0x3f).toInt64.toUInt64).toInt64)))), .second, .val (.long ((q1 &&& (4294967295 : Int64)) * (q2 &&& (4294967295 : Int64)))), .second, .val (.long ((((((q1.toUInt64 >>> ((32 : Int32) &&& 0x3f).toInt64.toUInt64).toInt64) * (q2 &&& (4294967295 : Int64))) + ((q1 &&& (4294967295 : Int64)) * ((q2.toUInt64 >>> ((32 : Int32) &&& 0x3f).toInt64.toUInt64).toInt64))) <<< ((32 : Int32) &&& 0x3f).toInt64) + ((q1 &&& (4294967295 : Int64)) * (q2 &&& (4294967295 : Int64))))), .second] [(.int (lcmpW ((((((q1.toUInt64 >>> ((32 : Int32) &&& 0x3f).toInt64.toUInt64).toInt64) * (q2 &&& (4294967295 : Int64))) + ((q1 &&& (4294967295 : Int64)) * ((q2.toUInt64 >>> ((32 : Int32) &&& 0x3f).toInt64.toUInt64).toInt64))) <<< ((32 : Int32) &&& 0x3f).toInt64) + ((q1 &&& (4294967295 : Int64)) * (q2 &&& (4294967295 : Int64)))) (0 : Int64)))])) _
          by_cases hc102_8 : ((((((q1.toUInt64 >>> ((32 : Int32) &&& 0x3f).toInt64.toUInt64).toInt64) * (q2 &&& (4294967295 : Int64))) + ((q1 &&& (4294967295 : Int64)) * ((q2.toUInt64 >>> ((32 : Int32) &&& 0x3f).toInt64.toUInt64).toInt64))) <<< ((32 : Int32) &&& 0x3f).toInt64) + ((q1 &&& (4294967295 : Int64)) * (q2 &&& (4294967295 : Int64)))) < (0 : Int64)
          · refine Goes.of (fun t k => XS.ifNo X0.here hx rfl (hb hby d1_102) rfl ((if0 _ _).trans (tlt ((lw_lt _ _).mpr hc102_8)).2.1) k) ?_
            show Goes p e below (s₁.setTop (mkF m 105 #[.val (.long q1), .second, .val (.long q2), .second, .val (.long ((q1.toUInt64 >>> ((32 : Int32) &&& 0x3f).toInt64.toUInt64).toInt64)), .second, .val (.long (q1 &&& (4294967295 : Int64))), .second, .val (.long ((q2.toUInt64 >>> ((32 : Int32) &&& 0x3f).toInt64.toUInt64).toInt64)), .second, .val (.long (q2 &&& (4294967295 : Int64))), .second, .val (.long ((((q1.toUInt64 >>> ((32 : Int32) &&& 0x3f).toInt64.toUInt64).toInt64) * (q2 &&& (4294967295 : Int64))) + ((q1 &&& (4294967295 : Int64)) * ((q2.toUInt64 >>> ((32 : Int32) &&& 0x3f).toInt64.toUInt64).toInt64)))), .second, .val (.long ((q1 &&& (4294967295 : Int64)) * (q2 &&& (4294967295 : Int64)))), .second, .val (.long ((((((q1.toUInt64 >>> ((32 : Int32) &&& 0x3f).toInt64.toUInt64).toInt64) * (q2 &&& (4294967295 : Int64))) + ((q1 &&& (4294967295 : Int64)) * ((q2.toUInt64 >>> ((32 : Int32) &&& 0x3f).toInt64.toUInt64).toInt64))) <<< ((32 : Int32) &&& 0x3f).toInt64) + ((q1 &&& (4294967295 : Int64)) * (q2 &&& (4294967295 : Int64))))), .second] [])) _
            refine Goes.of (fun t k => X0.ldc2Long hx hown (mvT hZ (hw _ (List.mem_of_getElem? (i := 0) rfl))) (g := (mkF m 105 #[.val (.long q1), .second, .val (.long q2), .second, .val (.long ((q1.toUInt64 >>> ((32 : Int32) &&& 0x3f).toInt64.toUInt64).toInt64)), .second, .val (.long (q1 &&& (4294967295 : Int64))), .second, .val (.long ((q2.toUInt64 >>> ((32 : Int32) &&& 0x3f).toInt64.toUInt64).toInt64)), .second, .val (.long (q2 &&& (4294967295 : Int64))), .second, .val (.long ((((q1.toUInt64 >>> ((32 : Int32) &&& 0x3f).toInt64.toUInt64).toInt64) * (q2 &&& (4294967295 : Int64))) + ((q1 &&& (4294967295 : Int64)) * ((q2.toUInt64 >>> ((32 : Int32) &&& 0x3f).toInt64.toUInt64).toInt64)))), .second, .val (.long ((q1 &&& (4294967295 : Int64)) * (q2 &&& (4294967295 : Int64)))), .second, .val (.long ((((((q1.toUInt64 >>> ((32 : Int32) &&& 0x3f).toInt64.toUInt64).toInt64) * (q2 &&& (4294967295 : Int64))) + ((q1 &&& (4294967295 : Int64)) * ((q2.toUInt64 >>> ((32 : Int32) &&& 0x3f).toInt64.toUInt64).toInt64))) <<< ((32 : Int32) &&& 0x3f).toInt64) + ((q1 &&& (4294967295 : Int64)) * (q2 &&& (4294967295 : Int64))))), .second] [])) rfl (hb hby d1_105) _ k) ?_
            show Goes p e below (s₁.setTop (mkF m 108 #[.val (.long q1), .second, .val (.long q2), .second, .val (.long ((q1.toUInt64 >>> ((32 : Int32) &&& 0x3f).toInt64.toUInt64).toInt64)), .second, .val (.long (q1 &&& (4294967295 : Int64))), .second, .val (.long ((q2.toUInt64 >>> ((32 : Int32) &&& 0x3f).toInt64.toUInt64).toInt64)), .second, .val (.long (q2 &&& (4294967295 : Int64))), .second, .val (.long ((((q1.toUInt64 >>> ((32 : Int32) &&& 0x3f).toInt64.toUInt64).toInt64) * (q2 &&& (4294967295 : Int64))) + ((q1 &&& (4294967295 : Int64)) * ((q2.toUInt64 >>> ((32 : Int32) &&& 0x3f).toInt64.toUInt64).toInt64)))), .second, .val (.long ((q1 &&& (4294967295 : Int64)) * (q2 &&& (4294967295 : Int64)))), .second, .val (.long ((((((q1.toUInt64 >>> ((32 : Int32) &&& 0x3f).toInt64.toUInt64).toInt64) * (q2 &&& (4294967295 : Int64))) + ((q1 &&& (4294967295 : Int64)) * ((q2.toUInt64 >>> ((32 : Int32) &&& 0x3f).toInt64.toUInt64).toInt64))) <<< ((32 : Int32) &&& 0x3f).toInt64) + ((q1 &&& (4294967295 : Int64)) * (q2 &&& (4294967295 : Int64))))), .second] [(.long (9223372036854775807 : Int64))])) _
            have hv : f1 q1 q2 = (9223372036854775807 : Int64) := by simp only [f1, if_neg hc30_1, if_pos hc37_5, if_pos hc63_6, if_neg hc81_7, if_pos hc102_8]
            exact Goes.retJ X0 hx Bd.returns hlocks (hb hby d1_108) (⟨by rw [hv], N0, e0⟩) (by decide) (by decide)
          · refine Goes.of (fun t k => XS.ifYes X0.here hx rfl (pc0 := 102) (pc' := 109) rfl (hb hby d1_102) rfl ((if0 _ _).trans (flt (mt (lw_lt _ _).mp hc102_8)).2.1) (by decide) (by decide) k) ?_
            show Goes p e below (s₁.setTop (mkF m 109 #[.val (.long q1), .second, .val (.long q2), .second, .val (.long ((q1.toUInt64 >>> ((32 : Int32) &&& 0x3f).toInt64.toUInt64).toInt64)), .second, .val (.long (q1 &&& (4294967295 : Int64))), .second, .val (.long ((q2.toUInt64 >>> ((32 : Int32) &&& 0x3f).toInt64.toUInt64).toInt64)), .second, .val (.long (q2 &&& (4294967295 : Int64))), .second, .val (.long ((((q1.toUInt64 >>> ((32 : Int32) &&& 0x3f).toInt64.toUInt64).toInt64) * (q2 &&& (4294967295 : Int64))) + ((q1 &&& (4294967295 : Int64)) * ((q2.toUInt64 >>> ((32 : Int32) &&& 0x3f).toInt64.toUInt64).toInt64)))), .second, .val (.long ((q1 &&& (4294967295 : Int64)) * (q2 &&& (4294967295 : Int64)))), .second, .val (.long ((((((q1.toUInt64 >>> ((32 : Int32) &&& 0x3f).toInt64.toUInt64).toInt64) * (q2 &&& (4294967295 : Int64))) + ((q1 &&& (4294967295 : Int64)) * ((q2.toUInt64 >>> ((32 : Int32) &&& 0x3f).toInt64.toUInt64).toInt64))) <<< ((32 : Int32) &&& 0x3f).toInt64) + ((q1 &&& (4294967295 : Int64)) * (q2 &&& (4294967295 : Int64))))), .second] [])) _
            refine Goes.of (fun t k => XS.lload X0.here hx rfl (hb hby d1_109) rfl k) ?_
            show Goes p e below (s₁.setTop (mkF m 111 #[.val (.long q1), .second, .val (.long q2), .second, .val (.long ((q1.toUInt64 >>> ((32 : Int32) &&& 0x3f).toInt64.toUInt64).toInt64)), .second, .val (.long (q1 &&& (4294967295 : Int64))), .second, .val (.long ((q2.toUInt64 >>> ((32 : Int32) &&& 0x3f).toInt64.toUInt64).toInt64)), .second, .val (.long (q2 &&& (4294967295 : Int64))), .second, .val (.long ((((q1.toUInt64 >>> ((32 : Int32) &&& 0x3f).toInt64.toUInt64).toInt64) * (q2 &&& (4294967295 : Int64))) + ((q1 &&& (4294967295 : Int64)) * ((q2.toUInt64 >>> ((32 : Int32) &&& 0x3f).toInt64.toUInt64).toInt64)))), .second, .val (.long ((q1 &&& (4294967295 : Int64)) * (q2 &&& (4294967295 : Int64)))), .second, .val (.long ((((((q1.toUInt64 >>> ((32 : Int32) &&& 0x3f).toInt64.toUInt64).toInt64) * (q2 &&& (4294967295 : Int64))) + ((q1 &&& (4294967295 : Int64)) * ((q2.toUInt64 >>> ((32 : Int32) &&& 0x3f).toInt64.toUInt64).toInt64))) <<< ((32 : Int32) &&& 0x3f).toInt64) + ((q1 &&& (4294967295 : Int64)) * (q2 &&& (4294967295 : Int64))))), .second] [(.long ((((((q1.toUInt64 >>> ((32 : Int32) &&& 0x3f).toInt64.toUInt64).toInt64) * (q2 &&& (4294967295 : Int64))) + ((q1 &&& (4294967295 : Int64)) * ((q2.toUInt64 >>> ((32 : Int32) &&& 0x3f).toInt64.toUInt64).toInt64))) <<< ((32 : Int32) &&& 0x3f).toInt64) + ((q1 &&& (4294967295 : Int64)) * (q2 &&& (4294967295 : Int64)))))])) _
            have hv : f1 q1 q2 = ((((((q1.toUInt64 >>> ((32 : Int32) &&& 0x3f).toInt64.toUInt64).toInt64) * (q2 &&& (4294967295 : Int64))) + ((q1 &&& (4294967295 : Int64)) * ((q2.toUInt64 >>> ((32 : Int32) &&& 0x3f).toInt64.toUInt64).toInt64))) <<< ((32 : Int32) &&& 0x3f).toInt64) + ((q1 &&& (4294967295 : Int64)) * (q2 &&& (4294967295 : Int64)))) := by simp only [f1, if_neg hc30_1, if_pos hc37_5, if_pos hc63_6, if_neg hc81_7, if_neg hc102_8]
            exact Goes.retJ X0 hx Bd.returns hlocks (hb hby d1_111) (⟨by rw [hv], N0, e0⟩) (by decide) (by decide)
      · refine Goes.of (fun t k => XS.ifNo X0.here hx rfl (hb hby d1_63) rfl ((if0 _ _).trans (flt (mt (lw_lt _ _).mp hc63_6)).1) k) ?_
        show Goes p e below (s₁.setTop (mkF m 66 #[.val (.long q1), .second, .val (.long q2), .second, .val (.long ((q1.toUInt64 >>> ((32 : Int32) &&& 0x3f).toInt64.toUInt64).toInt64)), .second, .val (.long (q1 &&& (4294967295 : Int64))), .second, .val (.long ((q2.toUInt64 >>> ((32 : Int32) &&& 0x3f).toInt64.toUInt64).toInt64)), .second, .val (.long (q2 &&& (4294967295 : Int64))), .second, .val (.long ((((q1.toUInt64 >>> ((32 : Int32) &&& 0x3f).toInt64.toUInt64).toInt64) * (q2 &&& (4294967295 : Int64))) + ((q1 &&& (4294967295 : Int64)) * ((q2.toUInt64 >>> ((32 : Int32) &&& 0x3f).toInt64.toUInt64).toInt64)))), .second, .unset, .unset, .unset, .unset] [])) _
        refine Goes.of (fun t k => X0.ldc2Long hx hown (mvT hZ (hw _ (List.mem_of_getElem? (i := 0) rfl))) (g := (mkF m 66 #[.val (.long q1), .second, .val (.long q2), .second, .val (.long ((q1.toUInt64 >>> ((32 : Int32) &&& 0x3f).toInt64.toUInt64).toInt64)), .second, .val (.long (q1 &&& (4294967295 : Int64))), .second, .val (.long ((q2.toUInt64 >>> ((32 : Int32) &&& 0x3f).toInt64.toUInt64).toInt64)), .second, .val (.long (q2 &&& (4294967295 : Int64))), .second, .val (.long ((((q1.toUInt64 >>> ((32 : Int32) &&& 0x3f).toInt64.toUInt64).toInt64) * (q2 &&& (4294967295 : Int64))) + ((q1 &&& (4294967295 : Int64)) * ((q2.toUInt64 >>> ((32 : Int32) &&& 0x3f).toInt64.toUInt64).toInt64)))), .second, .unset, .unset, .unset, .unset] [])) rfl (hb hby d1_66) _ k) ?_
        show Goes p e below (s₁.setTop (mkF m 69 #[.val (.long q1), .second, .val (.long q2), .second, .val (.long ((q1.toUInt64 >>> ((32 : Int32) &&& 0x3f).toInt64.toUInt64).toInt64)), .second, .val (.long (q1 &&& (4294967295 : Int64))), .second, .val (.long ((q2.toUInt64 >>> ((32 : Int32) &&& 0x3f).toInt64.toUInt64).toInt64)), .second, .val (.long (q2 &&& (4294967295 : Int64))), .second, .val (.long ((((q1.toUInt64 >>> ((32 : Int32) &&& 0x3f).toInt64.toUInt64).toInt64) * (q2 &&& (4294967295 : Int64))) + ((q1 &&& (4294967295 : Int64)) * ((q2.toUInt64 >>> ((32 : Int32) &&& 0x3f).toInt64.toUInt64).toInt64)))), .second, .unset, .unset, .unset, .unset] [(.long (9223372036854775807 : Int64))])) _
        have hv : f1 q1 q2 = (9223372036854775807 : Int64) := by simp only [f1, if_neg hc30_1, if_pos hc37_5, if_neg hc63_6]
        exact Goes.retJ X0 hx Bd.returns hlocks (hb hby d1_69) (⟨by rw [hv], N0, e0⟩) (by decide) (by decide)
    · refine Goes.of (fun t k => XS.ifNo X0.here hx rfl (hb hby d1_37) rfl ((if0 _ _).trans (feq (mt (lw_eq _ _).mp hc37_5)).1) k) ?_
      show Goes p e below (s₁.setTop (mkF m 40 #[.val (.long q1), .second, .val (.long q2), .second, .val (.long ((q1.toUInt64 >>> ((32 : Int32) &&& 0x3f).toInt64.toUInt64).toInt64)), .second, .val (.long (q1 &&& (4294967295 : Int64))), .second, .val (.long ((q2.toUInt64 >>> ((32 : Int32) &&& 0x3f).toInt64.toUInt64).toInt64)), .second, .val (.long (q2 &&& (4294967295 : Int64))), .second, .unset, .unset, .unset, .unset, .unset, .unset] [])) _
      refine Goes.of (fun t k => X0.ldc2Long hx hown (mvT hZ (hw _ (List.mem_of_getElem? (i := 0) rfl))) (g := (mkF m 40 #[.val (.long q1), .second, .val (.long q2), .second, .val (.long ((q1.toUInt64 >>> ((32 : Int32) &&& 0x3f).toInt64.toUInt64).toInt64)), .second, .val (.long (q1 &&& (4294967295 : Int64))), .second, .val (.long ((q2.toUInt64 >>> ((32 : Int32) &&& 0x3f).toInt64.toUInt64).toInt64)), .second, .val (.long (q2 &&& (4294967295 : Int64))), .second, .unset, .unset, .unset, .unset, .unset, .unset] [])) rfl (hb hby d1_40) _ k) ?_
      show Goes p e below (s₁.setTop (mkF m 43 #[.val (.long q1), .second, .val (.long q2), .second, .val (.long ((q1.toUInt64 >>> ((32 : Int32) &&& 0x3f).toInt64.toUInt64).toInt64)), .second, .val (.long (q1 &&& (4294967295 : Int64))), .second, .val (.long ((q2.toUInt64 >>> ((32 : Int32) &&& 0x3f).toInt64.toUInt64).toInt64)), .second, .val (.long (q2 &&& (4294967295 : Int64))), .second, .unset, .unset, .unset, .unset, .unset, .unset] [(.long (9223372036854775807 : Int64))])) _
      have hv : f1 q1 q2 = (9223372036854775807 : Int64) := by simp only [f1, if_neg hc30_1, if_neg hc37_5]
      exact Goes.retJ X0 hx Bd.returns hlocks (hb hby d1_43) (⟨by rw [hv], N0, e0⟩) (by decide) (by decide)
def own_prod (q1 q2 : Int64) : Int64 := if q1 = (0 : Int64) then (0 : Int64) else if q2 = (0 : Int64) then (0 : Int64) else if ((9223372036854775807 : Int64) / q2) < q1 then (9223372036854775807 : Int64) else (q1 * q2)
theorem ef_2 (m : MethodId) (x0 : Int64) (x1 : Int64) : entryFrame m #[(.long x0), (.long x1)] 4 = mkF m 0 #[.val (.long x0), .second, .val (.long x1), .second] [] := by first | (simp [entryFrame, mkF, argsToLocals, Value.category]; done) | rfl
def Q2 (Z : State) (q1 : Int64) (q2 : Int64) (h0 : Heap) (n0 : Nat) (v : Option Value) (h : Heap) (L : List Loc) : Prop := v = some (.long (own_prod q1 q2)) ∧ Fr n0 L ∧ h = h0
set_option maxRecDepth 65536 in
set_option maxHeartbeats 40000000 in
theorem rm2 (l : Launch) (Z : State) (a0 : Array Value) (hw : ∀ d ∈ tables_1, d.before a0 Z = true) (ws : List Jvm.Cond) (q1 : Int64) (q2 : Int64) (h0 : Heap) (n0 : Nat) (Z0 : n0 ≤ h0.size)  :
    MetFree l (⟨"com/example/ripplematch/ripplematch/core/CostBound", "product", "(JJ)J"⟩ : MethodName) (head1 (Jvm.Cond.code (⟨"com/example/ripplematch/ripplematch/core/CostBound", "product", "(JJ)J"⟩ : MethodName) prog_30_method_19_code 4 (some .long) :: ws) ({ frames := 0, cells := 0, slots := 0, locals := 0 } : Room)) (fun a U => a = #[(.long q1), (.long q2)] ∧ Z.Warmed39 U.vm ∧ U.heap = h0) (fun _ _ _ _ _ => True) (fun _ U o U' => ∃ v L, o = .returned v ∧ Q2 Z q1 q2 h0 n0 v U'.heap L ∧ FrameEnd U o U' L ({ frames := 0, cells := 0, slots := 0, locals := 0 } : Room).cells ({ frames := 0, cells := 0, slots := 0, locals := 0 } : Room).slots) := by
  refine MetFree.of_bodySF (plainFor_of_name pn_1) hisR ?_
  intro p e s m args below meth c s₁ Bd hml0 hP hK
  obtain ⟨rfl, hZ, hh⟩ := hP
  have hx := Bd.exec
  have hby := Bd.bytes
  have hml : c.maxLocals = 4 := hml0
  have hown : s.vm.findClass "com/example/ripplematch/ripplematch/core/CostBound" = some m.cls := findClass_of_methodNamed Bd.named
  have hnm := (name_of_methodNamed Bd.named Bd.method).1
  have hlocks : meth.locks = false := BodyLoose.notSynchronized Bd
  have X0 : Stand p l e ({ frames := 0, cells := 0, slots := 0, locals := 0 } : Room) s m #[(.long q1), (.long q2)] below meth c s₁ [] 0 0 := Stand.of_body Bd
  have e0 : s₁.heap = h0 := by rw [← hh, Bd.state]; rfl
  have N0 := Fr.nil n0
  show Goes p e below (s₁.setTop (entryFrame m #[(.long q1), (.long q2)] 4)) (Fin s (Q2 Z q1 q2 h0 n0) ({ frames := 0, cells := 0, slots := 0, locals := 0 } : Room).cells ({ frames := 0, cells := 0, slots := 0, locals := 0 } : Room).slots)
  refine Goes.of (fun t k => castTop (ef_2 m q1 q2) k) ?_
  show Goes p e below (s₁.setTop (mkF m 0 #[.val (.long q1), .second, .val (.long q2), .second] [])) _
  refine Goes.of (fun t k => XS.lloadN X0.here hx rfl (hb hby d2_0) rfl k) ?_
  show Goes p e below (s₁.setTop (mkF m 1 #[.val (.long q1), .second, .val (.long q2), .second] [(.long q1)])) _
  refine Goes.of (fun t k => XS.lconst X0.here hx rfl (hb hby d2_1) k) ?_
  show Goes p e below (s₁.setTop (mkF m 2 #[.val (.long q1), .second, .val (.long q2), .second] [(.long (0 : Int64)), (.long q1)])) _
  refine Goes.of (fun t k => XS.lcmp X0.here hx rfl (hb hby d2_2) rfl k) ?_
  show Goes p e below (s₁.setTop (mkF m 3 #[.val (.long q1), .second, .val (.long q2), .second] [(.int (lcmpW q1 (0 : Int64)))])) _
  by_cases hc3_9 : q1 = (0 : Int64)
  · refine Goes.of (fun t k => XS.ifYes X0.here hx rfl (pc0 := 3) (pc' := 12) rfl (hb hby d2_3) rfl ((if0 _ _).trans (teq ((lw_eq _ _).mpr hc3_9)).1) (by decide) (by decide) k) ?_
    show Goes p e below (s₁.setTop (mkF m 12 #[.val (.long q1), .second, .val (.long q2), .second] [])) _
    refine Goes.of (fun t k => XS.lconst X0.here hx rfl (hb hby d2_12) k) ?_
    show Goes p e below (s₁.setTop (mkF m 13 #[.val (.long q1), .second, .val (.long q2), .second] [(.long (0 : Int64))])) _
    have hv : own_prod q1 q2 = (0 : Int64) := by simp only [own_prod, if_pos hc3_9]
    exact Goes.retJ X0 hx Bd.returns hlocks (hb hby d2_13) (⟨by rw [hv], N0, e0⟩) (by decide) (by decide)
  · refine Goes.of (fun t k => XS.ifNo X0.here hx rfl (hb hby d2_3) rfl ((if0 _ _).trans (feq (mt (lw_eq _ _).mp hc3_9)).1) k) ?_
    show Goes p e below (s₁.setTop (mkF m 6 #[.val (.long q1), .second, .val (.long q2), .second] [])) _
    refine Goes.of (fun t k => XS.lloadN X0.here hx rfl (hb hby d2_6) rfl k) ?_
    show Goes p e below (s₁.setTop (mkF m 7 #[.val (.long q1), .second, .val (.long q2), .second] [(.long q2)])) _
    refine Goes.of (fun t k => XS.lconst X0.here hx rfl (hb hby d2_7) k) ?_
    show Goes p e below (s₁.setTop (mkF m 8 #[.val (.long q1), .second, .val (.long q2), .second] [(.long (0 : Int64)), (.long q2)])) _
    refine Goes.of (fun t k => XS.lcmp X0.here hx rfl (hb hby d2_8) rfl k) ?_
    show Goes p e below (s₁.setTop (mkF m 9 #[.val (.long q1), .second, .val (.long q2), .second] [(.int (lcmpW q2 (0 : Int64)))])) _
    by_cases hc9_10 : q2 = (0 : Int64)
    · refine Goes.of (fun t k => XS.ifNo X0.here hx rfl (hb hby d2_9) rfl ((if0 _ _).trans (teq ((lw_eq _ _).mpr hc9_10)).2) k) ?_
      show Goes p e below (s₁.setTop (mkF m 12 #[.val (.long q1), .second, .val (.long q2), .second] [])) _
      refine Goes.of (fun t k => XS.lconst X0.here hx rfl (hb hby d2_12) k) ?_
      show Goes p e below (s₁.setTop (mkF m 13 #[.val (.long q1), .second, .val (.long q2), .second] [(.long (0 : Int64))])) _
      have hv : own_prod q1 q2 = (0 : Int64) := by simp only [own_prod, if_neg hc3_9, if_pos hc9_10]
      exact Goes.retJ X0 hx Bd.returns hlocks (hb hby d2_13) (⟨by rw [hv], N0, e0⟩) (by decide) (by decide)
    · refine Goes.of (fun t k => XS.ifYes X0.here hx rfl (pc0 := 9) (pc' := 14) rfl (hb hby d2_9) rfl ((if0 _ _).trans (feq (mt (lw_eq _ _).mp hc9_10)).2) (by decide) (by decide) k) ?_
      show Goes p e below (s₁.setTop (mkF m 14 #[.val (.long q1), .second, .val (.long q2), .second] [])) _
      refine Goes.of (fun t k => XS.lloadN X0.here hx rfl (hb hby d2_14) rfl k) ?_
      show Goes p e below (s₁.setTop (mkF m 15 #[.val (.long q1), .second, .val (.long q2), .second] [(.long q1)])) _
      refine Goes.of (fun t k => X0.ldc2Long hx hown (mvT hZ (hw _ (List.mem_of_getElem? (i := 11) rfl))) (g := (mkF m 15 #[.val (.long q1), .second, .val (.long q2), .second] [(.long q1)])) rfl (hb hby d2_15) _ k) ?_
      show Goes p e below (s₁.setTop (mkF m 18 #[.val (.long q1), .second, .val (.long q2), .second] [(.long (9223372036854775807 : Int64)), (.long q1)])) _
      refine Goes.of (fun t k => XS.lloadN X0.here hx rfl (hb hby d2_18) rfl k) ?_
      show Goes p e below (s₁.setTop (mkF m 19 #[.val (.long q1), .second, .val (.long q2), .second] [(.long q2), (.long (9223372036854775807 : Int64)), (.long q1)])) _
      refine Goes.of (fun t k => XS.ldiv X0.here hx rfl (hb hby d2_19) rfl hc9_10 k) ?_
      show Goes p e below (s₁.setTop (mkF m 20 #[.val (.long q1), .second, .val (.long q2), .second] [(.long ((9223372036854775807 : Int64) / q2)), (.long q1)])) _
      refine Goes.of (fun t k => XS.lcmp X0.here hx rfl (hb hby d2_20) rfl k) ?_
      show Goes p e below (s₁.setTop (mkF m 21 #[.val (.long q1), .second, .val (.long q2), .second] [(.int (lcmpW q1 ((9223372036854775807 : Int64) / q2)))])) _
      by_cases hc21_11 : ((9223372036854775807 : Int64) / q2) < q1
      · refine Goes.of (fun t k => XS.ifNo X0.here hx rfl (hb hby d2_21) rfl ((if0 _ _).trans (tlt ((lw_gt _ _).mpr hc21_11)).2.2.2) k) ?_
        show Goes p e below (s₁.setTop (mkF m 24 #[.val (.long q1), .second, .val (.long q2), .second] [])) _
        refine Goes.of (fun t k => X0.ldc2Long hx hown (mvT hZ (hw _ (List.mem_of_getElem? (i := 11) rfl))) (g := (mkF m 24 #[.val (.long q1), .second, .val (.long q2), .second] [])) rfl (hb hby d2_24) _ k) ?_
        show Goes p e below (s₁.setTop (mkF m 27 #[.val (.long q1), .second, .val (.long q2), .second] [(.long (9223372036854775807 : Int64))])) _
        refine Goes.of (fun t k => XS.goto X0.here hx rfl (pc0 := 27) (pc' := 33) rfl (hb hby d2_27) (by decide) (by decide) k) ?_
        show Goes p e below (s₁.setTop (mkF m 33 #[.val (.long q1), .second, .val (.long q2), .second] [(.long (9223372036854775807 : Int64))])) _
        have hv : own_prod q1 q2 = (9223372036854775807 : Int64) := by simp only [own_prod, if_neg hc3_9, if_neg hc9_10, if_pos hc21_11]
        exact Goes.retJ X0 hx Bd.returns hlocks (hb hby d2_33) (⟨by rw [hv], N0, e0⟩) (by decide) (by decide)
      · refine Goes.of (fun t k => XS.ifYes X0.here hx rfl (pc0 := 21) (pc' := 30) rfl (hb hby d2_21) rfl ((if0 _ _).trans (flt (mt (lw_gt _ _).mp hc21_11)).2.2.2) (by decide) (by decide) k) ?_
        show Goes p e below (s₁.setTop (mkF m 30 #[.val (.long q1), .second, .val (.long q2), .second] [])) _
        refine Goes.of (fun t k => XS.lloadN X0.here hx rfl (hb hby d2_30) rfl k) ?_
        show Goes p e below (s₁.setTop (mkF m 31 #[.val (.long q1), .second, .val (.long q2), .second] [(.long q1)])) _
        refine Goes.of (fun t k => XS.lloadN X0.here hx rfl (hb hby d2_31) rfl k) ?_
        show Goes p e below (s₁.setTop (mkF m 32 #[.val (.long q1), .second, .val (.long q2), .second] [(.long q2), (.long q1)])) _
        refine Goes.of (fun t k => XS.lmul X0.here hx rfl (hb hby d2_32) rfl k) ?_
        show Goes p e below (s₁.setTop (mkF m 33 #[.val (.long q1), .second, .val (.long q2), .second] [(.long (q1 * q2))])) _
        have hv : own_prod q1 q2 = (q1 * q2) := by simp only [own_prod, if_neg hc3_9, if_neg hc9_10, if_neg hc21_11]
        exact Goes.retJ X0 hx Bd.returns hlocks (hb hby d2_33) (⟨by rw [hv], N0, e0⟩) (by decide) (by decide)
theorem own_u64 (z : Int64) (h0 : 0 ≤ z.toInt) : (z.toUInt64.toNat : Int) = z.toInt := by
  have e : z.toUInt64.toNat = z.toBitVec.toNat := rfl
  have e2 : z.toInt = z.toBitVec.toInt := rfl
  rw [e]
  rw [e2, BitVec.toInt_eq_toNat_cond] at h0 ⊢
  have hb := z.toBitVec.isLt
  by_cases hc : 2 * z.toBitVec.toNat < 2 ^ 64
  · rw [if_pos hc]
  · rw [if_neg hc] at h0; omega
theorem own_shr (x : Int64) (s : Int32) : 0 ≤ (((x &&& (9223372036854775807 : Int64)).toUInt64 >>> ((s &&& (63 : Int32)) &&& 0x3f).toInt64.toUInt64).toInt64).toInt := by
  have e1 : (x &&& 9223372036854775807).toInt = x.toInt % 2 ^ 63 := Jvm.Kit.i64_mask x 9223372036854775807 (k := 63) (by decide) (by decide)
  have e2 : ((s &&& (63 : Int32)) &&& 0x3f).toInt = (s &&& (63 : Int32)).toInt % 2 ^ 6 := Jvm.Kit.i32_mask (s &&& 63) 0x3f (k := 6) (by decide) (by decide)
  generalize ((s &&& (63 : Int32)) &&& 0x3f) = z at *
  have e3 := own_u64 z.toInt64 (by rw [Jvm.Kit.i64_of_i32]; omega)
  rw [Jvm.Kit.i64_of_i32] at e3
  have h := Jvm.Kit.i64_lushr (x := x &&& 9223372036854775807) (Jvm.Kit.i64_nonneg.mpr (by omega)) (n := z.toInt64.toUInt64) rfl (by omega)
  rw [h]
  exact Int.ediv_nonneg (by omega) (Int.le_of_lt (Int.pow_pos (by decide)))
theorem own_max : (9223372036854775807 : Int64).toInt = 9223372036854775807 := by decide
theorem own_prod_spec (a b : Int64) (ha : 0 ≤ a.toInt) (hb : 0 ≤ b.toInt) : (own_prod a b).toInt = if a.toInt * b.toInt < 2 ^ 63 then a.toInt * b.toInt else 9223372036854775807 := by
  have z0 : (0 : Int64).toInt = 0 := by decide
  unfold own_prod
  by_cases h1 : a = 0
  · rw [if_pos h1, h1, z0, Int.zero_mul]; decide
  rw [if_neg h1]
  by_cases h2 : b = 0
  · rw [if_pos h2, h2, z0, Int.mul_zero]; decide
  rw [if_neg h2]
  have a0 : a.toInt ≠ 0 := fun q => h1 (Int64.toInt_inj.mp (by rw [q, z0]))
  have b0 : b.toInt ≠ 0 := fun q => h2 (Int64.toInt_inj.mp (by rw [q, z0]))
  have hbpos : 0 < b.toInt := by omega
  have hd : ((9223372036854775807 : Int64) / b).toInt = 9223372036854775807 / b.toInt := by
    rw [Jvm.Kit.i64_div (by rw [own_max]; omega), own_max, Int.tdiv_eq_ediv_of_nonneg (by decide)]
  have key : (9223372036854775807 / b.toInt < a.toInt) ↔ ¬ (a.toInt * b.toInt < 2 ^ 63) := by
    rw [Int.ediv_lt_iff_lt_mul hbpos]; omega
  have key2 : (9223372036854775807 / b < a) ↔ ¬ (a.toInt * b.toInt < 2 ^ 63) := by rw [Int64.lt_iff_toInt_lt, hd]; exact key
  by_cases h3 : a.toInt * b.toInt < 2 ^ 63
  · rw [if_neg (fun q => (key2.mp q) h3), if_pos h3, Jvm.Kit.i64_mul _ h3]
    have : 0 ≤ a.toInt * b.toInt := Int.mul_nonneg ha hb
    omega
  · rw [if_pos (key2.mpr h3), if_neg h3, own_max]
theorem own_f1_spec (a b : Int64) (ha : 0 ≤ a.toInt) (hb : 0 ≤ b.toInt) : (f1 a b).toInt = if a.toInt * b.toInt < 2 ^ 63 then a.toInt * b.toInt else 9223372036854775807 := by
  have z0 : (0 : Int64).toInt = 0 := by decide
  have z31 : (2147483648 : Int64).toInt = 2147483648 := by decide
  have la := a.toInt_lt; have lb := b.toInt_lt
  have eah : ((a.toUInt64 >>> ((32 : Int32) &&& 0x3f).toInt64.toUInt64).toInt64).toInt = a.toInt / 2 ^ 32 := Jvm.Kit.i64_lushr (Jvm.Kit.i64_nonneg.mpr ha) (by decide) (by decide)
  have ebh : ((b.toUInt64 >>> ((32 : Int32) &&& 0x3f).toInt64.toUInt64).toInt64).toInt = b.toInt / 2 ^ 32 := Jvm.Kit.i64_lushr (Jvm.Kit.i64_nonneg.mpr hb) (by decide) (by decide)
  have eal : (a &&& (4294967295 : Int64)).toInt = a.toInt % 2 ^ 32 := Jvm.Kit.i64_mask a 4294967295 (k := 32) (by decide) (by decide)
  have ebl : (b &&& (4294967295 : Int64)).toInt = b.toInt % 2 ^ 32 := Jvm.Kit.i64_mask b 4294967295 (k := 32) (by decide) (by decide)
  unfold f1
  generalize ((a.toUInt64 >>> ((32 : Int32) &&& 0x3f).toInt64.toUInt64).toInt64) = ah at *
  generalize ((b.toUInt64 >>> ((32 : Int32) &&& 0x3f).toInt64.toUInt64).toInt64) = bh at *
  generalize (a &&& (4294967295 : Int64)) = al at *
  generalize (b &&& (4294967295 : Int64)) = bl at *
  have hA : a.toInt = ah.toInt * 2 ^ 32 + al.toInt := by omega
  have hB : b.toInt = bh.toInt * 2 ^ 32 + bl.toInt := by omega
  have b1 : 0 ≤ ah.toInt ∧ ah.toInt < 2 ^ 31 := by omega
  have b2 : 0 ≤ bh.toInt ∧ bh.toInt < 2 ^ 31 := by omega
  have b3 : 0 ≤ al.toInt ∧ al.toInt < 2 ^ 32 := by omega
  have b4 : 0 ≤ bl.toInt ∧ bl.toInt < 2 ^ 32 := by omega
  have hP : a.toInt * b.toInt = ah.toInt * bh.toInt * 2 ^ 64 + (ah.toInt * bl.toInt + al.toInt * bh.toInt) * 2 ^ 32 + al.toInt * bl.toInt := by
    rw [hA, hB]; grind
  have n1 : 0 ≤ ah.toInt * bl.toInt := Int.mul_nonneg b1.1 b4.1
  have n2 : 0 ≤ al.toInt * bh.toInt := Int.mul_nonneg b3.1 b2.1
  have n3 : 0 ≤ al.toInt * bl.toInt := Int.mul_nonneg b3.1 b4.1
  have n4 : 0 ≤ ah.toInt * bh.toInt := Int.mul_nonneg b1.1 b2.1
  have m1 : ah.toInt * bl.toInt ≤ (2 ^ 31 - 1) * (2 ^ 32 - 1) := Int.mul_le_mul (by omega) (by omega) b4.1 (by decide)
  have m2 : al.toInt * bh.toInt ≤ (2 ^ 32 - 1) * (2 ^ 31 - 1) := Int.mul_le_mul (by omega) (by omega) b2.1 (by decide)
  have m3 : al.toInt * bl.toInt ≤ (2 ^ 32 - 1) * (2 ^ 32 - 1) := Int.mul_le_mul (by omega) (by omega) b4.1 (by decide)
  have q1 : (ah * bl).toInt = ah.toInt * bl.toInt := Jvm.Kit.i64_mul (by omega) (by omega)
  have q2 : (al * bh).toInt = al.toInt * bh.toInt := Jvm.Kit.i64_mul (by omega) (by omega)
  have q3 : (al * bl).toInt = (al.toInt * bl.toInt).bmod (2 ^ 64) := Int64.toInt_mul al bl
  clear hA hB eah ebh eal ebl la lb
  have tail : ∀ (hz : ah.toInt * bh.toInt = 0) (q4 : (ah * bl + al * bh).toInt = ah.toInt * bl.toInt + al.toInt * bh.toInt), (if ((ah * bl) + (al * bh)) < (2147483648 : Int64) then (if (al * bl) < (0 : Int64) then (9223372036854775807 : Int64) else (if ((((ah * bl) + (al * bh)) <<< ((32 : Int32) &&& 0x3f).toInt64) + (al * bl)) < (0 : Int64) then (9223372036854775807 : Int64) else ((((ah * bl) + (al * bh)) <<< ((32 : Int32) &&& 0x3f).toInt64) + (al * bl)))) else (9223372036854775807 : Int64)).toInt = if a.toInt * b.toInt < 2 ^ 63 then a.toInt * b.toInt else 9223372036854775807 := by
    intro hz q4
    rw [hP, hz]
    generalize ah.toInt * bl.toInt = X1 at *
    generalize al.toInt * bh.toInt = X2 at *
    generalize al.toInt * bl.toInt = X3 at *
    by_cases c1 : (ah * bl + al * bh) < (2147483648 : Int64)
    · rw [if_pos c1]
      rw [Int64.lt_iff_toInt_lt, q4, z31] at c1
      by_cases c2 : al * bl < 0
      · rw [if_pos c2, own_max]
        rw [Int64.lt_iff_toInt_lt, q3, z0, Int.bmod_def] at c2
        rw [if_neg (by omega)]
      · rw [if_neg c2]
        rw [Int64.lt_iff_toInt_lt, q3, z0, Int.bmod_def] at c2
        have q5 : (al * bl).toInt = X3 := by rw [q3, Int.bmod_def]; omega
        have q6 : (((ah * bl) + (al * bh)) <<< ((32 : Int32) &&& 0x3f).toInt64).toInt = (X1 + X2) * 2 ^ 32 := by
          rw [← q4]; exact Jvm.Kit.i64_shl _ _ (k := 32) (by decide) (by rw [q4]; omega) (by rw [q4]; omega)
        have q7 : ((((ah * bl) + (al * bh)) <<< ((32 : Int32) &&& 0x3f).toInt64) + (al * bl)).toInt = ((X1 + X2) * 2 ^ 32 + X3).bmod (2 ^ 64) := by rw [Int64.toInt_add, q6, q5]
        by_cases c3 : ((((ah * bl) + (al * bh)) <<< ((32 : Int32) &&& 0x3f).toInt64) + (al * bl)) < 0
        · rw [if_pos c3, own_max]
          rw [Int64.lt_iff_toInt_lt, q7, z0, Int.bmod_def] at c3
          rw [if_neg (by omega)]
        · rw [if_neg c3, q7]
          rw [Int64.lt_iff_toInt_lt, q7, z0, Int.bmod_def] at c3
          rw [Int.bmod_def, if_pos (by omega)]
          split <;> omega
    · rw [if_neg c1, own_max]
      rw [Int64.lt_iff_toInt_lt, q4, z31] at c1
      rw [if_neg (by omega)]
  by_cases h1 : ah = 0
  · have h1' : ah.toInt = 0 := by rw [h1, z0]
    rw [if_pos h1]
    exact tail (by rw [h1', Int.zero_mul]) (Jvm.Kit.i64_add (by rw [q1, q2]; omega) (by rw [q1, q2, h1', Int.zero_mul]; omega) |>.trans (by rw [q1, q2]))
  · rw [if_neg h1]
    by_cases h2 : bh = 0
    · have h2' : bh.toInt = 0 := by rw [h2, z0]
      rw [if_pos h2]
      exact tail (by rw [h2', Int.mul_zero]) (Jvm.Kit.i64_add (by rw [q1, q2]; omega) (by rw [q1, q2, h2', Int.mul_zero]; omega) |>.trans (by rw [q1, q2]))
    · rw [if_neg h2, own_max]
      have a0 : ah.toInt ≠ 0 := fun q => h1 (Int64.toInt_inj.mp (by rw [q, z0]))
      have b0 : bh.toInt ≠ 0 := fun q => h2 (Int64.toInt_inj.mp (by rw [q, z0]))
      have : 1 * 1 ≤ ah.toInt * bh.toInt := Int.mul_le_mul (by omega) (by omega) (by decide) b1.1
      rw [if_neg (by rw [hP]; omega)]
theorem own_eq (a b : Int64) (ha : 0 ≤ a.toInt) (hb : 0 ≤ b.toInt) : own_prod a b = f1 a b :=
  Int64.toInt_inj.mp (by rw [own_prod_spec a b ha hb, own_f1_spec a b ha hb])

theorem ef_0 (m : MethodId) (x0 : Int64) (x1 : Int64) (x2 : Int32) (x3 : Int32) : entryFrame m #[(.long x0), (.long x1), (.int x2), (.int x3)] maxLocals = mkF m 0 #[.val (.long x0), .second, .val (.long x1), .second, .val (.int x2), .val (.int x3), .unset, .unset, .unset, .unset, .unset, .unset] [] := by first | (simp [entryFrame, mkF, argsToLocals, Value.category, maxLocals]; done) | rfl
def Q0 (Z : State) (q1 : Int64) (q2 : Int64) (p3 : Int32) (p4 : Int32) (h0 : Heap) (n0 : Nat) (v : Option Value) (h : Heap) (L : List Loc) : Prop := v = some (.int 1) ∧ Fr n0 L
set_option maxRecDepth 65536 in
set_option maxHeartbeats 40000000 in
theorem rm0 (l : Launch) (Z : State) (a0 : Array Value) (hw : ∀ d ∈ tables_1, d.before a0 Z = true) (ws : List Jvm.Cond) (q1 : Int64) (q2 : Int64) (p3 : Int32) (p4 : Int32) (h0 : Heap) (n0 : Nat) (Z0 : n0 ≤ h0.size)  :
    MetFree l x (head1 (Jvm.Cond.code x code maxLocals ret :: ws) room_1) (fun a U => a = #[(.long q1), (.long q2), (.int p3), (.int p4)] ∧ Z.Warmed39 U.vm ∧ U.heap = h0) (fun _ _ _ _ _ => True) (fun _ U o U' => ∃ v L, o = .returned v ∧ Q0 Z q1 q2 p3 p4 h0 n0 v U'.heap L ∧ FrameEnd U o U' L room_1.cells room_1.slots) := by
  refine MetFree.of_bodySF (plainFor_of_name pn_0) hisR ?_
  intro p e s m args below meth c s₁ Bd hml0 hP hK
  obtain ⟨rfl, hZ, hh⟩ := hP
  have hx := Bd.exec
  have hby := Bd.bytes
  have hml : c.maxLocals = 12 := hml0
  have hown : s.vm.findClass "com/example/ripplematch/ripplematch/core/CostBoundProductPinLaw" = some m.cls := findClass_of_methodNamed Bd.named
  have hnm := (name_of_methodNamed Bd.named Bd.method).1
  have hlocks : meth.locks = false := BodyLoose.notSynchronized Bd
  have X0 : Stand p l e room_1 s m #[(.long q1), (.long q2), (.int p3), (.int p4)] below meth c s₁ [] 0 0 := Stand.of_body Bd
  have e0 : s₁.heap = h0 := by rw [← hh, Bd.state]; rfl
  have N0 := Fr.nil n0
  show Goes p e below (s₁.setTop (entryFrame m #[(.long q1), (.long q2), (.int p3), (.int p4)] maxLocals)) (Fin s (Q0 Z q1 q2 p3 p4 h0 n0) room_1.cells room_1.slots)
  refine Goes.of (fun t k => castTop (ef_0 m q1 q2 p3 p4) k) ?_
  show Goes p e below (s₁.setTop (mkF m 0 #[.val (.long q1), .second, .val (.long q2), .second, .val (.int p3), .val (.int p4), .unset, .unset, .unset, .unset, .unset, .unset] [])) _
  refine Goes.of (fun t k => XS.lloadN X0.here hx rfl (hb hby at_0) rfl k) ?_
  show Goes p e below (s₁.setTop (mkF m 1 #[.val (.long q1), .second, .val (.long q2), .second, .val (.int p3), .val (.int p4), .unset, .unset, .unset, .unset, .unset, .unset] [(.long q1)])) _
  refine Goes.of (fun t k => X0.ldc2Long hx hown (mvT hZ (hw _ (List.mem_of_getElem? (i := 0) rfl))) (g := (mkF m 1 #[.val (.long q1), .second, .val (.long q2), .second, .val (.int p3), .val (.int p4), .unset, .unset, .unset, .unset, .unset, .unset] [(.long q1)])) rfl (hb hby at_1) _ k) ?_
  show Goes p e below (s₁.setTop (mkF m 4 #[.val (.long q1), .second, .val (.long q2), .second, .val (.int p3), .val (.int p4), .unset, .unset, .unset, .unset, .unset, .unset] [(.long (9223372036854775807 : Int64)), (.long q1)])) _
  refine Goes.of (fun t k => XS.land X0.here hx rfl (hb hby at_4) rfl k) ?_
  show Goes p e below (s₁.setTop (mkF m 5 #[.val (.long q1), .second, .val (.long q2), .second, .val (.int p3), .val (.int p4), .unset, .unset, .unset, .unset, .unset, .unset] [(.long (q1 &&& (9223372036854775807 : Int64)))])) _
  refine Goes.of (fun t k => XS.iload X0.here hx rfl (hb hby at_5) rfl k) ?_
  show Goes p e below (s₁.setTop (mkF m 7 #[.val (.long q1), .second, .val (.long q2), .second, .val (.int p3), .val (.int p4), .unset, .unset, .unset, .unset, .unset, .unset] [(.int p3), (.long (q1 &&& (9223372036854775807 : Int64)))])) _
  refine Goes.of (fun t k => XS.bipush X0.here hx rfl (hb hby at_7) k) ?_
  show Goes p e below (s₁.setTop (mkF m 9 #[.val (.long q1), .second, .val (.long q2), .second, .val (.int p3), .val (.int p4), .unset, .unset, .unset, .unset, .unset, .unset] [(.int (63 : Int32)), (.int p3), (.long (q1 &&& (9223372036854775807 : Int64)))])) _
  refine Goes.of (fun t k => XS.iand X0.here hx rfl (hb hby at_9) rfl k) ?_
  show Goes p e below (s₁.setTop (mkF m 10 #[.val (.long q1), .second, .val (.long q2), .second, .val (.int p3), .val (.int p4), .unset, .unset, .unset, .unset, .unset, .unset] [(.int (p3 &&& (63 : Int32))), (.long (q1 &&& (9223372036854775807 : Int64)))])) _
  refine Goes.of (fun t k => XS.lushr X0.here hx rfl (hb hby at_10) rfl k) ?_
  show Goes p e below (s₁.setTop (mkF m 11 #[.val (.long q1), .second, .val (.long q2), .second, .val (.int p3), .val (.int p4), .unset, .unset, .unset, .unset, .unset, .unset] [(.long (((q1 &&& (9223372036854775807 : Int64)).toUInt64 >>> ((p3 &&& (63 : Int32)) &&& 0x3f).toInt64.toUInt64).toInt64))])) _
  refine Goes.of (fun t k => XS.lstore X0.here hx rfl (hb hby at_11) rfl (l' := #[.val (.long q1), .second, .val (.long q2), .second, .val (.int p3), .val (.int p4), .val (.long (((q1 &&& (9223372036854775807 : Int64)).toUInt64 >>> ((p3 &&& (63 : Int32)) &&& 0x3f).toInt64.toUInt64).toInt64)), .second, .unset, .unset, .unset, .unset]) rfl k) ?_
  show Goes p e below (s₁.setTop (mkF m 13 #[.val (.long q1), .second, .val (.long q2), .second, .val (.int p3), .val (.int p4), .val (.long (((q1 &&& (9223372036854775807 : Int64)).toUInt64 >>> ((p3 &&& (63 : Int32)) &&& 0x3f).toInt64.toUInt64).toInt64)), .second, .unset, .unset, .unset, .unset] [])) _
  refine Goes.of (fun t k => XS.lloadN X0.here hx rfl (hb hby at_13) rfl k) ?_
  show Goes p e below (s₁.setTop (mkF m 14 #[.val (.long q1), .second, .val (.long q2), .second, .val (.int p3), .val (.int p4), .val (.long (((q1 &&& (9223372036854775807 : Int64)).toUInt64 >>> ((p3 &&& (63 : Int32)) &&& 0x3f).toInt64.toUInt64).toInt64)), .second, .unset, .unset, .unset, .unset] [(.long q2)])) _
  refine Goes.of (fun t k => X0.ldc2Long hx hown (mvT hZ (hw _ (List.mem_of_getElem? (i := 0) rfl))) (g := (mkF m 14 #[.val (.long q1), .second, .val (.long q2), .second, .val (.int p3), .val (.int p4), .val (.long (((q1 &&& (9223372036854775807 : Int64)).toUInt64 >>> ((p3 &&& (63 : Int32)) &&& 0x3f).toInt64.toUInt64).toInt64)), .second, .unset, .unset, .unset, .unset] [(.long q2)])) rfl (hb hby at_14) _ k) ?_
  show Goes p e below (s₁.setTop (mkF m 17 #[.val (.long q1), .second, .val (.long q2), .second, .val (.int p3), .val (.int p4), .val (.long (((q1 &&& (9223372036854775807 : Int64)).toUInt64 >>> ((p3 &&& (63 : Int32)) &&& 0x3f).toInt64.toUInt64).toInt64)), .second, .unset, .unset, .unset, .unset] [(.long (9223372036854775807 : Int64)), (.long q2)])) _
  refine Goes.of (fun t k => XS.land X0.here hx rfl (hb hby at_17) rfl k) ?_
  show Goes p e below (s₁.setTop (mkF m 18 #[.val (.long q1), .second, .val (.long q2), .second, .val (.int p3), .val (.int p4), .val (.long (((q1 &&& (9223372036854775807 : Int64)).toUInt64 >>> ((p3 &&& (63 : Int32)) &&& 0x3f).toInt64.toUInt64).toInt64)), .second, .unset, .unset, .unset, .unset] [(.long (q2 &&& (9223372036854775807 : Int64)))])) _
  refine Goes.of (fun t k => XS.iload X0.here hx rfl (hb hby at_18) rfl k) ?_
  show Goes p e below (s₁.setTop (mkF m 20 #[.val (.long q1), .second, .val (.long q2), .second, .val (.int p3), .val (.int p4), .val (.long (((q1 &&& (9223372036854775807 : Int64)).toUInt64 >>> ((p3 &&& (63 : Int32)) &&& 0x3f).toInt64.toUInt64).toInt64)), .second, .unset, .unset, .unset, .unset] [(.int p4), (.long (q2 &&& (9223372036854775807 : Int64)))])) _
  refine Goes.of (fun t k => XS.bipush X0.here hx rfl (hb hby at_20) k) ?_
  show Goes p e below (s₁.setTop (mkF m 22 #[.val (.long q1), .second, .val (.long q2), .second, .val (.int p3), .val (.int p4), .val (.long (((q1 &&& (9223372036854775807 : Int64)).toUInt64 >>> ((p3 &&& (63 : Int32)) &&& 0x3f).toInt64.toUInt64).toInt64)), .second, .unset, .unset, .unset, .unset] [(.int (63 : Int32)), (.int p4), (.long (q2 &&& (9223372036854775807 : Int64)))])) _
  refine Goes.of (fun t k => XS.iand X0.here hx rfl (hb hby at_22) rfl k) ?_
  show Goes p e below (s₁.setTop (mkF m 23 #[.val (.long q1), .second, .val (.long q2), .second, .val (.int p3), .val (.int p4), .val (.long (((q1 &&& (9223372036854775807 : Int64)).toUInt64 >>> ((p3 &&& (63 : Int32)) &&& 0x3f).toInt64.toUInt64).toInt64)), .second, .unset, .unset, .unset, .unset] [(.int (p4 &&& (63 : Int32))), (.long (q2 &&& (9223372036854775807 : Int64)))])) _
  refine Goes.of (fun t k => XS.lushr X0.here hx rfl (hb hby at_23) rfl k) ?_
  show Goes p e below (s₁.setTop (mkF m 24 #[.val (.long q1), .second, .val (.long q2), .second, .val (.int p3), .val (.int p4), .val (.long (((q1 &&& (9223372036854775807 : Int64)).toUInt64 >>> ((p3 &&& (63 : Int32)) &&& 0x3f).toInt64.toUInt64).toInt64)), .second, .unset, .unset, .unset, .unset] [(.long (((q2 &&& (9223372036854775807 : Int64)).toUInt64 >>> ((p4 &&& (63 : Int32)) &&& 0x3f).toInt64.toUInt64).toInt64))])) _
  refine Goes.of (fun t k => XS.lstore X0.here hx rfl (hb hby at_24) rfl (l' := #[.val (.long q1), .second, .val (.long q2), .second, .val (.int p3), .val (.int p4), .val (.long (((q1 &&& (9223372036854775807 : Int64)).toUInt64 >>> ((p3 &&& (63 : Int32)) &&& 0x3f).toInt64.toUInt64).toInt64)), .second, .val (.long (((q2 &&& (9223372036854775807 : Int64)).toUInt64 >>> ((p4 &&& (63 : Int32)) &&& 0x3f).toInt64.toUInt64).toInt64)), .second, .unset, .unset]) rfl k) ?_
  show Goes p e below (s₁.setTop (mkF m 26 #[.val (.long q1), .second, .val (.long q2), .second, .val (.int p3), .val (.int p4), .val (.long (((q1 &&& (9223372036854775807 : Int64)).toUInt64 >>> ((p3 &&& (63 : Int32)) &&& 0x3f).toInt64.toUInt64).toInt64)), .second, .val (.long (((q2 &&& (9223372036854775807 : Int64)).toUInt64 >>> ((p4 &&& (63 : Int32)) &&& 0x3f).toInt64.toUInt64).toInt64)), .second, .unset, .unset] [])) _
  refine Goes.of (fun t k => XS.lload X0.here hx rfl (hb hby at_26) rfl k) ?_
  show Goes p e below (s₁.setTop (mkF m 28 #[.val (.long q1), .second, .val (.long q2), .second, .val (.int p3), .val (.int p4), .val (.long (((q1 &&& (9223372036854775807 : Int64)).toUInt64 >>> ((p3 &&& (63 : Int32)) &&& 0x3f).toInt64.toUInt64).toInt64)), .second, .val (.long (((q2 &&& (9223372036854775807 : Int64)).toUInt64 >>> ((p4 &&& (63 : Int32)) &&& 0x3f).toInt64.toUInt64).toInt64)), .second, .unset, .unset] [(.long (((q1 &&& (9223372036854775807 : Int64)).toUInt64 >>> ((p3 &&& (63 : Int32)) &&& 0x3f).toInt64.toUInt64).toInt64))])) _
  refine Goes.of (fun t k => XS.lload X0.here hx rfl (hb hby at_28) rfl k) ?_
  show Goes p e below (s₁.setTop (mkF m 30 #[.val (.long q1), .second, .val (.long q2), .second, .val (.int p3), .val (.int p4), .val (.long (((q1 &&& (9223372036854775807 : Int64)).toUInt64 >>> ((p3 &&& (63 : Int32)) &&& 0x3f).toInt64.toUInt64).toInt64)), .second, .val (.long (((q2 &&& (9223372036854775807 : Int64)).toUInt64 >>> ((p4 &&& (63 : Int32)) &&& 0x3f).toInt64.toUInt64).toInt64)), .second, .unset, .unset] [(.long (((q2 &&& (9223372036854775807 : Int64)).toUInt64 >>> ((p4 &&& (63 : Int32)) &&& 0x3f).toInt64.toUInt64).toInt64)), (.long (((q1 &&& (9223372036854775807 : Int64)).toUInt64 >>> ((p3 &&& (63 : Int32)) &&& 0x3f).toInt64.toUInt64).toInt64))])) _
  have ha : 0 ≤ (((q1 &&& (9223372036854775807 : Int64)).toUInt64 >>> ((p3 &&& (63 : Int32)) &&& 0x3f).toInt64.toUInt64).toInt64).toInt := own_shr _ _
  have hb' : 0 ≤ (((q2 &&& (9223372036854775807 : Int64)).toUInt64 >>> ((p4 &&& (63 : Int32)) &&& 0x3f).toInt64.toUInt64).toInt64).toInt := own_shr _ _
  obtain ⟨_, _, ⟨T12, L12, k12, n12⟩, -, X12, ⟨Lc12, hQ12, l12, y12, z12⟩, st12⟩ := Jvm.LawKit.callS X0 hx (y := (⟨"com/example/ripplematch/ripplematch/core/CostBoundProductPinLaw", "reference", "(JJ)J"⟩ : MethodName)) hown (mvT hZ (hw _ (List.mem_of_getElem? (i := 1) rfl))) (mvT hZ (hw _ (List.mem_of_getElem? (i := 2) rfl))) (mvT hZ (hw _ (List.mem_of_getElem? (i := 3) rfl))) (mvT hZ (hw _ (List.mem_of_getElem? (i := 4) rfl))) (by decide) (backOf (W := 0) (rm1 l Z a0 hw [] (((q1 &&& (9223372036854775807 : Int64)).toUInt64 >>> ((p3 &&& (63 : Int32)) &&& 0x3f).toInt64.toUInt64).toInt64) (((q2 &&& (9223372036854775807 : Int64)).toUInt64 >>> ((p4 &&& (63 : Int32)) &&& 0x3f).toInt64.toUInt64).toInt64)  h0 n0 Z0 ) hZ (hw _ (List.mem_of_getElem? (i := 4) rfl)) (hw _ (List.mem_of_getElem? (i := 3) rfl)) (by decide) (by decide)) (g := (mkF m 30 #[.val (.long q1), .second, .val (.long q2), .second, .val (.int p3), .val (.int p4), .val (.long (((q1 &&& (9223372036854775807 : Int64)).toUInt64 >>> ((p3 &&& (63 : Int32)) &&& 0x3f).toInt64.toUInt64).toInt64)), .second, .val (.long (((q2 &&& (9223372036854775807 : Int64)).toUInt64 >>> ((p4 &&& (63 : Int32)) &&& 0x3f).toInt64.toUInt64).toInt64)), .second, .unset, .unset] [(.long (((q2 &&& (9223372036854775807 : Int64)).toUInt64 >>> ((p4 &&& (63 : Int32)) &&& 0x3f).toInt64.toUInt64).toInt64)), (.long (((q1 &&& (9223372036854775807 : Int64)).toUInt64 >>> ((p3 &&& (63 : Int32)) &&& 0x3f).toInt64.toUInt64).toInt64))])) rfl (by rw [hml]; rfl) (argsL := [(.long (((q1 &&& (9223372036854775807 : Int64)).toUInt64 >>> ((p3 &&& (63 : Int32)) &&& 0x3f).toInt64.toUInt64).toInt64)), (.long (((q2 &&& (9223372036854775807 : Int64)).toUInt64 >>> ((p4 &&& (63 : Int32)) &&& 0x3f).toInt64.toUInt64).toInt64))]) (rest := []) (lenOf pd_2 rfl) rfl (by show 2 * 0 + _ ≤ _; exact Nat.le_of_eq rfl) (hb hby at_30) (fun _ _ => ⟨rfl, e0, (by decide : 0 + 0 ≤ _), (by decide : 0 + 0 ≤ _)⟩)
  dsimp only [Pt.U, Pt.locs, Pt.cells, Pt.slots] at X12 l12 y12 z12 st12 hQ12
  subst l12 y12 z12
  obtain ⟨rfl, N12q, e12⟩ := hQ12
  have N12 := Fr.app N0 N12q
  refine Goes.of st12 ?_
  show Goes p e below (T12.setTop (mkF m 33 #[.val (.long q1), .second, .val (.long q2), .second, .val (.int p3), .val (.int p4), .val (.long (((q1 &&& (9223372036854775807 : Int64)).toUInt64 >>> ((p3 &&& (63 : Int32)) &&& 0x3f).toInt64.toUInt64).toInt64)), .second, .val (.long (((q2 &&& (9223372036854775807 : Int64)).toUInt64 >>> ((p4 &&& (63 : Int32)) &&& 0x3f).toInt64.toUInt64).toInt64)), .second, .unset, .unset] [(.long (f1 (((q1 &&& (9223372036854775807 : Int64)).toUInt64 >>> ((p3 &&& (63 : Int32)) &&& 0x3f).toInt64.toUInt64).toInt64) (((q2 &&& (9223372036854775807 : Int64)).toUInt64 >>> ((p4 &&& (63 : Int32)) &&& 0x3f).toInt64.toUInt64).toInt64)))])) _
  refine Goes.of (fun t k => XS.lstore X12.here hx rfl (hb hby at_33) rfl (l' := #[.val (.long q1), .second, .val (.long q2), .second, .val (.int p3), .val (.int p4), .val (.long (((q1 &&& (9223372036854775807 : Int64)).toUInt64 >>> ((p3 &&& (63 : Int32)) &&& 0x3f).toInt64.toUInt64).toInt64)), .second, .val (.long (((q2 &&& (9223372036854775807 : Int64)).toUInt64 >>> ((p4 &&& (63 : Int32)) &&& 0x3f).toInt64.toUInt64).toInt64)), .second, .val (.long (f1 (((q1 &&& (9223372036854775807 : Int64)).toUInt64 >>> ((p3 &&& (63 : Int32)) &&& 0x3f).toInt64.toUInt64).toInt64) (((q2 &&& (9223372036854775807 : Int64)).toUInt64 >>> ((p4 &&& (63 : Int32)) &&& 0x3f).toInt64.toUInt64).toInt64))), .second]) rfl k) ?_
  show Goes p e below (T12.setTop (mkF m 35 #[.val (.long q1), .second, .val (.long q2), .second, .val (.int p3), .val (.int p4), .val (.long (((q1 &&& (9223372036854775807 : Int64)).toUInt64 >>> ((p3 &&& (63 : Int32)) &&& 0x3f).toInt64.toUInt64).toInt64)), .second, .val (.long (((q2 &&& (9223372036854775807 : Int64)).toUInt64 >>> ((p4 &&& (63 : Int32)) &&& 0x3f).toInt64.toUInt64).toInt64)), .second, .val (.long (f1 (((q1 &&& (9223372036854775807 : Int64)).toUInt64 >>> ((p3 &&& (63 : Int32)) &&& 0x3f).toInt64.toUInt64).toInt64) (((q2 &&& (9223372036854775807 : Int64)).toUInt64 >>> ((p4 &&& (63 : Int32)) &&& 0x3f).toInt64.toUInt64).toInt64))), .second] [])) _
  refine Goes.of (fun t k => XS.lload X12.here hx rfl (hb hby at_35) rfl k) ?_
  show Goes p e below (T12.setTop (mkF m 37 #[.val (.long q1), .second, .val (.long q2), .second, .val (.int p3), .val (.int p4), .val (.long (((q1 &&& (9223372036854775807 : Int64)).toUInt64 >>> ((p3 &&& (63 : Int32)) &&& 0x3f).toInt64.toUInt64).toInt64)), .second, .val (.long (((q2 &&& (9223372036854775807 : Int64)).toUInt64 >>> ((p4 &&& (63 : Int32)) &&& 0x3f).toInt64.toUInt64).toInt64)), .second, .val (.long (f1 (((q1 &&& (9223372036854775807 : Int64)).toUInt64 >>> ((p3 &&& (63 : Int32)) &&& 0x3f).toInt64.toUInt64).toInt64) (((q2 &&& (9223372036854775807 : Int64)).toUInt64 >>> ((p4 &&& (63 : Int32)) &&& 0x3f).toInt64.toUInt64).toInt64))), .second] [(.long (((q1 &&& (9223372036854775807 : Int64)).toUInt64 >>> ((p3 &&& (63 : Int32)) &&& 0x3f).toInt64.toUInt64).toInt64))])) _
  refine Goes.of (fun t k => XS.lload X12.here hx rfl (hb hby at_37) rfl k) ?_
  show Goes p e below (T12.setTop (mkF m 39 #[.val (.long q1), .second, .val (.long q2), .second, .val (.int p3), .val (.int p4), .val (.long (((q1 &&& (9223372036854775807 : Int64)).toUInt64 >>> ((p3 &&& (63 : Int32)) &&& 0x3f).toInt64.toUInt64).toInt64)), .second, .val (.long (((q2 &&& (9223372036854775807 : Int64)).toUInt64 >>> ((p4 &&& (63 : Int32)) &&& 0x3f).toInt64.toUInt64).toInt64)), .second, .val (.long (f1 (((q1 &&& (9223372036854775807 : Int64)).toUInt64 >>> ((p3 &&& (63 : Int32)) &&& 0x3f).toInt64.toUInt64).toInt64) (((q2 &&& (9223372036854775807 : Int64)).toUInt64 >>> ((p4 &&& (63 : Int32)) &&& 0x3f).toInt64.toUInt64).toInt64))), .second] [(.long (((q2 &&& (9223372036854775807 : Int64)).toUInt64 >>> ((p4 &&& (63 : Int32)) &&& 0x3f).toInt64.toUInt64).toInt64)), (.long (((q1 &&& (9223372036854775807 : Int64)).toUInt64 >>> ((p3 &&& (63 : Int32)) &&& 0x3f).toInt64.toUInt64).toInt64))])) _
  obtain ⟨_, _, ⟨T13, L13, k13, n13⟩, -, X13, ⟨Lc13, hQ13, l13, y13, z13⟩, st13⟩ := Jvm.LawKit.callS X12 hx (y := (⟨"com/example/ripplematch/ripplematch/core/CostBound", "product", "(JJ)J"⟩ : MethodName)) hown (mvT hZ (hw _ (List.mem_of_getElem? (i := 7) rfl))) (mvT hZ (hw _ (List.mem_of_getElem? (i := 8) rfl))) (mvT hZ (hw _ (List.mem_of_getElem? (i := 9) rfl))) (mvT hZ (hw _ (List.mem_of_getElem? (i := 10) rfl))) (by decide) (backOf (W := 0) (rm2 l Z a0 hw [] (((q1 &&& (9223372036854775807 : Int64)).toUInt64 >>> ((p3 &&& (63 : Int32)) &&& 0x3f).toInt64.toUInt64).toInt64) (((q2 &&& (9223372036854775807 : Int64)).toUInt64 >>> ((p4 &&& (63 : Int32)) &&& 0x3f).toInt64.toUInt64).toInt64)  h0 n0 Z0 ) hZ (hw _ (List.mem_of_getElem? (i := 10) rfl)) (hw _ (List.mem_of_getElem? (i := 9) rfl)) (by decide) (by decide)) (g := (mkF m 39 #[.val (.long q1), .second, .val (.long q2), .second, .val (.int p3), .val (.int p4), .val (.long (((q1 &&& (9223372036854775807 : Int64)).toUInt64 >>> ((p3 &&& (63 : Int32)) &&& 0x3f).toInt64.toUInt64).toInt64)), .second, .val (.long (((q2 &&& (9223372036854775807 : Int64)).toUInt64 >>> ((p4 &&& (63 : Int32)) &&& 0x3f).toInt64.toUInt64).toInt64)), .second, .val (.long (f1 (((q1 &&& (9223372036854775807 : Int64)).toUInt64 >>> ((p3 &&& (63 : Int32)) &&& 0x3f).toInt64.toUInt64).toInt64) (((q2 &&& (9223372036854775807 : Int64)).toUInt64 >>> ((p4 &&& (63 : Int32)) &&& 0x3f).toInt64.toUInt64).toInt64))), .second] [(.long (((q2 &&& (9223372036854775807 : Int64)).toUInt64 >>> ((p4 &&& (63 : Int32)) &&& 0x3f).toInt64.toUInt64).toInt64)), (.long (((q1 &&& (9223372036854775807 : Int64)).toUInt64 >>> ((p3 &&& (63 : Int32)) &&& 0x3f).toInt64.toUInt64).toInt64))])) rfl (by rw [hml]; rfl) (argsL := [(.long (((q1 &&& (9223372036854775807 : Int64)).toUInt64 >>> ((p3 &&& (63 : Int32)) &&& 0x3f).toInt64.toUInt64).toInt64)), (.long (((q2 &&& (9223372036854775807 : Int64)).toUInt64 >>> ((p4 &&& (63 : Int32)) &&& 0x3f).toInt64.toUInt64).toInt64))]) (rest := []) (lenOf pd_2 rfl) rfl (by show 2 * 0 + _ ≤ _; exact Nat.le_of_eq rfl) (hb hby at_39) (fun _ _ => ⟨rfl, e12, (by decide : 0 + 0 ≤ _), (by decide : 0 + 0 ≤ _)⟩)
  dsimp only [Pt.U, Pt.locs, Pt.cells, Pt.slots] at X13 l13 y13 z13 st13 hQ13
  subst l13 y13 z13
  obtain ⟨rfl, N13q, e13⟩ := hQ13
  have N13 := Fr.app N12 N13q
  refine Goes.of st13 ?_
  show Goes p e below (T13.setTop (mkF m 42 #[.val (.long q1), .second, .val (.long q2), .second, .val (.int p3), .val (.int p4), .val (.long (((q1 &&& (9223372036854775807 : Int64)).toUInt64 >>> ((p3 &&& (63 : Int32)) &&& 0x3f).toInt64.toUInt64).toInt64)), .second, .val (.long (((q2 &&& (9223372036854775807 : Int64)).toUInt64 >>> ((p4 &&& (63 : Int32)) &&& 0x3f).toInt64.toUInt64).toInt64)), .second, .val (.long (f1 (((q1 &&& (9223372036854775807 : Int64)).toUInt64 >>> ((p3 &&& (63 : Int32)) &&& 0x3f).toInt64.toUInt64).toInt64) (((q2 &&& (9223372036854775807 : Int64)).toUInt64 >>> ((p4 &&& (63 : Int32)) &&& 0x3f).toInt64.toUInt64).toInt64))), .second] [(.long (own_prod (((q1 &&& (9223372036854775807 : Int64)).toUInt64 >>> ((p3 &&& (63 : Int32)) &&& 0x3f).toInt64.toUInt64).toInt64) (((q2 &&& (9223372036854775807 : Int64)).toUInt64 >>> ((p4 &&& (63 : Int32)) &&& 0x3f).toInt64.toUInt64).toInt64)))])) _
  refine Goes.of (fun t k => XS.lload X13.here hx rfl (hb hby at_42) rfl k) ?_
  show Goes p e below (T13.setTop (mkF m 44 #[.val (.long q1), .second, .val (.long q2), .second, .val (.int p3), .val (.int p4), .val (.long (((q1 &&& (9223372036854775807 : Int64)).toUInt64 >>> ((p3 &&& (63 : Int32)) &&& 0x3f).toInt64.toUInt64).toInt64)), .second, .val (.long (((q2 &&& (9223372036854775807 : Int64)).toUInt64 >>> ((p4 &&& (63 : Int32)) &&& 0x3f).toInt64.toUInt64).toInt64)), .second, .val (.long (f1 (((q1 &&& (9223372036854775807 : Int64)).toUInt64 >>> ((p3 &&& (63 : Int32)) &&& 0x3f).toInt64.toUInt64).toInt64) (((q2 &&& (9223372036854775807 : Int64)).toUInt64 >>> ((p4 &&& (63 : Int32)) &&& 0x3f).toInt64.toUInt64).toInt64))), .second] [(.long (f1 (((q1 &&& (9223372036854775807 : Int64)).toUInt64 >>> ((p3 &&& (63 : Int32)) &&& 0x3f).toInt64.toUInt64).toInt64) (((q2 &&& (9223372036854775807 : Int64)).toUInt64 >>> ((p4 &&& (63 : Int32)) &&& 0x3f).toInt64.toUInt64).toInt64))), (.long (own_prod (((q1 &&& (9223372036854775807 : Int64)).toUInt64 >>> ((p3 &&& (63 : Int32)) &&& 0x3f).toInt64.toUInt64).toInt64) (((q2 &&& (9223372036854775807 : Int64)).toUInt64 >>> ((p4 &&& (63 : Int32)) &&& 0x3f).toInt64.toUInt64).toInt64)))])) _
  refine Goes.of (fun t k => XS.lcmp X13.here hx rfl (hb hby at_44) rfl k) ?_
  show Goes p e below (T13.setTop (mkF m 45 #[.val (.long q1), .second, .val (.long q2), .second, .val (.int p3), .val (.int p4), .val (.long (((q1 &&& (9223372036854775807 : Int64)).toUInt64 >>> ((p3 &&& (63 : Int32)) &&& 0x3f).toInt64.toUInt64).toInt64)), .second, .val (.long (((q2 &&& (9223372036854775807 : Int64)).toUInt64 >>> ((p4 &&& (63 : Int32)) &&& 0x3f).toInt64.toUInt64).toInt64)), .second, .val (.long (f1 (((q1 &&& (9223372036854775807 : Int64)).toUInt64 >>> ((p3 &&& (63 : Int32)) &&& 0x3f).toInt64.toUInt64).toInt64) (((q2 &&& (9223372036854775807 : Int64)).toUInt64 >>> ((p4 &&& (63 : Int32)) &&& 0x3f).toInt64.toUInt64).toInt64))), .second] [(.int (lcmpW (own_prod (((q1 &&& (9223372036854775807 : Int64)).toUInt64 >>> ((p3 &&& (63 : Int32)) &&& 0x3f).toInt64.toUInt64).toInt64) (((q2 &&& (9223372036854775807 : Int64)).toUInt64 >>> ((p4 &&& (63 : Int32)) &&& 0x3f).toInt64.toUInt64).toInt64)) (f1 (((q1 &&& (9223372036854775807 : Int64)).toUInt64 >>> ((p3 &&& (63 : Int32)) &&& 0x3f).toInt64.toUInt64).toInt64) (((q2 &&& (9223372036854775807 : Int64)).toUInt64 >>> ((p4 &&& (63 : Int32)) &&& 0x3f).toInt64.toUInt64).toInt64))))])) _
  have hd45_14 : (own_prod (((q1 &&& (9223372036854775807 : Int64)).toUInt64 >>> ((p3 &&& (63 : Int32)) &&& 0x3f).toInt64.toUInt64).toInt64) (((q2 &&& (9223372036854775807 : Int64)).toUInt64 >>> ((p4 &&& (63 : Int32)) &&& 0x3f).toInt64.toUInt64).toInt64)) = (f1 (((q1 &&& (9223372036854775807 : Int64)).toUInt64 >>> ((p3 &&& (63 : Int32)) &&& 0x3f).toInt64.toUInt64).toInt64) (((q2 &&& (9223372036854775807 : Int64)).toUInt64 >>> ((p4 &&& (63 : Int32)) &&& 0x3f).toInt64.toUInt64).toInt64)) := own_eq _ _ ha hb'
  refine Goes.of (fun t k => XS.ifNo X13.here hx rfl (hb hby at_45) rfl ((if0 _ _).trans (teq ((lw_eq _ _).mpr hd45_14)).2) k) ?_
  show Goes p e below (T13.setTop (mkF m 48 #[.val (.long q1), .second, .val (.long q2), .second, .val (.int p3), .val (.int p4), .val (.long (((q1 &&& (9223372036854775807 : Int64)).toUInt64 >>> ((p3 &&& (63 : Int32)) &&& 0x3f).toInt64.toUInt64).toInt64)), .second, .val (.long (((q2 &&& (9223372036854775807 : Int64)).toUInt64 >>> ((p4 &&& (63 : Int32)) &&& 0x3f).toInt64.toUInt64).toInt64)), .second, .val (.long (f1 (((q1 &&& (9223372036854775807 : Int64)).toUInt64 >>> ((p3 &&& (63 : Int32)) &&& 0x3f).toInt64.toUInt64).toInt64) (((q2 &&& (9223372036854775807 : Int64)).toUInt64 >>> ((p4 &&& (63 : Int32)) &&& 0x3f).toInt64.toUInt64).toInt64))), .second] [])) _
  refine Goes.of (fun t k => XS.iconst X13.here hx rfl (hb hby at_48) k) ?_
  show Goes p e below (T13.setTop (mkF m 49 #[.val (.long q1), .second, .val (.long q2), .second, .val (.int p3), .val (.int p4), .val (.long (((q1 &&& (9223372036854775807 : Int64)).toUInt64 >>> ((p3 &&& (63 : Int32)) &&& 0x3f).toInt64.toUInt64).toInt64)), .second, .val (.long (((q2 &&& (9223372036854775807 : Int64)).toUInt64 >>> ((p4 &&& (63 : Int32)) &&& 0x3f).toInt64.toUInt64).toInt64)), .second, .val (.long (f1 (((q1 &&& (9223372036854775807 : Int64)).toUInt64 >>> ((p3 &&& (63 : Int32)) &&& 0x3f).toInt64.toUInt64).toInt64) (((q2 &&& (9223372036854775807 : Int64)).toUInt64 >>> ((p4 &&& (63 : Int32)) &&& 0x3f).toInt64.toUInt64).toInt64))), .second] [(.int (1 : Int32))])) _
  refine Goes.of (fun t k => XS.goto X13.here hx rfl (pc0 := 49) (pc' := 53) rfl (hb hby at_49) (by decide) (by decide) k) ?_
  show Goes p e below (T13.setTop (mkF m 53 #[.val (.long q1), .second, .val (.long q2), .second, .val (.int p3), .val (.int p4), .val (.long (((q1 &&& (9223372036854775807 : Int64)).toUInt64 >>> ((p3 &&& (63 : Int32)) &&& 0x3f).toInt64.toUInt64).toInt64)), .second, .val (.long (((q2 &&& (9223372036854775807 : Int64)).toUInt64 >>> ((p4 &&& (63 : Int32)) &&& 0x3f).toInt64.toUInt64).toInt64)), .second, .val (.long (f1 (((q1 &&& (9223372036854775807 : Int64)).toUInt64 >>> ((p3 &&& (63 : Int32)) &&& 0x3f).toInt64.toUInt64).toInt64) (((q2 &&& (9223372036854775807 : Int64)).toUInt64 >>> ((p4 &&& (63 : Int32)) &&& 0x3f).toInt64.toUInt64).toInt64))), .second] [(.int (1 : Int32))])) _
  exact Goes.retN (t := .boolean) X13 hx Bd.returns (by simp) hlocks (hb hby at_53) (⟨rfl, N13⟩) (by decide) (by decide)
set_option maxRecDepth 65536 in
set_option maxHeartbeats 40000000 in
theorem comes_1 {Post : Tables → Env → Array Value → State → Outcome → State → Prop} (hpost : ∀ tb e args s v u, (limb_1_1.after args s (.returned v) u = true ∧ limb_1_2.after args s (.returned v) u = true ∧ True) → FrameEnd s (.returned v) u (Jvm.fieldLocs frame_1_writes args s ++ Jvm.arrayLocs frame_1_arrays args s ++ Jvm.staticLocs frame_1_statics s) 0 0 → Post tb e args s (.returned v) u) :
    ArmFor flags0 classFile x code maxLocals ret World_1 tables_1 room_1 Calls_1 rest_1 Pre_1 Post := by
  intro l hfl _ _ p e ha hc hk s m args below hf hA hF happ hP
  obtain ⟨hcalls, hrest, hpre⟩ := hP
  obtain ⟨-, -, -, hnamed, -, -, -, hat⟩ := (Spec.applies_iff hf).mp happ
  obtain ⟨hg, hn⟩ := and_e (Cond.before_iff.mp (show (Jvm.Cond.and given_1 narrow_1).before args s = true from hpre))
  obtain ⟨g15, g16⟩ := and_e hg
  obtain ⟨g17, g18⟩ := and_e g16
  obtain ⟨g19, g20⟩ := and_e g18
  obtain ⟨g21, g22⟩ := and_e g20
  obtain ⟨w0, w1, w2, w3, rfl⟩ : ∃ w0 w1 w2 w3 : Value, args = #[w0, w1, w2, w3] := by
    have hs : args.size = 4 := by simpa [Cond.value, given_1] using g15
    obtain ⟨L⟩ := args
    match L, hs with
    | [w0, w1, w2, w3], _ => exact ⟨w0, w1, w2, w3, rfl⟩
  have hw := fun d (hd : d ∈ tables_1) => atoms_spec (ws := Jvm.Cond.code x code maxLocals ret :: tables_1) hat d (List.mem_cons_of_mem _ hd)
  have hfit : Fit s := fun {y c} hc i hi => by
    obtain ⟨ha, rfl⟩ := Array.getElem?_eq_some_iff.mp hc
    have q := List.all_eq_true.mp ((Array.all_eq_true_iff_forall_mem.mp hF) _ (Array.getElem_mem ha)) i (List.mem_range.mpr hi)
    simpa [Array.getElem?_eq_getElem hi] using q
  obtain ⟨i0, ei0⟩ := isL_v g17
  obtain rfl : w0 = (.long i0) := Option.some.inj ei0
  obtain ⟨i1, ei1⟩ := isL_v g19
  obtain rfl : w1 = (.long i1) := Option.some.inj ei1
  obtain ⟨i2, ei2⟩ := is_v g21
  obtain rfl : w2 = (.int i2) := Option.some.inj ei2
  obtain ⟨i3, ei3⟩ := is_v g22
  obtain rfl : w3 = (.int i3) := Option.some.inj ei3
  obtain ⟨n, o, h1, h2, h3, _, L, rfl, ⟨rfl, N⟩, hq⟩ := rm0 l s _ hw tables_1 i0 i1 i2 i3  s.heap s.heap.size (Nat.le_refl _)  p e ha hc hk s m _ below hf ((Spec.applies_iff_loose hf).mp happ).1 ⟨rfl, State.Warmed39.refl s, rfl⟩ trivial
  refine ⟨n, _, h1, h2, h3, hpost _ _ _ _ _ _ ⟨Cond.after_iff.mpr rfl, Cond.after_iff.mpr (eq_i res_at (Term.int_eval (1)) rfl), trivial⟩ ⟨hq.1, hq.2.1, (hq.2.2.sift fun y hy => Or.inr (N y hy)).mono (by decide) (by decide)⟩⟩
theorem main_1_1 : Claimed_1_1 := comes_1 fun _ _ _ _ _ _ h hF => ⟨h.1, hF⟩
theorem main_1_2 : Claimed_1_2 := comes_1 fun _ _ _ _ _ _ h hF => ⟨h.2.1, hF⟩
end Jvm.Pilot.@@N@@
namespace Jvm.Pilot.@@N@@
open Jvm Jvm.ClassFile Sem Op Lib Jvm.Free Jvm.Stand Jvm.Pilot.@@N@@.Jvm.D
/-! MADE BY PROGRAM (witnessworld.py) out of the Statement's table words and the real class files: 9 classes; the members and pool entries that the words name. The judged class is class 1, her method 1. -/
namespace start1
open Jvm.ClassFile
def u (s : String) : CpInfo := .utf8 (stringToUtf16 s)
/-- a pool by its gaps: so many unusable entries, then the entry; so many at the end -/
def gap : Nat → List CpInfo → List CpInfo
  | 0, r => r
  | n + 1, r => .unusable :: gap n r
def poolList (es : List (Nat × CpInfo)) (last : Nat) : List CpInfo := es.foldr (fun e r => gap e.1 (e.2 :: r)) (gap last [])
def pool (es : List (Nat × CpInfo)) (last : Nat) : Array CpInfo := ⟨poolList es last⟩
def fileOf (pool : Array CpInfo) (this : Nat) (attrs : Array Attribute := #[]) (ms : Array MethodInfo := #[]) (fl : Nat := 33) (sup : Nat := 0) (ifs : Array Nat := #[]) (fds : Array FieldInfo := #[]) : ClassFile where
  minorVersion := 0
  majorVersion := 65
  constantPool := pool
  accessFlags := fl
  thisClass := this
  superClass := sup
  interfaces := ifs
  fields := fds
  methods := ms
  attributes := attrs
def plain (name : String) (sup : Option ClassId) : Class where
  name := name
  kind := .ordinary
  loader := none
  accessFlags := 33
  super := sup
  interfaces := #[]
  cf := none
  fields := #[]
  methods := #[]
  instanceTypes := #[]
  staticTypes := #[]
  resolved := #[]
  callSites := []
  init := .initialized
  statics := none
  mirror := none

def pool0 : Array CpInfo := pool [(5, u "<init>"), (0, u "()V"), (1, .class_ 10), (1, u "java/lang/Object")] 113

def k0m0 : Method := { name := "<init>", desc := "()V", sig := { parameters := [], returnType := none }, accessFlags := 1, code := none }
/-- java/lang/Object -/
def k0 : Class := { plain "java/lang/Object" none with
  accessFlags := 33
  interfaces := #[]
  cf := some (fileOf pool0 8 #[] #[{ accessFlags := 1, nameIndex := 5, descriptorIndex := 6, attributes := #[] }] 33 0 #[] #[])
  fields := #[]
  methods := #[k0m0]
  instanceTypes := #[]
  staticTypes := #[]
  resolved := Array.replicate 124 none
  statics := none }

def pool1 : Array CpInfo := pool [(2, .class_ 4), (1, u "java/lang/Object"), (0, u "<init>"), (0, u "()V"), (2, .long 9223372036854775807), (1, .methodref 12 13), (0, .class_ 14), (0, .nameAndType 15 16), (0, u "com/example/ripplematch/ripplematch/core/CostBoundProductPinLaw"), (0, u "reference"), (0, u "(JJ)J"), (0, .methodref 18 19), (0, .class_ 20), (0, .nameAndType 21 16), (0, u "com/example/ripplematch/ripplematch/core/CostBound"), (0, u "product"), (0, .long 4294967295), (1, .long 2147483648), (3, u "law"), (0, u "(JJII)Z")] 3

def k1m0 : Method := { name := "<init>", desc := "()V", sig := { parameters := [], returnType := none }, accessFlags := 1, code := none }
def k1c1 : Code := { maxStack := 4, maxLocals := 12, code := code, exceptionTable := #[], attributes := #[] }
def k1m1 : Method := { name := "law", desc := "(JJII)Z", sig := { parameters := [.long, .long, .int, .int], returnType := some .boolean }, accessFlags := 9, code := some k1c1 }
def k1c2 : Code := { maxStack := 6, maxLocals := 18, code := method_3_code, exceptionTable := #[], attributes := #[] }
def k1m2 : Method := { name := "reference", desc := "(JJ)J", sig := { parameters := [.long, .long], returnType := some .long }, accessFlags := 10, code := some k1c2 }
/-- com/example/ripplematch/ripplematch/core/CostBoundProductPinLaw -/
def k1 : Class := { plain "com/example/ripplematch/ripplematch/core/CostBoundProductPinLaw" (some 0) with
  accessFlags := 49
  interfaces := #[]
  cf := some (fileOf pool1 12 #[] #[{ accessFlags := 1, nameIndex := 5, descriptorIndex := 6, attributes := #[] }, { accessFlags := 9, nameIndex := 28, descriptorIndex := 29, attributes := #[] }, { accessFlags := 10, nameIndex := 15, descriptorIndex := 16, attributes := #[] }] 49 2 #[] #[])
  fields := #[]
  methods := #[k1m0, k1m1, k1m2]
  instanceTypes := #[]
  staticTypes := #[]
  resolved := Array.replicate 33 none
  statics := none }

def pool2 : Array CpInfo := pool [(2, .class_ 4), (1, u "java/lang/Object"), (6, .class_ 13), (1, u "com/example/ripplematch/ripplematch/core/CostBound"), (0, u "left"), (0, u "Ljava/util/List;"), (2, u "entered"), (2, u "serial"), (0, u "J"), (2, u "leaving"), (0, u "Lcom/example/ripplematch/ripplematch/core/Fact;"), (2, u "arriving"), (2, u "tests"), (12, u "(JJ)J"), (15, .class_ 62), (0, u "com/example/ripplematch/ripplematch/core/CostBound$Held"), (74, .class_ 139), (1, u "com/example/ripplematch/ripplematch/core/CostBound$Matches"), (14, .class_ 155), (0, u "com/example/ripplematch/ripplematch/core/CostBound$Step"), (17, .long 9223372036854775807), (40, u "product"), (4, .class_ 220), (0, u "com/example/ripplematch/ripplematch/core/CostBound$Known")] 23

def k2c0 : Code := { maxStack := 6, maxLocals := 4, code := prog_30_method_19_code, exceptionTable := #[], attributes := #[] }
def k2m0 : Method := { name := "product", desc := "(JJ)J", sig := { parameters := [.long, .long], returnType := some .long }, accessFlags := 8, code := some k2c0 }
/-- com/example/ripplematch/ripplematch/core/CostBound -/
def k2 : Class := { plain "com/example/ripplematch/ripplematch/core/CostBound" (some 0) with
  accessFlags := 48
  interfaces := #[]
  cf := some (fileOf pool2 11 #[.nestMembers #[154, 137, 219, 61]] #[{ accessFlags := 8, nameIndex := 214, descriptorIndex := 45, attributes := #[] }] 48 2 #[] #[{ accessFlags := 18, nameIndex := 21, descriptorIndex := 22, attributes := #[] }, { accessFlags := 18, nameIndex := 25, descriptorIndex := 26, attributes := #[] }, { accessFlags := 18, nameIndex := 29, descriptorIndex := 26, attributes := #[] }, { accessFlags := 18, nameIndex := 14, descriptorIndex := 15, attributes := #[] }, { accessFlags := 18, nameIndex := 18, descriptorIndex := 15, attributes := #[] }, { accessFlags := 2, nameIndex := 32, descriptorIndex := 22, attributes := #[] }])
  fields := #[{ name := "serial", type := .long, accessFlags := 18, slot := 0, constantValue := 0 }, { name := "leaving", type := (.object "com/example/ripplematch/ripplematch/core/Fact"), accessFlags := 18, slot := 1, constantValue := 0 }, { name := "arriving", type := (.object "com/example/ripplematch/ripplematch/core/Fact"), accessFlags := 18, slot := 2, constantValue := 0 }, { name := "left", type := (.object "java/util/List"), accessFlags := 18, slot := 3, constantValue := 0 }, { name := "entered", type := (.object "java/util/List"), accessFlags := 18, slot := 4, constantValue := 0 }, { name := "tests", type := .long, accessFlags := 2, slot := 5, constantValue := 0 }]
  methods := #[k2m0]
  instanceTypes := #[.long, (.object "com/example/ripplematch/ripplematch/core/Fact"), (.object "com/example/ripplematch/ripplematch/core/Fact"), (.object "java/util/List"), (.object "java/util/List"), .long]
  staticTypes := #[]
  resolved := Array.replicate 244 none
  statics := none }

def pool3 : Array CpInfo := pool [(1, u "java/lang/Cloneable"), (0, .class_ 1), (0, u "java/lang/Object"), (0, .class_ 3)] 3

/-- java/lang/Cloneable -/
def k3 : Class := { plain "java/lang/Cloneable" (some 0) with
  accessFlags := 1537
  interfaces := #[]
  cf := some (fileOf pool3 2 #[] #[] 1537 4 #[] #[])
  fields := #[]
  methods := #[]
  instanceTypes := #[]
  staticTypes := #[]
  resolved := Array.replicate 8 none
  statics := none }

def pool4 : Array CpInfo := pool [(1, u "java/io/Serializable"), (0, .class_ 1), (0, u "java/lang/Object"), (0, .class_ 3)] 3

/-- java/io/Serializable -/
def k4 : Class := { plain "java/io/Serializable" (some 0) with
  accessFlags := 1537
  interfaces := #[]
  cf := some (fileOf pool4 2 #[] #[] 1537 4 #[] #[])
  fields := #[]
  methods := #[]
  instanceTypes := #[]
  staticTypes := #[]
  resolved := Array.replicate 8 none
  statics := none }

/-- the primitive byte -/
def k5 : Class := { plain "byte" none with kind := .primitive 'B', accessFlags := 0x411 }
/-- [B -/
def k6 : Class := { plain "[B" (some 0) with kind := .array 5 .byte, interfaces := #[3, 4], accessFlags := 1041 }

/-- the primitive int -/
def k7 : Class := { plain "int" none with kind := .primitive 'I', accessFlags := 0x411 }
/-- [I -/
def k8 : Class := { plain "[I" (some 0) with kind := .array 7 .int, interfaces := #[3, 4], accessFlags := 1041 }

def heap : Heap := #[]
def classes : Array Class := #[k0, k1, k2, k3, k4, k5, k6, k7, k8]
def interned : List (Array UInt16 × Addr) := []
def slotsUsed : Nat := 0
def theMethod : MethodId := ⟨1, 1⟩
def args0 : Array Value := #[.long 5, .long 7, .int 1, .int 2]
def aboutOver (below : List Frame) : State where
  vm := { classes := classes, interned := interned.toArray }
  heap := heap
  slotsUsed := slotsUsed
  threads := #[{ frames := .invoking theMethod args0 :: below }]
def below0 : List Frame := [.native { method := ⟨0, 0⟩, args := #[] }]
def about1 : State := aboutOver below0
def p0 : Program := .bare "" "" ""
def e0 : Env := launch0.env 0 0 0
theorem w_frames : about1.frames = Frame.invoking theMethod args0 :: below0 := rfl
set_option maxRecDepth 65536 in
theorem w_args : argsFit about1.vm theMethod args0 = true := by decide +kernel
set_option maxRecDepth 65536 in
theorem w_heap : heapFits about1 = true := by decide +kernel
set_option maxRecDepth 65536 in
theorem w_runnable : about1.curStatus? = some .runnable := by decide +kernel
set_option maxRecDepth 65536 in
theorem w_alone : about1.alone = true := by decide +kernel
set_option maxRecDepth 65536 in
theorem w_named : about1.methodNamed? x = some theMethod := by decide +kernel
set_option maxRecDepth 65536 in
theorem w_hears : about1.hears theMethod below0 = true := by decide +kernel
set_option maxRecDepth 65536 in
theorem w_ripe : about1.ripe theMethod args0 below0 = true := by decide +kernel
theorem w_running : about1.status = .running := rfl
set_option maxRecDepth 65536 in
theorem w_room : about1.hasRoom e0.platform room_1 = true :=
  launch0.hasRoom_least _ room_1 (by decide +kernel) (by decide +kernel) (by decide +kernel) (by decide +kernel) (by decide +kernel) (by decide +kernel)
theorem allAtoms_all (ts : List Jvm.Cond) (a : Array Jvm.Value) (st : Jvm.State) : (allAtoms ts).before a st = ts.all (fun c => c.before a st) := by
  induction ts with
  | nil => rfl
  | cons c t ih =>
    show (Jvm.Cond.and c (allAtoms t)).before a st = _
    rw [Jvm.Cond.before_and, ih, List.all_cons]
def words1 : List Jvm.Cond := Jvm.Cond.code x code maxLocals ret :: tables_1
/-- a 'code' word, met by the world's own term for the bytes: nothing is compared byte by byte -/
theorem code_word {y : MethodName} {bytes : ByteArray} {mx : Nat} {rt : Option FieldType} {a : Array Value} {s : State} {m : MethodId} {meth : Method} {c : Code} (h1 : s.methodNamed? y = some m) (h2 : s.vm.method? m = some meth) (h3 : meth.code = some c) (h4 : c.code = bytes)
    (h5 : (c.maxLocals == mx && c.exceptionTable.isEmpty && decide (c.maxStack ≤ mostOperands) && decide (meth.sig.returnType = rt) && !meth.locks && decide (parseMethodDescriptor y.desc = some meth.sig)) = true) : (Jvm.Cond.code y bytes mx rt).before a s = true := by
  simp only [Bool.and_eq_true, beq_iff_eq, Bool.not_eq_true', decide_eq_true_eq] at h5
  obtain ⟨⟨⟨⟨⟨g1, g2⟩, g3⟩, g4⟩, g5⟩, g6⟩ := h5
  simp [Cond.before, Cond.holds, Cond.value, h1, h2, h3, h4, g1, g2, g3, g4, g5, g6]
def isCode : Jvm.Cond → Bool
  | .code _ _ _ _ => true
  | _ => false
theorem all_split {L : List Jvm.Cond} {P : Jvm.Cond → Bool} (h1 : L.all (fun c => isCode c || P c) = true) (h2 : ∀ c ∈ L.filter isCode, P c = true) : L.all P = true := by
  refine List.all_eq_true.mpr fun c hc => ?_
  have h := List.all_eq_true.mp h1 c hc
  rcases Bool.eq_false_or_eq_true (isCode c) with hi | hi
  · exact h2 c (List.mem_filter.mpr ⟨hc, hi⟩)
  · simpa [hi] using h
set_option maxRecDepth 65536 in
theorem w_c0 : (Jvm.Cond.code x code maxLocals ret).before args0 about1 = true := code_word (m := ⟨1, 1⟩) (meth := k1m1) (c := k1c1) (by decide +kernel) rfl rfl rfl (by decide +kernel)
set_option maxRecDepth 65536 in
theorem w_c1 : (Jvm.Cond.code ({ cls := "com/example/ripplematch/ripplematch/core/CostBoundProductPinLaw", name := "reference", desc := "(JJ)J" } : Jvm.MethodName) method_3_code (18 : Nat) (Option.some Jvm.ClassFile.FieldType.long)).before args0 about1 = true := code_word (m := ⟨1, 2⟩) (meth := k1m2) (c := k1c2) (by decide +kernel) rfl rfl rfl (by decide +kernel)
set_option maxRecDepth 65536 in
theorem w_c2 : (Jvm.Cond.code ({ cls := "com/example/ripplematch/ripplematch/core/CostBound", name := "product", desc := "(JJ)J" } : Jvm.MethodName) prog_30_method_19_code (4 : Nat) (Option.some Jvm.ClassFile.FieldType.long)).before args0 about1 = true := code_word (m := ⟨2, 0⟩) (meth := k2m0) (c := k2c0) (by decide +kernel) rfl rfl rfl (by decide +kernel)
def codes1 : List Jvm.Cond := [Jvm.Cond.code x code maxLocals ret, Jvm.Cond.code ({ cls := "com/example/ripplematch/ripplematch/core/CostBoundProductPinLaw", name := "reference", desc := "(JJ)J" } : Jvm.MethodName) method_3_code (18 : Nat) (Option.some Jvm.ClassFile.FieldType.long), Jvm.Cond.code ({ cls := "com/example/ripplematch/ripplematch/core/CostBound", name := "product", desc := "(JJ)J" } : Jvm.MethodName) prog_30_method_19_code (4 : Nat) (Option.some Jvm.ClassFile.FieldType.long)]
set_option maxRecDepth 65536 in
theorem codes_eq : words1.filter isCode = codes1 := rfl
theorem w_codes : ∀ c ∈ words1.filter isCode, c.before args0 about1 = true := by
  rw [codes_eq]
  intro c hc
  simp only [codes1, List.mem_cons, List.not_mem_nil, or_false] at hc
  rcases hc with rfl | rfl | rfl
  · exact w_c0
  · exact w_c1
  · exact w_c2
set_option maxRecDepth 65536 in
theorem w_t1 : words1.all (fun c => isCode c || c.before args0 about1) = true := by decide +kernel
theorem w_tables : (allAtoms (Jvm.Cond.code x code maxLocals ret :: tables_1)).before args0 about1 = true := by
  rw [allAtoms_all]
  show words1.all (fun c => c.before args0 about1) = true
  refine all_split ?_ w_codes
  rw [w_t1]
set_option maxRecDepth 65536 in
theorem w_case : (Jvm.Cond.and given_1 narrow_1).before args0 about1 = true := by decide +kernel
theorem w_applies : (headSpec (Jvm.Cond.code x code maxLocals ret :: tables_1) room_1).applies x e0.platform about1 = true :=
  (Spec.applies_iff w_frames).mpr ⟨w_running, w_runnable, w_alone, w_named, w_hears, w_ripe, w_room, w_tables⟩
theorem atStart : AtStart classFile x code maxLocals ret World_1 tables_1 room_1 Calls_1 rest_1 Pre_1 launch0 p0 e0 about1 theMethod args0 below0 :=
  ⟨lists_1, trivial, launch0.admits_env _ _ _, launch0.least_env, fairChoices_fair.cas, fairChoices_fair.clock, w_frames, w_args, w_heap, w_applies, trivial, trivial, w_case⟩
end start1
theorem witness_1 : WitnessClaimed_1 := ⟨start1.p0, start1.e0, start1.about1, start1.theMethod, start1.args0, start1.below0, start1.atStart⟩
end Jvm.Pilot.@@N@@
