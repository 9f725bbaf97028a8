import JvmDerived
import JvmDerived.Pilot.@@N@@Statement
import JvmDerived.Pilot.@@N@@Code
set_option linter.unusedVariables false
set_option linter.unusedSimpArgs false
@@BLOCK:NumsL.lean.txt@@
namespace Jvm.OwnN
theorem own_rem32 (x y : Int32) : (x - x / y * y).toInt = x.toInt.tmod y.toInt := by
  have a := (x % y).toInt_lt; have b := (x % y).le_toInt
  rw [Int32.toInt_mod] at a b
  rw [Int32.toInt_sub, Int32.toInt_mul, Int32.toInt_div, Int.bmod_mul_bmod, Int.sub_bmod_bmod, Int.mul_comm, ← Int.tmod_def]
  exact Jvm.Kit.bmod32 b a
theorem own_rem32n {x y : Int32} (hx : 0 ≤ x.toInt) : (x - x / y * y).toInt = x.toInt % y.toInt := by rw [own_rem32, Int.tmod_eq_emod_of_nonneg hx]
end Jvm.OwnN
namespace Jvm.RoadKit
open Sem ClassFile Op Lib Jvm.Stand Jvm.Free Jvm.LawKit
section New
variable {p : Program} {l : Launch} {e : Env} {R : Room} {s : State} {m : MethodId} {args : Array Value} {below : List Frame} {meth : Method} {c : Code} {T : State} {locs : List Loc} {cells slots : Nat}
theorem retI (X : Stand p l e R s m args below meth c T locs cells slots) (hx : p.tables.exec = Jvm.exec) {pc : Nat} {Ls : Array Slot} {z : Int32} {rest : List Value} (hret : meth.sig.returnType = some .int) (hd : decode c.code pc = .ok (.ireturn, 1)) {fs : List Frame}
    (hl : ∀ (f : JFrame) (acts : List Action), f.method = m → f.locked = none → f.entered = [] → (doReturn e (T.setTop f) acts (some (.int z))).1 = T.setFrames fs) : Steps p.tables e below (T.setTop (mkF m pc Ls (.int z :: rest))) (T.setFrames fs) := by
  have hm' : T.vm.method? m = some meth := X.method'
  have hn : narrow .int (.int z) = .int z := rfl
  show Steps p.tables e below (T.setTop { method := m, pc := pc, locals := Ls, stack := _ :: rest, locked := none }) _
  jvm_step X.here [X.here.top, hx, hd, hm', hret, hn]
  first | (intro acts; rw [hl _ acts rfl rfl rfl]) | rw [hl _ _ rfl rfl rfl]
  exact Steps.refl _
/-- the run goes on from S to an end of which P holds -/
def Goes (p : Program) (e : Env) (below : List Frame) (S : State) (P : Outcome → State → Prop) : Prop := ∃ s₂ o, Steps p.tables e below S s₂ ∧ s₂.status = .running ∧ Ended s₂ below o ∧ P o s₂
/-- what every contract here says of the end -/
def Fin (s : State) (Q : Option Value → Heap → List Loc → Prop) (C N : Nat) (o : Outcome) (U : State) : Prop := ∃ v L, o = .returned v ∧ Q v U.heap L ∧ FrameEnd s o U L C N
theorem Goes.of {S S' : State} {P : Outcome → State → Prop} (h : ∀ t, Steps p.tables e below S' t → Steps p.tables e below S t) (g : Goes p e below S' P) : Goes p e below S P := by
  obtain ⟨s₂, o, h1, h2⟩ := g
  exact ⟨s₂, o, h _ h1, h2⟩
theorem Goes.out (X : Stand p l e R s m args below meth c T locs cells slots) {v : Option Value} (hv : meth.sig.returnType = none → v = none) (hlocks : meth.locks = false) {g : JFrame} {Q : Option Value → Heap → List Loc → Prop} {C N : Nat}
    (hst : ∀ fs, (∀ (f : JFrame) (acts : List Action), f.method = m → f.locked = none → f.entered = [] → (doReturn e (T.setTop f) acts v).1 = T.setFrames fs) → Steps p.tables e below (T.setTop g) (T.setFrames fs))
    (hq : Q v T.heap locs) (h1 : cells ≤ C) (h2 : slots ≤ N) : Goes p e below (T.setTop g) (Fin s Q C N) := by
  obtain ⟨fs, hr, hrun, hended, hW, hsame⟩ := X.leave (v := v) hv hlocks
  exact ⟨_, _, hst fs hr, hrun, hended, v, locs, rfl, hq, ⟨_, rfl⟩, hW, hsame.mono h1 h2⟩
theorem Goes.retI (X : Stand p l e R s m args below meth c T locs cells slots) (hx : p.tables.exec = Jvm.exec) (hret : meth.sig.returnType = some .int) (hlocks : meth.locks = false) {pc : Nat} {Ls : Array Slot} {z : Int32} {rest : List Value} (hd : decode c.code pc = .ok (.ireturn, 1)) {Q : Option Value → Heap → List Loc → Prop} {C N : Nat}
    (hq : Q (some (.int z)) T.heap locs) (h1 : cells ≤ C) (h2 : slots ≤ N) : Goes p e below (T.setTop (mkF m pc Ls (.int z :: rest))) (Fin s Q C N) :=
  Goes.out X (v := some (.int z)) (fun h => by rw [hret] at h; cases h) hlocks (fun fs hr => Jvm.RoadKit.retI X hx hret hd hr) hq h1 h2
theorem Goes.retN (X : Stand p l e R s m args below meth c T locs cells slots) (hx : p.tables.exec = Jvm.exec) {t : FieldType} (hret : meth.sig.returnType = some t) (ht : t = .boolean ∨ t = .byte ∨ t = .char ∨ t = .short) (hlocks : meth.locks = false) {pc : Nat} {Ls : Array Slot} {z : Int32} {rest : List Value} (hd : decode c.code pc = .ok (.ireturn, 1)) {Q : Option Value → Heap → List Loc → Prop} {C N : Nat}
    (hq : Q (some (.int (nar t z))) T.heap locs) (h1 : cells ≤ C) (h2 : slots ≤ N) : Goes p e below (T.setTop (mkF m pc Ls (.int z :: rest))) (Fin s Q C N) :=
  Goes.out X (v := some (.int (nar t z))) (fun h => by rw [hret] at h; cases h) hlocks (fun fs hr => Jvm.RoadKit.retN X hx (t := t) hret ht hd hr) hq h1 h2
theorem Goes.retJ (X : Stand p l e R s m args below meth c T locs cells slots) (hx : p.tables.exec = Jvm.exec) (hret : meth.sig.returnType = some .long) (hlocks : meth.locks = false) {pc : Nat} {Ls : Array Slot} {z : Int64} (hd : decode c.code pc = .ok (.lreturn, 1)) {Q : Option Value → Heap → List Loc → Prop} {C N : Nat}
    (hq : Q (some (.long z)) T.heap locs) (h1 : cells ≤ C) (h2 : slots ≤ N) : Goes p e below (T.setTop (mkF m pc Ls [.long z])) (Fin s Q C N) :=
  Goes.out X (v := some (.long z)) (fun h => by rw [hret] at h; cases h) hlocks (fun fs hr => X.lreturnOut hx hret hd hr) hq h1 h2
theorem Goes.retD (X : Stand p l e R s m args below meth c T locs cells slots) (hx : p.tables.exec = Jvm.exec) (hret : meth.sig.returnType = some .double) (hlocks : meth.locks = false) {pc : Nat} {Ls : Array Slot} {z : UInt64} (hd : decode c.code pc = .ok (.dreturn, 1)) {Q : Option Value → Heap → List Loc → Prop} {C N : Nat}
    (hq : Q (some (.double z)) T.heap locs) (h1 : cells ≤ C) (h2 : slots ≤ N) : Goes p e below (T.setTop (mkF m pc Ls [.double z])) (Fin s Q C N) :=
  Goes.out X (v := some (.double z)) (fun h => by rw [hret] at h; cases h) hlocks (fun fs hr => by
    have hm' : T.vm.method? m = some meth := X.method'
    jvm_step X.here [X.here.top, hx, hd, hm', hret, narrow]
    first | (intro acts; rw [hr _ acts rfl rfl rfl]) | rw [hr _ _ rfl rfl rfl]
    exact Steps.refl _) hq h1 h2
theorem Goes.retA (X : Stand p l e R s m args below meth c T locs cells slots) (hx : p.tables.exec = Jvm.exec) {w : Value} {t : FieldType} (hw : w.isRef = true) (hret : meth.sig.returnType = some t) (ht : t.isReference = true) (hlocks : meth.locks = false) {pc : Nat} {Ls : Array Slot} (hd : decode c.code pc = .ok (.areturn, 1)) {Q : Option Value → Heap → List Loc → Prop} {C N : Nat}
    (hq : Q (some w) T.heap locs) (h1 : cells ≤ C) (h2 : slots ≤ N) : Goes p e below (T.setTop (mkF m pc Ls [w])) (Fin s Q C N) :=
  Goes.out X (v := some w) (fun h => by rw [hret] at h; cases h) hlocks (fun fs hr => X.areturnOut hx hw hret ht hd hr) hq h1 h2
theorem Goes.retV (X : Stand p l e R s m args below meth c T locs cells slots) (hx : p.tables.exec = Jvm.exec) (hret : meth.sig.returnType = none) (hlocks : meth.locks = false) {pc : Nat} {Ls : Array Slot} (hd : decode c.code pc = .ok (.return_, 1)) {Q : Option Value → Heap → List Loc → Prop} {C N : Nat}
    (hq : Q none T.heap locs) (h1 : cells ≤ C) (h2 : slots ≤ N) : Goes p e below (T.setTop (mkF m pc Ls [])) (Fin s Q C N) :=
  Goes.out X (v := none) (fun _ => rfl) hlocks (fun fs hr => X.returnOut hx hret hd hr) hq h1 h2
end New
theorem selPriv {s : State} {args : Array Value} {y : MethodName} {n : Nat} (hpriv : s.PrivateAt y) (hinst : (Cond.instanceMethod y).before args s = true) (hi : (Cond.instantiable y.cls n).before args s = true) (hy : y.cls ≠ "java/lang/invoke/MethodHandle" ∧ y.cls ≠ "java/lang/invoke/VarHandle") : (Cond.selects y.cls y y).before args s = true := by
  obtain ⟨c, k, h1, h2, -, h3, -⟩ := Cond.instantiable_spec hi
  exact Jvm.Stand.selects_self_of_private h1 h2 (by cases hk : k.isInterface <;> simp_all) hpriv hinst hy
end Jvm.RoadKit
namespace Jvm.Pilot.@@N@@
open Jvm Jvm.ClassFile Sem Op Lib Jvm.Free Jvm.Stand Jvm.LawKit Jvm.RoadKit Bundle Jvm.OwnN Jvm.Pilot.@@N@@.Jvm.D
theorem wd {Z : State} {a0 : Array Value} (hw : ∀ d ∈ tables_1, d.before a0 Z = true) (i : Nat) {c : Jvm.Cond} (h : tables_1[i]? = some c) : c.before a0 Z = true := hw c (List.mem_of_getElem? h)
theorem d15_0 : decode prog_13_method_10_code 0 = .ok (.iload_n 1, 1) := by decide +kernel
theorem d15_1 : decode prog_13_method_10_code 1 = .ok (.aload_n 0, 1) := by decide +kernel
theorem d15_2 : decode prog_13_method_10_code 2 = .ok (.getfield 9, 3) := by decide +kernel
theorem d15_5 : decode prog_13_method_10_code 5 = .ok (.arraylength, 1) := by decide +kernel
theorem d15_6 : decode prog_13_method_10_code 6 = .ok (.if_icmp .le 28, 3) := by decide +kernel
theorem d15_9 : decode prog_13_method_10_code 9 = .ok (.aload_n 0, 1) := by decide +kernel
theorem d15_10 : decode prog_13_method_10_code 10 = .ok (.aload_n 0, 1) := by decide +kernel
theorem d15_11 : decode prog_13_method_10_code 11 = .ok (.getfield 9, 3) := by decide +kernel
theorem d15_14 : decode prog_13_method_10_code 14 = .ok (.iload_n 1, 1) := by decide +kernel
theorem d15_15 : decode prog_13_method_10_code 15 = .ok (.iconst 2, 1) := by decide +kernel
theorem d15_16 : decode prog_13_method_10_code 16 = .ok (.aload_n 0, 1) := by decide +kernel
theorem d15_17 : decode prog_13_method_10_code 17 = .ok (.getfield 9, 3) := by decide +kernel
theorem d15_20 : decode prog_13_method_10_code 20 = .ok (.arraylength, 1) := by decide +kernel
theorem d15_21 : decode prog_13_method_10_code 21 = .ok (.imul, 1) := by decide +kernel
theorem d15_22 : decode prog_13_method_10_code 22 = .ok (.invokestatic 103, 3) := by decide +kernel
theorem d15_25 : decode prog_13_method_10_code 25 = .ok (.invokestatic 41, 3) := by decide +kernel
theorem d15_28 : decode prog_13_method_10_code 28 = .ok (.checkcast 47, 3) := by decide +kernel
theorem d15_31 : decode prog_13_method_10_code 31 = .ok (.putfield 9, 3) := by decide +kernel
theorem d15_34 : decode prog_13_method_10_code 34 = .ok (.return_, 1) := by decide +kernel
theorem pn_0 : plainName "com/example/ripplematch/ripplematch/core/Agenda" = true := by first | (simp [plainName, overriddenIn]; done) | decide +kernel
theorem d16_0 : decode prog_13_method_14_code 0 = .ok (.aload_n 0, 1) := by decide +kernel
theorem d16_1 : decode prog_13_method_14_code 1 = .ok (.getfield 9, 3) := by decide +kernel
theorem d16_4 : decode prog_13_method_14_code 4 = .ok (.iload_n 1, 1) := by decide +kernel
theorem d16_5 : decode prog_13_method_14_code 5 = .ok (.aload_n 2, 1) := by decide +kernel
theorem d16_6 : decode prog_13_method_14_code 6 = .ok (.aastore, 1) := by decide +kernel
theorem d16_7 : decode prog_13_method_14_code 7 = .ok (.aload_n 2, 1) := by decide +kernel
theorem d16_8 : decode prog_13_method_14_code 8 = .ok (.getfield 26, 3) := by decide +kernel
theorem d16_11 : decode prog_13_method_14_code 11 = .ok (.iconst (-1), 1) := by decide +kernel
theorem d16_12 : decode prog_13_method_14_code 12 = .ok (.if_icmp .eq 8, 3) := by decide +kernel
theorem d16_15 : decode prog_13_method_14_code 15 = .ok (.aload_n 2, 1) := by decide +kernel
theorem d16_16 : decode prog_13_method_14_code 16 = .ok (.iload_n 1, 1) := by decide +kernel
theorem d16_17 : decode prog_13_method_14_code 17 = .ok (.putfield 26, 3) := by decide +kernel
theorem d16_20 : decode prog_13_method_14_code 20 = .ok (.return_, 1) := by decide +kernel
theorem d14_0 : decode prog_13_method_9_code 0 = .ok (.aload_n 0, 1) := by decide +kernel
theorem d14_1 : decode prog_13_method_9_code 1 = .ok (.aload_n 0, 1) := by decide +kernel
theorem d14_2 : decode prog_13_method_9_code 2 = .ok (.getfield 18, 3) := by decide +kernel
theorem d14_5 : decode prog_13_method_9_code 5 = .ok (.invokevirtual 89, 3) := by decide +kernel
theorem d14_8 : decode prog_13_method_9_code 8 = .ok (.iconst 0, 1) := by decide +kernel
theorem d14_9 : decode prog_13_method_9_code 9 = .ok (.istore_n 1, 1) := by decide +kernel
theorem d14_10 : decode prog_13_method_9_code 10 = .ok (.iconst 0, 1) := by decide +kernel
theorem d14_11 : decode prog_13_method_9_code 11 = .ok (.istore_n 2, 1) := by decide +kernel
theorem d14_12 : decode prog_13_method_9_code 12 = .ok (.iload_n 2, 1) := by decide +kernel
theorem d14_13 : decode prog_13_method_9_code 13 = .ok (.aload_n 0, 1) := by decide +kernel
theorem d14_14 : decode prog_13_method_9_code 14 = .ok (.getfield 69, 3) := by decide +kernel
theorem d14_17 : decode prog_13_method_9_code 17 = .ok (.if_icmp .ge 37, 3) := by decide +kernel
theorem d14_20 : decode prog_13_method_9_code 20 = .ok (.aload_n 0, 1) := by decide +kernel
theorem d14_21 : decode prog_13_method_9_code 21 = .ok (.getfield 9, 3) := by decide +kernel
theorem d14_24 : decode prog_13_method_9_code 24 = .ok (.iload_n 2, 1) := by decide +kernel
theorem d14_25 : decode prog_13_method_9_code 25 = .ok (.aaload, 1) := by decide +kernel
theorem d14_26 : decode prog_13_method_9_code 26 = .ok (.getfield 26, 3) := by decide +kernel
theorem d14_29 : decode prog_13_method_9_code 29 = .ok (.iconst (-1), 1) := by decide +kernel
theorem d14_30 : decode prog_13_method_9_code 30 = .ok (.if_icmp .eq 18, 3) := by decide +kernel
theorem d14_33 : decode prog_13_method_9_code 33 = .ok (.aload_n 0, 1) := by decide +kernel
theorem d14_34 : decode prog_13_method_9_code 34 = .ok (.getfield 9, 3) := by decide +kernel
theorem d14_37 : decode prog_13_method_9_code 37 = .ok (.iload_n 1, 1) := by decide +kernel
theorem d14_38 : decode prog_13_method_9_code 38 = .ok (.iinc 1 1, 3) := by decide +kernel
theorem d14_41 : decode prog_13_method_9_code 41 = .ok (.aload_n 0, 1) := by decide +kernel
theorem d14_42 : decode prog_13_method_9_code 42 = .ok (.getfield 9, 3) := by decide +kernel
theorem d14_45 : decode prog_13_method_9_code 45 = .ok (.iload_n 2, 1) := by decide +kernel
theorem d14_46 : decode prog_13_method_9_code 46 = .ok (.aaload, 1) := by decide +kernel
theorem d14_47 : decode prog_13_method_9_code 47 = .ok (.aastore, 1) := by decide +kernel
theorem d14_48 : decode prog_13_method_9_code 48 = .ok (.iinc 2 1, 3) := by decide +kernel
theorem d14_51 : decode prog_13_method_9_code 51 = .ok (.goto (-39), 3) := by decide +kernel
theorem d14_54 : decode prog_13_method_9_code 54 = .ok (.iconst 0, 1) := by decide +kernel
theorem d14_55 : decode prog_13_method_9_code 55 = .ok (.istore_n 2, 1) := by decide +kernel
theorem d14_56 : decode prog_13_method_9_code 56 = .ok (.iload_n 2, 1) := by decide +kernel
theorem d14_57 : decode prog_13_method_9_code 57 = .ok (.aload_n 0, 1) := by decide +kernel
theorem d14_58 : decode prog_13_method_9_code 58 = .ok (.getfield 38, 3) := by decide +kernel
theorem d14_61 : decode prog_13_method_9_code 61 = .ok (.if_icmp .ge 31, 3) := by decide +kernel
theorem d14_64 : decode prog_13_method_9_code 64 = .ok (.aload_n 0, 1) := by decide +kernel
theorem d14_65 : decode prog_13_method_9_code 65 = .ok (.getfield 9, 3) := by decide +kernel
theorem d14_68 : decode prog_13_method_9_code 68 = .ok (.iload_n 1, 1) := by decide +kernel
theorem d14_69 : decode prog_13_method_9_code 69 = .ok (.iinc 1 1, 3) := by decide +kernel
theorem d14_72 : decode prog_13_method_9_code 72 = .ok (.aload_n 0, 1) := by decide +kernel
theorem d14_73 : decode prog_13_method_9_code 73 = .ok (.getfield 15, 3) := by decide +kernel
theorem d14_76 : decode prog_13_method_9_code 76 = .ok (.iload_n 2, 1) := by decide +kernel
theorem d14_77 : decode prog_13_method_9_code 77 = .ok (.aaload, 1) := by decide +kernel
theorem d14_78 : decode prog_13_method_9_code 78 = .ok (.aastore, 1) := by decide +kernel
theorem d14_79 : decode prog_13_method_9_code 79 = .ok (.aload_n 0, 1) := by decide +kernel
theorem d14_80 : decode prog_13_method_9_code 80 = .ok (.getfield 15, 3) := by decide +kernel
theorem d14_83 : decode prog_13_method_9_code 83 = .ok (.iload_n 2, 1) := by decide +kernel
theorem d14_84 : decode prog_13_method_9_code 84 = .ok (.aconst_null, 1) := by decide +kernel
theorem d14_85 : decode prog_13_method_9_code 85 = .ok (.aastore, 1) := by decide +kernel
theorem d14_86 : decode prog_13_method_9_code 86 = .ok (.iinc 2 1, 3) := by decide +kernel
theorem d14_89 : decode prog_13_method_9_code 89 = .ok (.goto (-33), 3) := by decide +kernel
theorem d14_92 : decode prog_13_method_9_code 92 = .ok (.iload_n 1, 1) := by decide +kernel
theorem d14_93 : decode prog_13_method_9_code 93 = .ok (.aload_n 0, 1) := by decide +kernel
theorem d14_94 : decode prog_13_method_9_code 94 = .ok (.getfield 69, 3) := by decide +kernel
theorem d14_97 : decode prog_13_method_9_code 97 = .ok (.if_icmp .ge 16, 3) := by decide +kernel
theorem d14_100 : decode prog_13_method_9_code 100 = .ok (.aload_n 0, 1) := by decide +kernel
theorem d14_101 : decode prog_13_method_9_code 101 = .ok (.getfield 9, 3) := by decide +kernel
theorem d14_104 : decode prog_13_method_9_code 104 = .ok (.iload_n 1, 1) := by decide +kernel
theorem d14_105 : decode prog_13_method_9_code 105 = .ok (.aload_n 0, 1) := by decide +kernel
theorem d14_106 : decode prog_13_method_9_code 106 = .ok (.getfield 69, 3) := by decide +kernel
theorem d14_109 : decode prog_13_method_9_code 109 = .ok (.aconst_null, 1) := by decide +kernel
theorem d14_110 : decode prog_13_method_9_code 110 = .ok (.invokestatic 96, 3) := by decide +kernel
theorem d14_113 : decode prog_13_method_9_code 113 = .ok (.aload_n 0, 1) := by decide +kernel
theorem d14_114 : decode prog_13_method_9_code 114 = .ok (.iload_n 1, 1) := by decide +kernel
theorem d14_115 : decode prog_13_method_9_code 115 = .ok (.putfield 69, 3) := by decide +kernel
theorem d14_118 : decode prog_13_method_9_code 118 = .ok (.aload_n 0, 1) := by decide +kernel
theorem d14_119 : decode prog_13_method_9_code 119 = .ok (.iconst 0, 1) := by decide +kernel
theorem d14_120 : decode prog_13_method_9_code 120 = .ok (.putfield 38, 3) := by decide +kernel
theorem d14_123 : decode prog_13_method_9_code 123 = .ok (.aload_n 0, 1) := by decide +kernel
theorem d14_124 : decode prog_13_method_9_code 124 = .ok (.iconst 0, 1) := by decide +kernel
theorem d14_125 : decode prog_13_method_9_code 125 = .ok (.putfield 56, 3) := by decide +kernel
theorem d14_128 : decode prog_13_method_9_code 128 = .ok (.aload_n 0, 1) := by decide +kernel
theorem d14_129 : decode prog_13_method_9_code 129 = .ok (.iconst 0, 1) := by decide +kernel
theorem d14_130 : decode prog_13_method_9_code 130 = .ok (.putfield 63, 3) := by decide +kernel
theorem d14_133 : decode prog_13_method_9_code 133 = .ok (.aload_n 0, 1) := by decide +kernel
theorem d14_134 : decode prog_13_method_9_code 134 = .ok (.getfield 69, 3) := by decide +kernel
theorem d14_137 : decode prog_13_method_9_code 137 = .ok (.iconst 1, 1) := by decide +kernel
theorem d14_138 : decode prog_13_method_9_code 138 = .ok (.isub, 1) := by decide +kernel
theorem d14_139 : decode prog_13_method_9_code 139 = .ok (.istore_n 2, 1) := by decide +kernel
theorem d14_140 : decode prog_13_method_9_code 140 = .ok (.iload_n 2, 1) := by decide +kernel
theorem d14_141 : decode prog_13_method_9_code 141 = .ok (.ifCond .lt 20, 3) := by decide +kernel
theorem d14_144 : decode prog_13_method_9_code 144 = .ok (.aload_n 0, 1) := by decide +kernel
theorem d14_145 : decode prog_13_method_9_code 145 = .ok (.iload_n 2, 1) := by decide +kernel
theorem d14_146 : decode prog_13_method_9_code 146 = .ok (.aload_n 0, 1) := by decide +kernel
theorem d14_147 : decode prog_13_method_9_code 147 = .ok (.getfield 9, 3) := by decide +kernel
theorem d14_150 : decode prog_13_method_9_code 150 = .ok (.iload_n 2, 1) := by decide +kernel
theorem d14_151 : decode prog_13_method_9_code 151 = .ok (.aaload, 1) := by decide +kernel
theorem d14_152 : decode prog_13_method_9_code 152 = .ok (.invokevirtual 100, 3) := by decide +kernel
theorem d14_155 : decode prog_13_method_9_code 155 = .ok (.iinc 2 (-1), 3) := by decide +kernel
theorem d14_158 : decode prog_13_method_9_code 158 = .ok (.goto (-18), 3) := by decide +kernel
theorem d14_161 : decode prog_13_method_9_code 161 = .ok (.aload_n 0, 1) := by decide +kernel
theorem d14_162 : decode prog_13_method_9_code 162 = .ok (.getfield 69, 3) := by decide +kernel
theorem d14_165 : decode prog_13_method_9_code 165 = .ok (.iconst 2, 1) := by decide +kernel
theorem d14_166 : decode prog_13_method_9_code 166 = .ok (.idiv, 1) := by decide +kernel
theorem d14_167 : decode prog_13_method_9_code 167 = .ok (.iconst 1, 1) := by decide +kernel
theorem d14_168 : decode prog_13_method_9_code 168 = .ok (.isub, 1) := by decide +kernel
theorem d14_169 : decode prog_13_method_9_code 169 = .ok (.istore_n 2, 1) := by decide +kernel
theorem d14_170 : decode prog_13_method_9_code 170 = .ok (.iload_n 2, 1) := by decide +kernel
theorem d14_171 : decode prog_13_method_9_code 171 = .ok (.ifCond .lt 20, 3) := by decide +kernel
theorem d14_174 : decode prog_13_method_9_code 174 = .ok (.aload_n 0, 1) := by decide +kernel
theorem d14_175 : decode prog_13_method_9_code 175 = .ok (.iload_n 2, 1) := by decide +kernel
theorem d14_176 : decode prog_13_method_9_code 176 = .ok (.aload_n 0, 1) := by decide +kernel
theorem d14_177 : decode prog_13_method_9_code 177 = .ok (.getfield 9, 3) := by decide +kernel
theorem d14_180 : decode prog_13_method_9_code 180 = .ok (.iload_n 2, 1) := by decide +kernel
theorem d14_181 : decode prog_13_method_9_code 181 = .ok (.aaload, 1) := by decide +kernel
theorem d14_182 : decode prog_13_method_9_code 182 = .ok (.invokevirtual 72, 3) := by decide +kernel
theorem d14_185 : decode prog_13_method_9_code 185 = .ok (.iinc 2 (-1), 3) := by decide +kernel
theorem d14_188 : decode prog_13_method_9_code 188 = .ok (.goto (-18), 3) := by decide +kernel
theorem d14_191 : decode prog_13_method_9_code 191 = .ok (.return_, 1) := by decide +kernel
theorem pd_1 : parseMethodDescriptor "(I)V" = some ⟨[.int], none⟩ := by decide +kernel
theorem pd_2 : parseMethodDescriptor "(ILcom/example/ripplematch/ripplematch/core/Activation;)V" = some ⟨[.int, (.object "com/example/ripplematch/ripplematch/core/Activation")], none⟩ := by decide +kernel
theorem d13_0 : decode prog_13_method_8_code 0 = .ok (.aload_n 0, 1) := by decide +kernel
theorem d13_1 : decode prog_13_method_8_code 1 = .ok (.getfield 63, 3) := by decide +kernel
theorem d13_4 : decode prog_13_method_8_code 4 = .ok (.ifCond .ne 30, 3) := by decide +kernel
theorem d13_7 : decode prog_13_method_8_code 7 = .ok (.iconst 2, 1) := by decide +kernel
theorem d13_8 : decode prog_13_method_8_code 8 = .ok (.aload_n 0, 1) := by decide +kernel
theorem d13_9 : decode prog_13_method_8_code 9 = .ok (.getfield 56, 3) := by decide +kernel
theorem d13_12 : decode prog_13_method_8_code 12 = .ok (.imul, 1) := by decide +kernel
theorem d13_13 : decode prog_13_method_8_code 13 = .ok (.aload_n 0, 1) := by decide +kernel
theorem d13_14 : decode prog_13_method_8_code 14 = .ok (.getfield 69, 3) := by decide +kernel
theorem d13_17 : decode prog_13_method_8_code 17 = .ok (.if_icmp .gt 17, 3) := by decide +kernel
theorem d13_20 : decode prog_13_method_8_code 20 = .ok (.bipush 8, 2) := by decide +kernel
theorem d13_22 : decode prog_13_method_8_code 22 = .ok (.aload_n 0, 1) := by decide +kernel
theorem d13_23 : decode prog_13_method_8_code 23 = .ok (.getfield 38, 3) := by decide +kernel
theorem d13_26 : decode prog_13_method_8_code 26 = .ok (.imul, 1) := by decide +kernel
theorem d13_27 : decode prog_13_method_8_code 27 = .ok (.aload_n 0, 1) := by decide +kernel
theorem d13_28 : decode prog_13_method_8_code 28 = .ok (.getfield 69, 3) := by decide +kernel
theorem d13_31 : decode prog_13_method_8_code 31 = .ok (.if_icmp .le 8, 3) := by decide +kernel
theorem d13_34 : decode prog_13_method_8_code 34 = .ok (.aload_n 0, 1) := by decide +kernel
theorem d13_35 : decode prog_13_method_8_code 35 = .ok (.invokevirtual 86, 3) := by decide +kernel
theorem d13_38 : decode prog_13_method_8_code 38 = .ok (.return_, 1) := by decide +kernel
theorem d13_39 : decode prog_13_method_8_code 39 = .ok (.iconst 0, 1) := by decide +kernel
theorem d13_40 : decode prog_13_method_8_code 40 = .ok (.istore_n 1, 1) := by decide +kernel
theorem d13_41 : decode prog_13_method_8_code 41 = .ok (.iload_n 1, 1) := by decide +kernel
theorem d13_42 : decode prog_13_method_8_code 42 = .ok (.aload_n 0, 1) := by decide +kernel
theorem d13_43 : decode prog_13_method_8_code 43 = .ok (.getfield 38, 3) := by decide +kernel
theorem d13_46 : decode prog_13_method_8_code 46 = .ok (.if_icmp .ge 47, 3) := by decide +kernel
theorem d13_49 : decode prog_13_method_8_code 49 = .ok (.aload_n 0, 1) := by decide +kernel
theorem d13_50 : decode prog_13_method_8_code 50 = .ok (.aload_n 0, 1) := by decide +kernel
theorem d13_51 : decode prog_13_method_8_code 51 = .ok (.getfield 69, 3) := by decide +kernel
theorem d13_54 : decode prog_13_method_8_code 54 = .ok (.iconst 1, 1) := by decide +kernel
theorem d13_55 : decode prog_13_method_8_code 55 = .ok (.iadd, 1) := by decide +kernel
theorem d13_56 : decode prog_13_method_8_code 56 = .ok (.invokevirtual 89, 3) := by decide +kernel
theorem d13_59 : decode prog_13_method_8_code 59 = .ok (.aload_n 0, 1) := by decide +kernel
theorem d13_60 : decode prog_13_method_8_code 60 = .ok (.aload_n 0, 1) := by decide +kernel
theorem d13_61 : decode prog_13_method_8_code 61 = .ok (.dup, 1) := by decide +kernel
theorem d13_62 : decode prog_13_method_8_code 62 = .ok (.getfield 69, 3) := by decide +kernel
theorem d13_65 : decode prog_13_method_8_code 65 = .ok (.dup_x1, 1) := by decide +kernel
theorem d13_66 : decode prog_13_method_8_code 66 = .ok (.iconst 1, 1) := by decide +kernel
theorem d13_67 : decode prog_13_method_8_code 67 = .ok (.iadd, 1) := by decide +kernel
theorem d13_68 : decode prog_13_method_8_code 68 = .ok (.putfield 69, 3) := by decide +kernel
theorem d13_71 : decode prog_13_method_8_code 71 = .ok (.aload_n 0, 1) := by decide +kernel
theorem d13_72 : decode prog_13_method_8_code 72 = .ok (.getfield 15, 3) := by decide +kernel
theorem d13_75 : decode prog_13_method_8_code 75 = .ok (.iload_n 1, 1) := by decide +kernel
theorem d13_76 : decode prog_13_method_8_code 76 = .ok (.aaload, 1) := by decide +kernel
theorem d13_77 : decode prog_13_method_8_code 77 = .ok (.invokevirtual 93, 3) := by decide +kernel
theorem d13_80 : decode prog_13_method_8_code 80 = .ok (.aload_n 0, 1) := by decide +kernel
theorem d13_81 : decode prog_13_method_8_code 81 = .ok (.getfield 15, 3) := by decide +kernel
theorem d13_84 : decode prog_13_method_8_code 84 = .ok (.iload_n 1, 1) := by decide +kernel
theorem d13_85 : decode prog_13_method_8_code 85 = .ok (.aconst_null, 1) := by decide +kernel
theorem d13_86 : decode prog_13_method_8_code 86 = .ok (.aastore, 1) := by decide +kernel
theorem d13_87 : decode prog_13_method_8_code 87 = .ok (.iinc 1 1, 3) := by decide +kernel
theorem d13_90 : decode prog_13_method_8_code 90 = .ok (.goto (-49), 3) := by decide +kernel
theorem d13_93 : decode prog_13_method_8_code 93 = .ok (.aload_n 0, 1) := by decide +kernel
theorem d13_94 : decode prog_13_method_8_code 94 = .ok (.iconst 0, 1) := by decide +kernel
theorem d13_95 : decode prog_13_method_8_code 95 = .ok (.putfield 38, 3) := by decide +kernel
theorem d13_98 : decode prog_13_method_8_code 98 = .ok (.return_, 1) := by decide +kernel
theorem pd_3 : parseMethodDescriptor "()V" = some ⟨[], none⟩ := by decide +kernel
theorem d12_0 : decode prog_13_method_7_code 0 = .ok (.aload_n 0, 1) := by decide +kernel
theorem d12_1 : decode prog_13_method_7_code 1 = .ok (.invokevirtual 66, 3) := by decide +kernel
theorem d12_4 : decode prog_13_method_7_code 4 = .ok (.aload_n 0, 1) := by decide +kernel
theorem d12_5 : decode prog_13_method_7_code 5 = .ok (.getfield 9, 3) := by decide +kernel
theorem d12_8 : decode prog_13_method_7_code 8 = .ok (.iconst 0, 1) := by decide +kernel
theorem d12_9 : decode prog_13_method_7_code 9 = .ok (.aaload, 1) := by decide +kernel
theorem d12_10 : decode prog_13_method_7_code 10 = .ok (.astore_n 1, 1) := by decide +kernel
theorem d12_11 : decode prog_13_method_7_code 11 = .ok (.aload_n 0, 1) := by decide +kernel
theorem d12_12 : decode prog_13_method_7_code 12 = .ok (.getfield 9, 3) := by decide +kernel
theorem d12_15 : decode prog_13_method_7_code 15 = .ok (.aload_n 0, 1) := by decide +kernel
theorem d12_16 : decode prog_13_method_7_code 16 = .ok (.dup, 1) := by decide +kernel
theorem d12_17 : decode prog_13_method_7_code 17 = .ok (.getfield 69, 3) := by decide +kernel
theorem d12_20 : decode prog_13_method_7_code 20 = .ok (.iconst 1, 1) := by decide +kernel
theorem d12_21 : decode prog_13_method_7_code 21 = .ok (.isub, 1) := by decide +kernel
theorem d12_22 : decode prog_13_method_7_code 22 = .ok (.dup_x1, 1) := by decide +kernel
theorem d12_23 : decode prog_13_method_7_code 23 = .ok (.putfield 69, 3) := by decide +kernel
theorem d12_26 : decode prog_13_method_7_code 26 = .ok (.aaload, 1) := by decide +kernel
theorem d12_27 : decode prog_13_method_7_code 27 = .ok (.astore_n 2, 1) := by decide +kernel
theorem d12_28 : decode prog_13_method_7_code 28 = .ok (.aload_n 0, 1) := by decide +kernel
theorem d12_29 : decode prog_13_method_7_code 29 = .ok (.getfield 9, 3) := by decide +kernel
theorem d12_32 : decode prog_13_method_7_code 32 = .ok (.aload_n 0, 1) := by decide +kernel
theorem d12_33 : decode prog_13_method_7_code 33 = .ok (.getfield 69, 3) := by decide +kernel
theorem d12_36 : decode prog_13_method_7_code 36 = .ok (.aconst_null, 1) := by decide +kernel
theorem d12_37 : decode prog_13_method_7_code 37 = .ok (.aastore, 1) := by decide +kernel
theorem d12_38 : decode prog_13_method_7_code 38 = .ok (.aload_n 0, 1) := by decide +kernel
theorem d12_39 : decode prog_13_method_7_code 39 = .ok (.getfield 69, 3) := by decide +kernel
theorem d12_42 : decode prog_13_method_7_code 42 = .ok (.ifCond .le 9, 3) := by decide +kernel
theorem d12_45 : decode prog_13_method_7_code 45 = .ok (.aload_n 0, 1) := by decide +kernel
theorem d12_46 : decode prog_13_method_7_code 46 = .ok (.iconst 0, 1) := by decide +kernel
theorem d12_47 : decode prog_13_method_7_code 47 = .ok (.aload_n 2, 1) := by decide +kernel
theorem d12_48 : decode prog_13_method_7_code 48 = .ok (.invokevirtual 72, 3) := by decide +kernel
theorem d12_51 : decode prog_13_method_7_code 51 = .ok (.aload_n 1, 1) := by decide +kernel
theorem d12_52 : decode prog_13_method_7_code 52 = .ok (.getfield 26, 3) := by decide +kernel
theorem d12_55 : decode prog_13_method_7_code 55 = .ok (.iconst (-1), 1) := by decide +kernel
theorem d12_56 : decode prog_13_method_7_code 56 = .ok (.if_icmp .ne 16, 3) := by decide +kernel
theorem d12_59 : decode prog_13_method_7_code 59 = .ok (.aload_n 0, 1) := by decide +kernel
theorem d12_60 : decode prog_13_method_7_code 60 = .ok (.dup, 1) := by decide +kernel
theorem d12_61 : decode prog_13_method_7_code 61 = .ok (.getfield 56, 3) := by decide +kernel
theorem d12_64 : decode prog_13_method_7_code 64 = .ok (.iconst 1, 1) := by decide +kernel
theorem d12_65 : decode prog_13_method_7_code 65 = .ok (.isub, 1) := by decide +kernel
theorem d12_66 : decode prog_13_method_7_code 66 = .ok (.putfield 56, 3) := by decide +kernel
theorem d12_69 : decode prog_13_method_7_code 69 = .ok (.goto (-65), 3) := by decide +kernel
theorem d12_72 : decode prog_13_method_7_code 72 = .ok (.getstatic 22, 3) := by decide +kernel
theorem d12_75 : decode prog_13_method_7_code 75 = .ok (.ifCond .ne 53, 3) := by decide +kernel
theorem d12_78 : decode prog_13_method_7_code 78 = .ok (.aload_n 0, 1) := by decide +kernel
theorem d12_79 : decode prog_13_method_7_code 79 = .ok (.getfield 69, 3) := by decide +kernel
theorem d12_82 : decode prog_13_method_7_code 82 = .ok (.ifCond .eq 46, 3) := by decide +kernel
theorem d12_85 : decode prog_13_method_7_code 85 = .ok (.aload_n 0, 1) := by decide +kernel
theorem d12_86 : decode prog_13_method_7_code 86 = .ok (.getfield 9, 3) := by decide +kernel
theorem d12_89 : decode prog_13_method_7_code 89 = .ok (.iconst 0, 1) := by decide +kernel
theorem d12_90 : decode prog_13_method_7_code 90 = .ok (.aaload, 1) := by decide +kernel
theorem d12_91 : decode prog_13_method_7_code 91 = .ok (.getfield 26, 3) := by decide +kernel
theorem d12_94 : decode prog_13_method_7_code 94 = .ok (.iconst (-1), 1) := by decide +kernel
theorem d12_95 : decode prog_13_method_7_code 95 = .ok (.if_icmp .eq 33, 3) := by decide +kernel
theorem d12_98 : decode prog_13_method_7_code 98 = .ok (.getstatic 76, 3) := by decide +kernel
theorem d12_101 : decode prog_13_method_7_code 101 = .ok (.aload_n 1, 1) := by decide +kernel
theorem d12_102 : decode prog_13_method_7_code 102 = .ok (.aload_n 0, 1) := by decide +kernel
theorem d12_103 : decode prog_13_method_7_code 103 = .ok (.getfield 9, 3) := by decide +kernel
theorem d12_106 : decode prog_13_method_7_code 106 = .ok (.iconst 0, 1) := by decide +kernel
theorem d12_107 : decode prog_13_method_7_code 107 = .ok (.aaload, 1) := by decide +kernel
theorem d12_108 : decode prog_13_method_7_code 108 = .ok (.invokeinterface 80 3, 5) := by decide +kernel
theorem d12_113 : decode prog_13_method_7_code 113 = .ok (.ifCond .ne 15, 3) := by decide +kernel
theorem d12_116 : decode prog_13_method_7_code 116 = .ok (.new 29, 3) := by decide +kernel
theorem d12_119 : decode prog_13_method_7_code 119 = .ok (.dup, 1) := by decide +kernel
theorem d12_120 : decode prog_13_method_7_code 120 = .ok (.aload_n 1, 1) := by decide +kernel
theorem d12_121 : decode prog_13_method_7_code 121 = .ok (.invokestatic 31, 3) := by decide +kernel
theorem d12_124 : decode prog_13_method_7_code 124 = .ok (.invokespecial 35, 3) := by decide +kernel
theorem d12_127 : decode prog_13_method_7_code 127 = .ok (.athrow, 1) := by decide +kernel
theorem d12_128 : decode prog_13_method_7_code 128 = .ok (.aload_n 1, 1) := by decide +kernel
theorem d12_129 : decode prog_13_method_7_code 129 = .ok (.iconst (-1), 1) := by decide +kernel
theorem d12_130 : decode prog_13_method_7_code 130 = .ok (.putfield 26, 3) := by decide +kernel
theorem d12_133 : decode prog_13_method_7_code 133 = .ok (.aload_n 0, 1) := by decide +kernel
theorem d12_134 : decode prog_13_method_7_code 134 = .ok (.dup, 1) := by decide +kernel
theorem d12_135 : decode prog_13_method_7_code 135 = .ok (.getfield 18, 3) := by decide +kernel
theorem d12_138 : decode prog_13_method_7_code 138 = .ok (.iconst 1, 1) := by decide +kernel
theorem d12_139 : decode prog_13_method_7_code 139 = .ok (.isub, 1) := by decide +kernel
theorem d12_140 : decode prog_13_method_7_code 140 = .ok (.putfield 18, 3) := by decide +kernel
theorem d12_143 : decode prog_13_method_7_code 143 = .ok (.aload_n 1, 1) := by decide +kernel
theorem d12_144 : decode prog_13_method_7_code 144 = .ok (.areturn, 1) := by decide +kernel
theorem d10_0 : decode prog_13_method_4_code 0 = .ok (.getstatic 22, 3) := by decide +kernel
theorem d10_3 : decode prog_13_method_4_code 3 = .ok (.ifCond .ne 23, 3) := by decide +kernel
theorem d10_6 : decode prog_13_method_4_code 6 = .ok (.aload_n 1, 1) := by decide +kernel
theorem d10_7 : decode prog_13_method_4_code 7 = .ok (.getfield 26, 3) := by decide +kernel
theorem d10_10 : decode prog_13_method_4_code 10 = .ok (.iconst (-1), 1) := by decide +kernel
theorem d10_11 : decode prog_13_method_4_code 11 = .ok (.if_icmp .eq 15, 3) := by decide +kernel
theorem d10_14 : decode prog_13_method_4_code 14 = .ok (.new 29, 3) := by decide +kernel
theorem d10_17 : decode prog_13_method_4_code 17 = .ok (.dup, 1) := by decide +kernel
theorem d10_18 : decode prog_13_method_4_code 18 = .ok (.aload_n 1, 1) := by decide +kernel
theorem d10_19 : decode prog_13_method_4_code 19 = .ok (.invokestatic 31, 3) := by decide +kernel
theorem d10_22 : decode prog_13_method_4_code 22 = .ok (.invokespecial 35, 3) := by decide +kernel
theorem d10_25 : decode prog_13_method_4_code 25 = .ok (.athrow, 1) := by decide +kernel
theorem d10_26 : decode prog_13_method_4_code 26 = .ok (.aload_n 0, 1) := by decide +kernel
theorem d10_27 : decode prog_13_method_4_code 27 = .ok (.getfield 38, 3) := by decide +kernel
theorem d10_30 : decode prog_13_method_4_code 30 = .ok (.aload_n 0, 1) := by decide +kernel
theorem d10_31 : decode prog_13_method_4_code 31 = .ok (.getfield 15, 3) := by decide +kernel
theorem d10_34 : decode prog_13_method_4_code 34 = .ok (.arraylength, 1) := by decide +kernel
theorem d10_35 : decode prog_13_method_4_code 35 = .ok (.if_icmp .ne 23, 3) := by decide +kernel
theorem d10_38 : decode prog_13_method_4_code 38 = .ok (.aload_n 0, 1) := by decide +kernel
theorem d10_39 : decode prog_13_method_4_code 39 = .ok (.aload_n 0, 1) := by decide +kernel
theorem d10_40 : decode prog_13_method_4_code 40 = .ok (.getfield 15, 3) := by decide +kernel
theorem d10_43 : decode prog_13_method_4_code 43 = .ok (.iconst 2, 1) := by decide +kernel
theorem d10_44 : decode prog_13_method_4_code 44 = .ok (.aload_n 0, 1) := by decide +kernel
theorem d10_45 : decode prog_13_method_4_code 45 = .ok (.getfield 38, 3) := by decide +kernel
theorem d10_48 : decode prog_13_method_4_code 48 = .ok (.imul, 1) := by decide +kernel
theorem d10_49 : decode prog_13_method_4_code 49 = .ok (.invokestatic 41, 3) := by decide +kernel
theorem d10_52 : decode prog_13_method_4_code 52 = .ok (.checkcast 47, 3) := by decide +kernel
theorem d10_55 : decode prog_13_method_4_code 55 = .ok (.putfield 15, 3) := by decide +kernel
theorem d10_58 : decode prog_13_method_4_code 58 = .ok (.aload_n 0, 1) := by decide +kernel
theorem d10_59 : decode prog_13_method_4_code 59 = .ok (.getfield 15, 3) := by decide +kernel
theorem d10_62 : decode prog_13_method_4_code 62 = .ok (.aload_n 0, 1) := by decide +kernel
theorem d10_63 : decode prog_13_method_4_code 63 = .ok (.getfield 38, 3) := by decide +kernel
theorem d10_66 : decode prog_13_method_4_code 66 = .ok (.aload_n 1, 1) := by decide +kernel
theorem d10_67 : decode prog_13_method_4_code 67 = .ok (.aastore, 1) := by decide +kernel
theorem d10_68 : decode prog_13_method_4_code 68 = .ok (.aload_n 1, 1) := by decide +kernel
theorem d10_69 : decode prog_13_method_4_code 69 = .ok (.bipush (-2), 2) := by decide +kernel
theorem d10_71 : decode prog_13_method_4_code 71 = .ok (.aload_n 0, 1) := by decide +kernel
theorem d10_72 : decode prog_13_method_4_code 72 = .ok (.getfield 38, 3) := by decide +kernel
theorem d10_75 : decode prog_13_method_4_code 75 = .ok (.isub, 1) := by decide +kernel
theorem d10_76 : decode prog_13_method_4_code 76 = .ok (.putfield 26, 3) := by decide +kernel
theorem d10_79 : decode prog_13_method_4_code 79 = .ok (.aload_n 0, 1) := by decide +kernel
theorem d10_80 : decode prog_13_method_4_code 80 = .ok (.dup, 1) := by decide +kernel
theorem d10_81 : decode prog_13_method_4_code 81 = .ok (.getfield 38, 3) := by decide +kernel
theorem d10_84 : decode prog_13_method_4_code 84 = .ok (.iconst 1, 1) := by decide +kernel
theorem d10_85 : decode prog_13_method_4_code 85 = .ok (.iadd, 1) := by decide +kernel
theorem d10_86 : decode prog_13_method_4_code 86 = .ok (.putfield 38, 3) := by decide +kernel
theorem d10_89 : decode prog_13_method_4_code 89 = .ok (.aload_n 0, 1) := by decide +kernel
theorem d10_90 : decode prog_13_method_4_code 90 = .ok (.dup, 1) := by decide +kernel
theorem d10_91 : decode prog_13_method_4_code 91 = .ok (.getfield 18, 3) := by decide +kernel
theorem d10_94 : decode prog_13_method_4_code 94 = .ok (.iconst 1, 1) := by decide +kernel
theorem d10_95 : decode prog_13_method_4_code 95 = .ok (.iadd, 1) := by decide +kernel
theorem d10_96 : decode prog_13_method_4_code 96 = .ok (.putfield 18, 3) := by decide +kernel
theorem d10_99 : decode prog_13_method_4_code 99 = .ok (.return_, 1) := by decide +kernel
theorem d11_0 : decode prog_13_method_5_code 0 = .ok (.aload_n 1, 1) := by decide +kernel
theorem d11_1 : decode prog_13_method_5_code 1 = .ok (.getfield 26, 3) := by decide +kernel
theorem d11_4 : decode prog_13_method_5_code 4 = .ok (.istore_n 2, 1) := by decide +kernel
theorem d11_5 : decode prog_13_method_5_code 5 = .ok (.getstatic 22, 3) := by decide +kernel
theorem d11_8 : decode prog_13_method_5_code 8 = .ok (.ifCond .ne 25, 3) := by decide +kernel
theorem d11_11 : decode prog_13_method_5_code 11 = .ok (.iload_n 2, 1) := by decide +kernel
theorem d11_12 : decode prog_13_method_5_code 12 = .ok (.iconst (-1), 1) := by decide +kernel
theorem d11_13 : decode prog_13_method_5_code 13 = .ok (.if_icmp .ne 20, 3) := by decide +kernel
theorem d11_16 : decode prog_13_method_5_code 16 = .ok (.new 29, 3) := by decide +kernel
theorem d11_19 : decode prog_13_method_5_code 19 = .ok (.dup, 1) := by decide +kernel
theorem d11_20 : decode prog_13_method_5_code 20 = .ok (.aload_n 1, 1) := by decide +kernel
theorem d11_21 : decode prog_13_method_5_code 21 = .ok (.invokevirtual 48, 3) := by decide +kernel
theorem d11_29 : decode prog_13_method_5_code 29 = .ok (.invokespecial 35, 3) := by decide +kernel
theorem d11_32 : decode prog_13_method_5_code 32 = .ok (.athrow, 1) := by decide +kernel
theorem d11_33 : decode prog_13_method_5_code 33 = .ok (.iload_n 2, 1) := by decide +kernel
theorem d11_34 : decode prog_13_method_5_code 34 = .ok (.ifCond .lt 16, 3) := by decide +kernel
theorem d11_37 : decode prog_13_method_5_code 37 = .ok (.aload_n 0, 1) := by decide +kernel
theorem d11_38 : decode prog_13_method_5_code 38 = .ok (.dup, 1) := by decide +kernel
theorem d11_39 : decode prog_13_method_5_code 39 = .ok (.getfield 56, 3) := by decide +kernel
theorem d11_42 : decode prog_13_method_5_code 42 = .ok (.iconst 1, 1) := by decide +kernel
theorem d11_43 : decode prog_13_method_5_code 43 = .ok (.iadd, 1) := by decide +kernel
theorem d11_44 : decode prog_13_method_5_code 44 = .ok (.putfield 56, 3) := by decide +kernel
theorem d11_47 : decode prog_13_method_5_code 47 = .ok (.goto 53, 3) := by decide +kernel
theorem d11_50 : decode prog_13_method_5_code 50 = .ok (.bipush (-2), 2) := by decide +kernel
theorem d11_52 : decode prog_13_method_5_code 52 = .ok (.iload_n 2, 1) := by decide +kernel
theorem d11_53 : decode prog_13_method_5_code 53 = .ok (.isub, 1) := by decide +kernel
theorem d11_54 : decode prog_13_method_5_code 54 = .ok (.istore_n 3, 1) := by decide +kernel
theorem d11_55 : decode prog_13_method_5_code 55 = .ok (.aload_n 0, 1) := by decide +kernel
theorem d11_56 : decode prog_13_method_5_code 56 = .ok (.getfield 15, 3) := by decide +kernel
theorem d11_59 : decode prog_13_method_5_code 59 = .ok (.aload_n 0, 1) := by decide +kernel
theorem d11_60 : decode prog_13_method_5_code 60 = .ok (.dup, 1) := by decide +kernel
theorem d11_61 : decode prog_13_method_5_code 61 = .ok (.getfield 38, 3) := by decide +kernel
theorem d11_64 : decode prog_13_method_5_code 64 = .ok (.iconst 1, 1) := by decide +kernel
theorem d11_65 : decode prog_13_method_5_code 65 = .ok (.isub, 1) := by decide +kernel
theorem d11_66 : decode prog_13_method_5_code 66 = .ok (.dup_x1, 1) := by decide +kernel
theorem d11_67 : decode prog_13_method_5_code 67 = .ok (.putfield 38, 3) := by decide +kernel
theorem d11_70 : decode prog_13_method_5_code 70 = .ok (.aaload, 1) := by decide +kernel
theorem d11_71 : decode prog_13_method_5_code 71 = .ok (.astore 4, 2) := by decide +kernel
theorem d11_73 : decode prog_13_method_5_code 73 = .ok (.aload_n 0, 1) := by decide +kernel
theorem d11_74 : decode prog_13_method_5_code 74 = .ok (.getfield 15, 3) := by decide +kernel
theorem d11_77 : decode prog_13_method_5_code 77 = .ok (.iload_n 3, 1) := by decide +kernel
theorem d11_78 : decode prog_13_method_5_code 78 = .ok (.aload 4, 2) := by decide +kernel
theorem d11_80 : decode prog_13_method_5_code 80 = .ok (.aastore, 1) := by decide +kernel
theorem d11_81 : decode prog_13_method_5_code 81 = .ok (.aload 4, 2) := by decide +kernel
theorem d11_83 : decode prog_13_method_5_code 83 = .ok (.bipush (-2), 2) := by decide +kernel
theorem d11_85 : decode prog_13_method_5_code 85 = .ok (.iload_n 3, 1) := by decide +kernel
theorem d11_86 : decode prog_13_method_5_code 86 = .ok (.isub, 1) := by decide +kernel
theorem d11_87 : decode prog_13_method_5_code 87 = .ok (.putfield 26, 3) := by decide +kernel
theorem d11_90 : decode prog_13_method_5_code 90 = .ok (.aload_n 0, 1) := by decide +kernel
theorem d11_91 : decode prog_13_method_5_code 91 = .ok (.getfield 15, 3) := by decide +kernel
theorem d11_94 : decode prog_13_method_5_code 94 = .ok (.aload_n 0, 1) := by decide +kernel
theorem d11_95 : decode prog_13_method_5_code 95 = .ok (.getfield 38, 3) := by decide +kernel
theorem d11_98 : decode prog_13_method_5_code 98 = .ok (.aconst_null, 1) := by decide +kernel
theorem d11_99 : decode prog_13_method_5_code 99 = .ok (.aastore, 1) := by decide +kernel
theorem d11_100 : decode prog_13_method_5_code 100 = .ok (.aload_n 1, 1) := by decide +kernel
theorem d11_101 : decode prog_13_method_5_code 101 = .ok (.iconst (-1), 1) := by decide +kernel
theorem d11_102 : decode prog_13_method_5_code 102 = .ok (.putfield 26, 3) := by decide +kernel
theorem d11_105 : decode prog_13_method_5_code 105 = .ok (.aload_n 0, 1) := by decide +kernel
theorem d11_106 : decode prog_13_method_5_code 106 = .ok (.dup, 1) := by decide +kernel
theorem d11_107 : decode prog_13_method_5_code 107 = .ok (.getfield 18, 3) := by decide +kernel
theorem d11_110 : decode prog_13_method_5_code 110 = .ok (.iconst 1, 1) := by decide +kernel
theorem d11_111 : decode prog_13_method_5_code 111 = .ok (.isub, 1) := by decide +kernel
theorem d11_112 : decode prog_13_method_5_code 112 = .ok (.putfield 18, 3) := by decide +kernel
theorem d11_115 : decode prog_13_method_5_code 115 = .ok (.return_, 1) := by decide +kernel
theorem d8_0 : decode prog_13_method_3_code 0 = .ok (.aload_n 0, 1) := by decide +kernel
theorem d8_1 : decode prog_13_method_3_code 1 = .ok (.getfield 18, 3) := by decide +kernel
theorem d8_4 : decode prog_13_method_3_code 4 = .ok (.ifCond .ne 7, 3) := by decide +kernel
theorem d8_7 : decode prog_13_method_3_code 7 = .ok (.iconst 1, 1) := by decide +kernel
theorem d8_8 : decode prog_13_method_3_code 8 = .ok (.goto 4, 3) := by decide +kernel
theorem d8_11 : decode prog_13_method_3_code 11 = .ok (.iconst 0, 1) := by decide +kernel
theorem d8_12 : decode prog_13_method_3_code 12 = .ok (.ireturn, 1) := by decide +kernel
theorem d9_0 : decode method_3_code 0 = .ok (.iload 4, 2) := by decide +kernel
theorem d9_2 : decode method_3_code 2 = .ok (.iconst 1, 1) := by decide +kernel
theorem d9_3 : decode method_3_code 3 = .ok (.iand, 1) := by decide +kernel
theorem d9_4 : decode method_3_code 4 = .ok (.istore 5, 2) := by decide +kernel
theorem d9_6 : decode method_3_code 6 = .ok (.iload 4, 2) := by decide +kernel
theorem d9_8 : decode method_3_code 8 = .ok (.iconst 2, 1) := by decide +kernel
theorem d9_9 : decode method_3_code 9 = .ok (.iand, 1) := by decide +kernel
theorem d9_10 : decode method_3_code 10 = .ok (.ifCond .eq 72, 3) := by decide +kernel
theorem d9_13 : decode method_3_code 13 = .ok (.aload_n 3, 1) := by decide +kernel
theorem d9_14 : decode method_3_code 14 = .ok (.iconst 0, 1) := by decide +kernel
theorem d9_15 : decode method_3_code 15 = .ok (.iaload, 1) := by decide +kernel
theorem d9_16 : decode method_3_code 16 = .ok (.iconst 1, 1) := by decide +kernel
theorem d9_17 : decode method_3_code 17 = .ok (.if_icmp .ne 65, 3) := by decide +kernel
theorem d9_20 : decode method_3_code 20 = .ok (.aload_n 2, 1) := by decide +kernel
theorem d9_21 : decode method_3_code 21 = .ok (.iconst 0, 1) := by decide +kernel
theorem d9_22 : decode method_3_code 22 = .ok (.baload, 1) := by decide +kernel
theorem d9_23 : decode method_3_code 23 = .ok (.ifCond .eq 7, 3) := by decide +kernel
theorem d9_26 : decode method_3_code 26 = .ok (.iconst 0, 1) := by decide +kernel
theorem d9_27 : decode method_3_code 27 = .ok (.goto 4, 3) := by decide +kernel
theorem d9_30 : decode method_3_code 30 = .ok (.iconst 1, 1) := by decide +kernel
theorem d9_31 : decode method_3_code 31 = .ok (.istore 6, 2) := by decide +kernel
theorem d9_33 : decode method_3_code 33 = .ok (.aload_n 0, 1) := by decide +kernel
theorem d9_34 : decode method_3_code 34 = .ok (.invokevirtual 31, 3) := by decide +kernel
theorem d9_37 : decode method_3_code 37 = .ok (.astore 7, 2) := by decide +kernel
theorem d9_39 : decode method_3_code 39 = .ok (.aload 7, 2) := by decide +kernel
theorem d9_41 : decode method_3_code 41 = .ok (.aload_n 1, 1) := by decide +kernel
theorem d9_42 : decode method_3_code 42 = .ok (.iload 6, 2) := by decide +kernel
theorem d9_44 : decode method_3_code 44 = .ok (.aaload, 1) := by decide +kernel
theorem d9_45 : decode method_3_code 45 = .ok (.if_acmp .ne 7, 3) := by decide +kernel
theorem d9_48 : decode method_3_code 48 = .ok (.iconst 1, 1) := by decide +kernel
theorem d9_49 : decode method_3_code 49 = .ok (.goto 4, 3) := by decide +kernel
theorem d9_52 : decode method_3_code 52 = .ok (.iconst 0, 1) := by decide +kernel
theorem d9_53 : decode method_3_code 53 = .ok (.istore 8, 2) := by decide +kernel
theorem d9_55 : decode method_3_code 55 = .ok (.aload_n 2, 1) := by decide +kernel
theorem d9_56 : decode method_3_code 56 = .ok (.iload 6, 2) := by decide +kernel
theorem d9_58 : decode method_3_code 58 = .ok (.iconst 0, 1) := by decide +kernel
theorem d9_59 : decode method_3_code 59 = .ok (.bastore, 1) := by decide +kernel
theorem d9_60 : decode method_3_code 60 = .ok (.aload_n 3, 1) := by decide +kernel
theorem d9_61 : decode method_3_code 61 = .ok (.iconst 0, 1) := by decide +kernel
theorem d9_62 : decode method_3_code 62 = .ok (.iconst 0, 1) := by decide +kernel
theorem d9_63 : decode method_3_code 63 = .ok (.iastore, 1) := by decide +kernel
theorem d9_64 : decode method_3_code 64 = .ok (.iload 8, 2) := by decide +kernel
theorem d9_66 : decode method_3_code 66 = .ok (.ifCond .eq 14, 3) := by decide +kernel
theorem d9_69 : decode method_3_code 69 = .ok (.aload_n 0, 1) := by decide +kernel
theorem d9_70 : decode method_3_code 70 = .ok (.invokevirtual 21, 3) := by decide +kernel
theorem d9_73 : decode method_3_code 73 = .ok (.ifCond .eq 7, 3) := by decide +kernel
theorem d9_76 : decode method_3_code 76 = .ok (.iconst 1, 1) := by decide +kernel
theorem d9_77 : decode method_3_code 77 = .ok (.goto 4, 3) := by decide +kernel
theorem d9_80 : decode method_3_code 80 = .ok (.iconst 0, 1) := by decide +kernel
theorem d9_81 : decode method_3_code 81 = .ok (.ireturn, 1) := by decide +kernel
theorem d9_82 : decode method_3_code 82 = .ok (.aload_n 2, 1) := by decide +kernel
theorem d9_83 : decode method_3_code 83 = .ok (.iload 5, 2) := by decide +kernel
theorem d9_85 : decode method_3_code 85 = .ok (.baload, 1) := by decide +kernel
theorem d9_86 : decode method_3_code 86 = .ok (.ifCond .eq 27, 3) := by decide +kernel
theorem d9_89 : decode method_3_code 89 = .ok (.aload_n 0, 1) := by decide +kernel
theorem d9_90 : decode method_3_code 90 = .ok (.aload_n 1, 1) := by decide +kernel
theorem d9_91 : decode method_3_code 91 = .ok (.iload 5, 2) := by decide +kernel
theorem d9_93 : decode method_3_code 93 = .ok (.aaload, 1) := by decide +kernel
theorem d9_94 : decode method_3_code 94 = .ok (.invokevirtual 35, 3) := by decide +kernel
theorem d9_97 : decode method_3_code 97 = .ok (.aload_n 2, 1) := by decide +kernel
theorem d9_98 : decode method_3_code 98 = .ok (.iload 5, 2) := by decide +kernel
theorem d9_100 : decode method_3_code 100 = .ok (.iconst 0, 1) := by decide +kernel
theorem d9_101 : decode method_3_code 101 = .ok (.bastore, 1) := by decide +kernel
theorem d9_102 : decode method_3_code 102 = .ok (.aload_n 3, 1) := by decide +kernel
theorem d9_103 : decode method_3_code 103 = .ok (.iconst 0, 1) := by decide +kernel
theorem d9_104 : decode method_3_code 104 = .ok (.aload_n 3, 1) := by decide +kernel
theorem d9_105 : decode method_3_code 105 = .ok (.iconst 0, 1) := by decide +kernel
theorem d9_106 : decode method_3_code 106 = .ok (.iaload, 1) := by decide +kernel
theorem d9_107 : decode method_3_code 107 = .ok (.iconst 1, 1) := by decide +kernel
theorem d9_108 : decode method_3_code 108 = .ok (.isub, 1) := by decide +kernel
theorem d9_109 : decode method_3_code 109 = .ok (.iastore, 1) := by decide +kernel
theorem d9_110 : decode method_3_code 110 = .ok (.goto 24, 3) := by decide +kernel
theorem d9_113 : decode method_3_code 113 = .ok (.aload_n 0, 1) := by decide +kernel
theorem d9_114 : decode method_3_code 114 = .ok (.aload_n 1, 1) := by decide +kernel
theorem d9_115 : decode method_3_code 115 = .ok (.iload 5, 2) := by decide +kernel
theorem d9_117 : decode method_3_code 117 = .ok (.aaload, 1) := by decide +kernel
theorem d9_118 : decode method_3_code 118 = .ok (.invokevirtual 39, 3) := by decide +kernel
theorem d9_121 : decode method_3_code 121 = .ok (.aload_n 2, 1) := by decide +kernel
theorem d9_122 : decode method_3_code 122 = .ok (.iload 5, 2) := by decide +kernel
theorem d9_124 : decode method_3_code 124 = .ok (.iconst 1, 1) := by decide +kernel
theorem d9_125 : decode method_3_code 125 = .ok (.bastore, 1) := by decide +kernel
theorem d9_126 : decode method_3_code 126 = .ok (.aload_n 3, 1) := by decide +kernel
theorem d9_127 : decode method_3_code 127 = .ok (.iconst 0, 1) := by decide +kernel
theorem d9_128 : decode method_3_code 128 = .ok (.aload_n 3, 1) := by decide +kernel
theorem d9_129 : decode method_3_code 129 = .ok (.iconst 0, 1) := by decide +kernel
theorem d9_130 : decode method_3_code 130 = .ok (.iaload, 1) := by decide +kernel
theorem d9_131 : decode method_3_code 131 = .ok (.iconst 1, 1) := by decide +kernel
theorem d9_132 : decode method_3_code 132 = .ok (.iadd, 1) := by decide +kernel
theorem d9_133 : decode method_3_code 133 = .ok (.iastore, 1) := by decide +kernel
theorem d9_134 : decode method_3_code 134 = .ok (.aload_n 0, 1) := by decide +kernel
theorem d9_135 : decode method_3_code 135 = .ok (.invokevirtual 21, 3) := by decide +kernel
theorem d9_138 : decode method_3_code 138 = .ok (.aload_n 3, 1) := by decide +kernel
theorem d9_139 : decode method_3_code 139 = .ok (.iconst 0, 1) := by decide +kernel
theorem d9_140 : decode method_3_code 140 = .ok (.iaload, 1) := by decide +kernel
theorem d9_141 : decode method_3_code 141 = .ok (.ifCond .ne 7, 3) := by decide +kernel
theorem d9_144 : decode method_3_code 144 = .ok (.iconst 1, 1) := by decide +kernel
theorem d9_145 : decode method_3_code 145 = .ok (.goto 4, 3) := by decide +kernel
theorem d9_148 : decode method_3_code 148 = .ok (.iconst 0, 1) := by decide +kernel
theorem d9_149 : decode method_3_code 149 = .ok (.if_icmp .ne 7, 3) := by decide +kernel
theorem d9_152 : decode method_3_code 152 = .ok (.iconst 1, 1) := by decide +kernel
theorem d9_153 : decode method_3_code 153 = .ok (.goto 4, 3) := by decide +kernel
theorem d9_156 : decode method_3_code 156 = .ok (.iconst 0, 1) := by decide +kernel
theorem d9_157 : decode method_3_code 157 = .ok (.ireturn, 1) := by decide +kernel
theorem pn_4 : plainName "com/example/ripplematch/ripplematch/core/AgendaIsEmptyPinLaw" = true := by first | (simp [plainName, overriddenIn]; done) | decide +kernel
theorem pd_5 : parseMethodDescriptor "(Lcom/example/ripplematch/ripplematch/core/Activation;)V" = some ⟨[(.object "com/example/ripplematch/ripplematch/core/Activation")], none⟩ := by decide +kernel
theorem pd_6 : parseMethodDescriptor "()Z" = some ⟨[], some .boolean⟩ := by decide +kernel
theorem pd_7 : parseMethodDescriptor "()Lcom/example/ripplematch/ripplematch/core/Activation;" = some ⟨[], some (.object "com/example/ripplematch/ripplematch/core/Activation")⟩ := by decide +kernel
theorem d4_0 : decode prog_51_method_1_code 0 = .ok (.aload_n 0, 1) := by decide +kernel
theorem d4_1 : decode prog_51_method_1_code 1 = .ok (.invokespecial 1, 3) := by decide +kernel
theorem d4_4 : decode prog_51_method_1_code 4 = .ok (.aload_n 0, 1) := by decide +kernel
theorem d4_5 : decode prog_51_method_1_code 5 = .ok (.iconst 1, 1) := by decide +kernel
theorem d4_6 : decode prog_51_method_1_code 6 = .ok (.putfield 7, 3) := by decide +kernel
theorem d4_9 : decode prog_51_method_1_code 9 = .ok (.aload_n 0, 1) := by decide +kernel
theorem d4_10 : decode prog_51_method_1_code 10 = .ok (.aload_n 1, 1) := by decide +kernel
theorem d4_11 : decode prog_51_method_1_code 11 = .ok (.putfield 13, 3) := by decide +kernel
theorem d4_14 : decode prog_51_method_1_code 14 = .ok (.aload_n 0, 1) := by decide +kernel
theorem d4_15 : decode prog_51_method_1_code 15 = .ok (.aload_n 2, 1) := by decide +kernel
theorem d4_16 : decode prog_51_method_1_code 16 = .ok (.putfield 17, 3) := by decide +kernel
theorem d4_19 : decode prog_51_method_1_code 19 = .ok (.aload_n 0, 1) := by decide +kernel
theorem d4_20 : decode prog_51_method_1_code 20 = .ok (.aload_n 3, 1) := by decide +kernel
theorem d4_21 : decode prog_51_method_1_code 21 = .ok (.putfield 21, 3) := by decide +kernel
theorem d4_24 : decode prog_51_method_1_code 24 = .ok (.aload_n 0, 1) := by decide +kernel
theorem d4_25 : decode prog_51_method_1_code 25 = .ok (.aload_n 1, 1) := by decide +kernel
theorem d4_26 : decode prog_51_method_1_code 26 = .ok (.ifnonnull 7, 3) := by decide +kernel
theorem d4_29 : decode prog_51_method_1_code 29 = .ok (.iconst 0, 1) := by decide +kernel
theorem d4_30 : decode prog_51_method_1_code 30 = .ok (.goto 9, 3) := by decide +kernel
theorem d4_33 : decode prog_51_method_1_code 33 = .ok (.aload_n 1, 1) := by decide +kernel
theorem d4_34 : decode prog_51_method_1_code 34 = .ok (.getfield 25, 3) := by decide +kernel
theorem d4_37 : decode prog_51_method_1_code 37 = .ok (.iconst 1, 1) := by decide +kernel
theorem d4_38 : decode prog_51_method_1_code 38 = .ok (.iadd, 1) := by decide +kernel
theorem d4_39 : decode prog_51_method_1_code 39 = .ok (.putfield 25, 3) := by decide +kernel
theorem d4_42 : decode prog_51_method_1_code 42 = .ok (.aload_n 1, 1) := by decide +kernel
theorem d4_43 : decode prog_51_method_1_code 43 = .ok (.ifnull 31, 3) := by decide +kernel
theorem d4_46 : decode prog_51_method_1_code 46 = .ok (.aload_n 0, 1) := by decide +kernel
theorem d4_47 : decode prog_51_method_1_code 47 = .ok (.aload_n 1, 1) := by decide +kernel
theorem d4_48 : decode prog_51_method_1_code 48 = .ok (.getfield 29, 3) := by decide +kernel
theorem d4_51 : decode prog_51_method_1_code 51 = .ok (.putfield 32, 3) := by decide +kernel
theorem d4_54 : decode prog_51_method_1_code 54 = .ok (.aload_n 0, 1) := by decide +kernel
theorem d4_55 : decode prog_51_method_1_code 55 = .ok (.getfield 32, 3) := by decide +kernel
theorem d4_58 : decode prog_51_method_1_code 58 = .ok (.ifnull 11, 3) := by decide +kernel
theorem d4_61 : decode prog_51_method_1_code 61 = .ok (.aload_n 0, 1) := by decide +kernel
theorem d4_62 : decode prog_51_method_1_code 62 = .ok (.getfield 32, 3) := by decide +kernel
theorem d4_65 : decode prog_51_method_1_code 65 = .ok (.aload_n 0, 1) := by decide +kernel
theorem d4_66 : decode prog_51_method_1_code 66 = .ok (.putfield 35, 3) := by decide +kernel
theorem d4_69 : decode prog_51_method_1_code 69 = .ok (.aload_n 1, 1) := by decide +kernel
theorem d4_70 : decode prog_51_method_1_code 70 = .ok (.aload_n 0, 1) := by decide +kernel
theorem d4_71 : decode prog_51_method_1_code 71 = .ok (.putfield 29, 3) := by decide +kernel
theorem d4_74 : decode prog_51_method_1_code 74 = .ok (.aload_n 2, 1) := by decide +kernel
theorem d4_75 : decode prog_51_method_1_code 75 = .ok (.ifnull 31, 3) := by decide +kernel
theorem d4_78 : decode prog_51_method_1_code 78 = .ok (.aload_n 0, 1) := by decide +kernel
theorem d4_79 : decode prog_51_method_1_code 79 = .ok (.aload_n 2, 1) := by decide +kernel
theorem d4_80 : decode prog_51_method_1_code 80 = .ok (.getfield 38, 3) := by decide +kernel
theorem d4_83 : decode prog_51_method_1_code 83 = .ok (.putfield 43, 3) := by decide +kernel
theorem d4_86 : decode prog_51_method_1_code 86 = .ok (.aload_n 0, 1) := by decide +kernel
theorem d4_87 : decode prog_51_method_1_code 87 = .ok (.getfield 43, 3) := by decide +kernel
theorem d4_90 : decode prog_51_method_1_code 90 = .ok (.ifnull 11, 3) := by decide +kernel
theorem d4_93 : decode prog_51_method_1_code 93 = .ok (.aload_n 0, 1) := by decide +kernel
theorem d4_94 : decode prog_51_method_1_code 94 = .ok (.getfield 43, 3) := by decide +kernel
theorem d4_97 : decode prog_51_method_1_code 97 = .ok (.aload_n 0, 1) := by decide +kernel
theorem d4_98 : decode prog_51_method_1_code 98 = .ok (.putfield 46, 3) := by decide +kernel
theorem d4_101 : decode prog_51_method_1_code 101 = .ok (.aload_n 2, 1) := by decide +kernel
theorem d4_102 : decode prog_51_method_1_code 102 = .ok (.aload_n 0, 1) := by decide +kernel
theorem d4_103 : decode prog_51_method_1_code 103 = .ok (.putfield 38, 3) := by decide +kernel
theorem d4_106 : decode prog_51_method_1_code 106 = .ok (.return_, 1) := by decide +kernel
theorem pn_8 : plainName "com/example/ripplematch/ripplematch/core/PartialMatch" = true := by first | (simp [plainName, overriddenIn]; done) | decide +kernel
theorem d3_0 : decode prog_51_method_2_code 0 = .ok (.new 8, 3) := by decide +kernel
theorem d3_3 : decode prog_51_method_2_code 3 = .ok (.dup, 1) := by decide +kernel
theorem d3_4 : decode prog_51_method_2_code 4 = .ok (.aconst_null, 1) := by decide +kernel
theorem d3_5 : decode prog_51_method_2_code 5 = .ok (.aconst_null, 1) := by decide +kernel
theorem d3_6 : decode prog_51_method_2_code 6 = .ok (.aconst_null, 1) := by decide +kernel
theorem d3_7 : decode prog_51_method_2_code 7 = .ok (.invokespecial 49, 3) := by decide +kernel
theorem d3_10 : decode prog_51_method_2_code 10 = .ok (.astore_n 0, 1) := by decide +kernel
theorem d3_11 : decode prog_51_method_2_code 11 = .ok (.aload_n 0, 1) := by decide +kernel
theorem d3_12 : decode prog_51_method_2_code 12 = .ok (.iconst 1, 1) := by decide +kernel
theorem d3_13 : decode prog_51_method_2_code 13 = .ok (.putfield 52, 3) := by decide +kernel
theorem d3_16 : decode prog_51_method_2_code 16 = .ok (.aload_n 0, 1) := by decide +kernel
theorem d3_17 : decode prog_51_method_2_code 17 = .ok (.areturn, 1) := by decide +kernel
theorem pd_9 : parseMethodDescriptor "(Lcom/example/ripplematch/ripplematch/core/PartialMatch;Lcom/example/ripplematch/ripplematch/core/Fact;Lcom/example/ripplematch/ripplematch/core/BetaNode;)V" = some ⟨[(.object "com/example/ripplematch/ripplematch/core/PartialMatch"), (.object "com/example/ripplematch/ripplematch/core/Fact"), (.object "com/example/ripplematch/ripplematch/core/BetaNode")], none⟩ := by decide +kernel
theorem d6_0 : decode prog_51_method_7_code 0 = .ok (.iconst 0, 1) := by decide +kernel
theorem d6_1 : decode prog_51_method_7_code 1 = .ok (.istore_n 1, 1) := by decide +kernel
theorem d6_2 : decode prog_51_method_7_code 2 = .ok (.aload_n 0, 1) := by decide +kernel
theorem d6_3 : decode prog_51_method_7_code 3 = .ok (.astore_n 2, 1) := by decide +kernel
theorem d6_4 : decode prog_51_method_7_code 4 = .ok (.aload_n 2, 1) := by decide +kernel
theorem d6_5 : decode prog_51_method_7_code 5 = .ok (.getfield 13, 3) := by decide +kernel
theorem d6_8 : decode prog_51_method_7_code 8 = .ok (.ifnull 21, 3) := by decide +kernel
theorem d6_11 : decode prog_51_method_7_code 11 = .ok (.aload_n 2, 1) := by decide +kernel
theorem d6_12 : decode prog_51_method_7_code 12 = .ok (.getfield 17, 3) := by decide +kernel
theorem d6_15 : decode prog_51_method_7_code 15 = .ok (.ifnull 6, 3) := by decide +kernel
theorem d6_18 : decode prog_51_method_7_code 18 = .ok (.iinc 1 1, 3) := by decide +kernel
theorem d6_21 : decode prog_51_method_7_code 21 = .ok (.aload_n 2, 1) := by decide +kernel
theorem d6_22 : decode prog_51_method_7_code 22 = .ok (.getfield 13, 3) := by decide +kernel
theorem d6_25 : decode prog_51_method_7_code 25 = .ok (.astore_n 2, 1) := by decide +kernel
theorem d6_26 : decode prog_51_method_7_code 26 = .ok (.goto (-22), 3) := by decide +kernel
theorem d6_29 : decode prog_51_method_7_code 29 = .ok (.iload_n 1, 1) := by decide +kernel
theorem d6_30 : decode prog_51_method_7_code 30 = .ok (.newarray .long, 2) := by decide +kernel
theorem d6_32 : decode prog_51_method_7_code 32 = .ok (.astore_n 2, 1) := by decide +kernel
theorem d6_33 : decode prog_51_method_7_code 33 = .ok (.aload_n 0, 1) := by decide +kernel
theorem d6_34 : decode prog_51_method_7_code 34 = .ok (.astore_n 3, 1) := by decide +kernel
theorem d6_35 : decode prog_51_method_7_code 35 = .ok (.aload_n 3, 1) := by decide +kernel
theorem d6_36 : decode prog_51_method_7_code 36 = .ok (.getfield 13, 3) := by decide +kernel
theorem d6_39 : decode prog_51_method_7_code 39 = .ok (.ifnull 31, 3) := by decide +kernel
theorem d6_42 : decode prog_51_method_7_code 42 = .ok (.aload_n 3, 1) := by decide +kernel
theorem d6_43 : decode prog_51_method_7_code 43 = .ok (.getfield 17, 3) := by decide +kernel
theorem d6_46 : decode prog_51_method_7_code 46 = .ok (.ifnull 16, 3) := by decide +kernel
theorem d6_49 : decode prog_51_method_7_code 49 = .ok (.aload_n 2, 1) := by decide +kernel
theorem d6_50 : decode prog_51_method_7_code 50 = .ok (.iinc 1 (-1), 3) := by decide +kernel
theorem d6_53 : decode prog_51_method_7_code 53 = .ok (.iload_n 1, 1) := by decide +kernel
theorem d6_54 : decode prog_51_method_7_code 54 = .ok (.aload_n 3, 1) := by decide +kernel
theorem d6_55 : decode prog_51_method_7_code 55 = .ok (.getfield 17, 3) := by decide +kernel
theorem d6_58 : decode prog_51_method_7_code 58 = .ok (.invokevirtual 73, 3) := by decide +kernel
theorem d6_61 : decode prog_51_method_7_code 61 = .ok (.lastore, 1) := by decide +kernel
theorem d6_62 : decode prog_51_method_7_code 62 = .ok (.aload_n 3, 1) := by decide +kernel
theorem d6_63 : decode prog_51_method_7_code 63 = .ok (.getfield 13, 3) := by decide +kernel
theorem d6_66 : decode prog_51_method_7_code 66 = .ok (.astore_n 3, 1) := by decide +kernel
theorem d6_67 : decode prog_51_method_7_code 67 = .ok (.goto (-32), 3) := by decide +kernel
theorem d6_70 : decode prog_51_method_7_code 70 = .ok (.aload_n 2, 1) := by decide +kernel
theorem d6_71 : decode prog_51_method_7_code 71 = .ok (.areturn, 1) := by decide +kernel
theorem d7_0 : decode prog_11_method_2_code 0 = .ok (.aload_n 0, 1) := by decide +kernel
theorem d7_1 : decode prog_11_method_2_code 1 = .ok (.arraylength, 1) := by decide +kernel
theorem d7_2 : decode prog_11_method_2_code 2 = .ok (.bipush 16, 2) := by decide +kernel
theorem d7_4 : decode prog_11_method_2_code 4 = .ok (.if_icmp .gt 64, 3) := by decide +kernel
theorem d7_7 : decode prog_11_method_2_code 7 = .ok (.iconst 1, 1) := by decide +kernel
theorem d7_8 : decode prog_11_method_2_code 8 = .ok (.istore_n 1, 1) := by decide +kernel
theorem d7_9 : decode prog_11_method_2_code 9 = .ok (.iload_n 1, 1) := by decide +kernel
theorem d7_10 : decode prog_11_method_2_code 10 = .ok (.aload_n 0, 1) := by decide +kernel
theorem d7_11 : decode prog_11_method_2_code 11 = .ok (.arraylength, 1) := by decide +kernel
theorem d7_12 : decode prog_11_method_2_code 12 = .ok (.if_icmp .ge 53, 3) := by decide +kernel
theorem d7_15 : decode prog_11_method_2_code 15 = .ok (.aload_n 0, 1) := by decide +kernel
theorem d7_16 : decode prog_11_method_2_code 16 = .ok (.iload_n 1, 1) := by decide +kernel
theorem d7_17 : decode prog_11_method_2_code 17 = .ok (.laload, 1) := by decide +kernel
theorem d7_18 : decode prog_11_method_2_code 18 = .ok (.lstore_n 2, 1) := by decide +kernel
theorem d7_19 : decode prog_11_method_2_code 19 = .ok (.iload_n 1, 1) := by decide +kernel
theorem d7_20 : decode prog_11_method_2_code 20 = .ok (.istore 4, 2) := by decide +kernel
theorem d7_22 : decode prog_11_method_2_code 22 = .ok (.iload 4, 2) := by decide +kernel
theorem d7_24 : decode prog_11_method_2_code 24 = .ok (.ifCond .le 30, 3) := by decide +kernel
theorem d7_27 : decode prog_11_method_2_code 27 = .ok (.aload_n 0, 1) := by decide +kernel
theorem d7_28 : decode prog_11_method_2_code 28 = .ok (.iload 4, 2) := by decide +kernel
theorem d7_30 : decode prog_11_method_2_code 30 = .ok (.iconst 1, 1) := by decide +kernel
theorem d7_31 : decode prog_11_method_2_code 31 = .ok (.isub, 1) := by decide +kernel
theorem d7_32 : decode prog_11_method_2_code 32 = .ok (.laload, 1) := by decide +kernel
theorem d7_33 : decode prog_11_method_2_code 33 = .ok (.lload_n 2, 1) := by decide +kernel
theorem d7_34 : decode prog_11_method_2_code 34 = .ok (.lcmp, 1) := by decide +kernel
theorem d7_35 : decode prog_11_method_2_code 35 = .ok (.ifCond .ge 19, 3) := by decide +kernel
theorem d7_38 : decode prog_11_method_2_code 38 = .ok (.aload_n 0, 1) := by decide +kernel
theorem d7_39 : decode prog_11_method_2_code 39 = .ok (.iload 4, 2) := by decide +kernel
theorem d7_41 : decode prog_11_method_2_code 41 = .ok (.aload_n 0, 1) := by decide +kernel
theorem d7_42 : decode prog_11_method_2_code 42 = .ok (.iload 4, 2) := by decide +kernel
theorem d7_44 : decode prog_11_method_2_code 44 = .ok (.iconst 1, 1) := by decide +kernel
theorem d7_45 : decode prog_11_method_2_code 45 = .ok (.isub, 1) := by decide +kernel
theorem d7_46 : decode prog_11_method_2_code 46 = .ok (.laload, 1) := by decide +kernel
theorem d7_47 : decode prog_11_method_2_code 47 = .ok (.lastore, 1) := by decide +kernel
theorem d7_48 : decode prog_11_method_2_code 48 = .ok (.iinc 4 (-1), 3) := by decide +kernel
theorem d7_51 : decode prog_11_method_2_code 51 = .ok (.goto (-29), 3) := by decide +kernel
theorem d7_54 : decode prog_11_method_2_code 54 = .ok (.aload_n 0, 1) := by decide +kernel
theorem d7_55 : decode prog_11_method_2_code 55 = .ok (.iload 4, 2) := by decide +kernel
theorem d7_57 : decode prog_11_method_2_code 57 = .ok (.lload_n 2, 1) := by decide +kernel
theorem d7_58 : decode prog_11_method_2_code 58 = .ok (.lastore, 1) := by decide +kernel
theorem d7_59 : decode prog_11_method_2_code 59 = .ok (.iinc 1 1, 3) := by decide +kernel
theorem d7_62 : decode prog_11_method_2_code 62 = .ok (.goto (-53), 3) := by decide +kernel
theorem d7_65 : decode prog_11_method_2_code 65 = .ok (.goto 42, 3) := by decide +kernel
theorem d7_68 : decode prog_11_method_2_code 68 = .ok (.aload_n 0, 1) := by decide +kernel
theorem d7_69 : decode prog_11_method_2_code 69 = .ok (.invokestatic 37, 3) := by decide +kernel
theorem d7_72 : decode prog_11_method_2_code 72 = .ok (.iconst 0, 1) := by decide +kernel
theorem d7_73 : decode prog_11_method_2_code 73 = .ok (.istore_n 1, 1) := by decide +kernel
theorem d7_74 : decode prog_11_method_2_code 74 = .ok (.aload_n 0, 1) := by decide +kernel
theorem d7_75 : decode prog_11_method_2_code 75 = .ok (.arraylength, 1) := by decide +kernel
theorem d7_76 : decode prog_11_method_2_code 76 = .ok (.iconst 1, 1) := by decide +kernel
theorem d7_77 : decode prog_11_method_2_code 77 = .ok (.isub, 1) := by decide +kernel
theorem d7_78 : decode prog_11_method_2_code 78 = .ok (.istore_n 2, 1) := by decide +kernel
theorem d7_79 : decode prog_11_method_2_code 79 = .ok (.iload_n 1, 1) := by decide +kernel
theorem d7_80 : decode prog_11_method_2_code 80 = .ok (.iload_n 2, 1) := by decide +kernel
theorem d7_81 : decode prog_11_method_2_code 81 = .ok (.if_icmp .ge 26, 3) := by decide +kernel
theorem d7_84 : decode prog_11_method_2_code 84 = .ok (.aload_n 0, 1) := by decide +kernel
theorem d7_85 : decode prog_11_method_2_code 85 = .ok (.iload_n 1, 1) := by decide +kernel
theorem d7_86 : decode prog_11_method_2_code 86 = .ok (.laload, 1) := by decide +kernel
theorem d7_87 : decode prog_11_method_2_code 87 = .ok (.lstore_n 3, 1) := by decide +kernel
theorem d7_88 : decode prog_11_method_2_code 88 = .ok (.aload_n 0, 1) := by decide +kernel
theorem d7_89 : decode prog_11_method_2_code 89 = .ok (.iload_n 1, 1) := by decide +kernel
theorem d7_90 : decode prog_11_method_2_code 90 = .ok (.aload_n 0, 1) := by decide +kernel
theorem d7_91 : decode prog_11_method_2_code 91 = .ok (.iload_n 2, 1) := by decide +kernel
theorem d7_92 : decode prog_11_method_2_code 92 = .ok (.laload, 1) := by decide +kernel
theorem d7_93 : decode prog_11_method_2_code 93 = .ok (.lastore, 1) := by decide +kernel
theorem d7_94 : decode prog_11_method_2_code 94 = .ok (.aload_n 0, 1) := by decide +kernel
theorem d7_95 : decode prog_11_method_2_code 95 = .ok (.iload_n 2, 1) := by decide +kernel
theorem d7_96 : decode prog_11_method_2_code 96 = .ok (.lload_n 3, 1) := by decide +kernel
theorem d7_97 : decode prog_11_method_2_code 97 = .ok (.lastore, 1) := by decide +kernel
theorem d7_98 : decode prog_11_method_2_code 98 = .ok (.iinc 1 1, 3) := by decide +kernel
theorem d7_101 : decode prog_11_method_2_code 101 = .ok (.iinc 2 (-1), 3) := by decide +kernel
theorem d7_104 : decode prog_11_method_2_code 104 = .ok (.goto (-25), 3) := by decide +kernel
theorem d7_107 : decode prog_11_method_2_code 107 = .ok (.aload_n 0, 1) := by decide +kernel
theorem d7_108 : decode prog_11_method_2_code 108 = .ok (.areturn, 1) := by decide +kernel
theorem pn_10 : plainName "com/example/ripplematch/ripplematch/core/Activation" = true := by first | (simp [plainName, overriddenIn]; done) | decide +kernel
theorem d5_0 : decode prog_11_method_1_code 0 = .ok (.aload_n 0, 1) := by decide +kernel
theorem d5_1 : decode prog_11_method_1_code 1 = .ok (.invokespecial 1, 3) := by decide +kernel
theorem d5_4 : decode prog_11_method_1_code 4 = .ok (.aload_n 0, 1) := by decide +kernel
theorem d5_5 : decode prog_11_method_1_code 5 = .ok (.iconst (-1), 1) := by decide +kernel
theorem d5_6 : decode prog_11_method_1_code 6 = .ok (.putfield 9, 3) := by decide +kernel
theorem d5_9 : decode prog_11_method_1_code 9 = .ok (.aload_n 0, 1) := by decide +kernel
theorem d5_10 : decode prog_11_method_1_code 10 = .ok (.aload_n 1, 1) := by decide +kernel
theorem d5_11 : decode prog_11_method_1_code 11 = .ok (.putfield 15, 3) := by decide +kernel
theorem d5_14 : decode prog_11_method_1_code 14 = .ok (.aload_n 0, 1) := by decide +kernel
theorem d5_15 : decode prog_11_method_1_code 15 = .ok (.aload_n 2, 1) := by decide +kernel
theorem d5_16 : decode prog_11_method_1_code 16 = .ok (.putfield 19, 3) := by decide +kernel
theorem d5_19 : decode prog_11_method_1_code 19 = .ok (.aload_n 0, 1) := by decide +kernel
theorem d5_20 : decode prog_11_method_1_code 20 = .ok (.aload_n 2, 1) := by decide +kernel
theorem d5_21 : decode prog_11_method_1_code 21 = .ok (.invokevirtual 23, 3) := by decide +kernel
theorem d5_24 : decode prog_11_method_1_code 24 = .ok (.invokestatic 29, 3) := by decide +kernel
theorem d5_27 : decode prog_11_method_1_code 27 = .ok (.putfield 33, 3) := by decide +kernel
theorem d5_30 : decode prog_11_method_1_code 30 = .ok (.return_, 1) := by decide +kernel
theorem pd_11 : parseMethodDescriptor "()[J" = some ⟨[], some (.array .long)⟩ := by decide +kernel
theorem pd_12 : parseMethodDescriptor "([J)[J" = some ⟨[(.array .long)], some (.array .long)⟩ := by decide +kernel
theorem d1_0 : decode prog_13_method_1_code 0 = .ok (.aload_n 0, 1) := by decide +kernel
theorem d1_1 : decode prog_13_method_1_code 1 = .ok (.invokespecial 1, 3) := by decide +kernel
theorem d1_4 : decode prog_13_method_1_code 4 = .ok (.aload_n 0, 1) := by decide +kernel
theorem d1_5 : decode prog_13_method_1_code 5 = .ok (.bipush 16, 2) := by decide +kernel
theorem d1_7 : decode prog_13_method_1_code 7 = .ok (.anewarray 7, 3) := by decide +kernel
theorem d1_10 : decode prog_13_method_1_code 10 = .ok (.putfield 9, 3) := by decide +kernel
theorem d1_13 : decode prog_13_method_1_code 13 = .ok (.aload_n 0, 1) := by decide +kernel
theorem d1_14 : decode prog_13_method_1_code 14 = .ok (.bipush 16, 2) := by decide +kernel
theorem d1_16 : decode prog_13_method_1_code 16 = .ok (.anewarray 7, 3) := by decide +kernel
theorem d1_19 : decode prog_13_method_1_code 19 = .ok (.putfield 15, 3) := by decide +kernel
theorem d1_22 : decode prog_13_method_1_code 22 = .ok (.return_, 1) := by decide +kernel
theorem pd_13 : parseMethodDescriptor "()Lcom/example/ripplematch/ripplematch/core/PartialMatch;" = some ⟨[], some (.object "com/example/ripplematch/ripplematch/core/PartialMatch")⟩ := by decide +kernel
theorem pd_14 : parseMethodDescriptor "(Lcom/example/ripplematch/ripplematch/core/CompiledRule;Lcom/example/ripplematch/ripplematch/core/PartialMatch;)V" = some ⟨[(.object "com/example/ripplematch/ripplematch/core/CompiledRule"), (.object "com/example/ripplematch/ripplematch/core/PartialMatch")], none⟩ := by decide +kernel
theorem pd_15 : parseMethodDescriptor "(Lcom/example/ripplematch/ripplematch/core/Agenda;[Lcom/example/ripplematch/ripplematch/core/Activation;[Z[II)Z" = some ⟨[(.object "com/example/ripplematch/ripplematch/core/Agenda"), (.array (.object "com/example/ripplematch/ripplematch/core/Activation")), (.array .boolean), (.array .int), .int], some .boolean⟩ := by decide +kernel
theorem ef_15 (m : MethodId) (x0 : Addr) (x1 : Int32) : entryFrame m #[(.ref x0), (.int x1)] 2 = mkF m 0 #[.val (.ref x0), .val (.int x1)] [] := by first | (simp [entryFrame, mkF, argsToLocals, Value.category]; done) | rfl
def Q15 (Z : State) (a1 : Addr) (HA : Addr) (FA : Addr) (x : Addr) (kH : ClassId) (kF : ClassId) (h0 : Heap) (n0 : Nat) (v : Option Value) (h : Heap) (L : List Loc) : Prop := v = none ∧ Fr n0 L ∧ Keep h0 h [] ∧ Exa Z h a1 "com/example/ripplematch/ripplematch/core/Agenda" ∧ Fld Z h a1 "com/example/ripplematch/ripplematch/core/Agenda" "heap" "[Lcom/example/ripplematch/ripplematch/core/Activation;" (.ref HA) ∧ Fld Z h a1 "com/example/ripplematch/ripplematch/core/Agenda" "heapSize" "I" (.int (0 : Int32)) ∧ Fld Z h a1 "com/example/ripplematch/ripplematch/core/Agenda" "gone" "I" (.int (0 : Int32)) ∧ Fld Z h a1 "com/example/ripplematch/ripplematch/core/Agenda" "disordered" "Z" (.int (0 : Int32)) ∧ Fld Z h a1 "com/example/ripplematch/ripplematch/core/Agenda" "fresh" "[Lcom/example/ripplematch/ripplematch/core/Activation;" (.ref FA) ∧ Fld Z h a1 "com/example/ripplematch/ripplematch/core/Agenda" "freshSize" "I" (.int (1 : Int32)) ∧ Fld Z h a1 "com/example/ripplematch/ripplematch/core/Agenda" "size" "I" (.int (1 : Int32)) ∧ Arv Z h HA kH (.object "com/example/ripplematch/ripplematch/core/Activation") (16 : Int32) [.null, .null, .null, .null, .null, .null, .null, .null, .null, .null, .null, .null, .null, .null, .null, .null] .null ∧ Arv Z h FA kF (.object "com/example/ripplematch/ripplematch/core/Activation") (16 : Int32) [(.ref x), .null, .null, .null, .null, .null, .null, .null, .null, .null, .null, .null, .null, .null, .null, .null] .null ∧ Exa Z h x "com/example/ripplematch/ripplematch/core/Activation" ∧ Fld Z h x "com/example/ripplematch/ripplematch/core/Activation" "place" "I" (.int (-2 : Int32))
set_option maxRecDepth 65536 in
set_option maxHeartbeats 40000000 in
theorem rm15 (l : Launch) (Z : State) (a0 : Array Value) (hw : ∀ d ∈ tables_1, d.before a0 Z = true) (ws : List Jvm.Cond) (a1 : Addr) (HA : Addr) (FA : Addr) (x : Addr) (kH : ClassId) (kF : ClassId) (h0 : Heap) (n0 : Nat) (Z0 : n0 ≤ h0.size) (E : Exa Z h0 a1 "com/example/ripplematch/ripplematch/core/Agenda") (F_heap : Fld Z h0 a1 "com/example/ripplematch/ripplematch/core/Agenda" "heap" "[Lcom/example/ripplematch/ripplematch/core/Activation;" (.ref HA)) (F_heapSize : Fld Z h0 a1 "com/example/ripplematch/ripplematch/core/Agenda" "heapSize" "I" (.int (0 : Int32))) (F_gone : Fld Z h0 a1 "com/example/ripplematch/ripplematch/core/Agenda" "gone" "I" (.int (0 : Int32))) (F_disordered : Fld Z h0 a1 "com/example/ripplematch/ripplematch/core/Agenda" "disordered" "Z" (.int (0 : Int32))) (F_fresh : Fld Z h0 a1 "com/example/ripplematch/ripplematch/core/Agenda" "fresh" "[Lcom/example/ripplematch/ripplematch/core/Activation;" (.ref FA)) (F_freshSize : Fld Z h0 a1 "com/example/ripplematch/ripplematch/core/Agenda" "freshSize" "I" (.int (1 : Int32))) (F_size : Fld Z h0 a1 "com/example/ripplematch/ripplematch/core/Agenda" "size" "I" (.int (1 : Int32))) (VH : Arv Z h0 HA kH (.object "com/example/ripplematch/ripplematch/core/Activation") (16 : Int32) [.null, .null, .null, .null, .null, .null, .null, .null, .null, .null, .null, .null, .null, .null, .null, .null] .null) (VF : Arv Z h0 FA kF (.object "com/example/ripplematch/ripplematch/core/Activation") (16 : Int32) [(.ref x), .null, .null, .null, .null, .null, .null, .null, .null, .null, .null, .null, .null, .null, .null, .null] .null) (E_x : Exa Z h0 x "com/example/ripplematch/ripplematch/core/Activation") (P_x : Fld Z h0 x "com/example/ripplematch/ripplematch/core/Activation" "place" "I" (.int (-2 : Int32))) (g_a1 : n0 ≤ a1) (g_HA : n0 ≤ HA) (g_FA : n0 ≤ FA) (g_x : n0 ≤ x) (n_a1_HA : a1 ≠ HA) (n_a1_FA : a1 ≠ FA) (n_a1_x : a1 ≠ x) (n_HA_FA : HA ≠ FA) (n_HA_x : HA ≠ x) (n_FA_x : FA ≠ x) (OH : Ovr Z kH "com/example/ripplematch/ripplematch/core/Activation") (OF : Ovr Z kF "com/example/ripplematch/ripplematch/core/Activation") :
    MetFree l (⟨"com/example/ripplematch/ripplematch/core/Agenda", "grow", "(I)V"⟩ : MethodName) (head1 (Jvm.Cond.code (⟨"com/example/ripplematch/ripplematch/core/Agenda", "grow", "(I)V"⟩ : MethodName) prog_13_method_10_code 2 none :: ws) ({ frames := 0, cells := 0, slots := 0, locals := 0 } : Room)) (fun a U => a = #[(.ref a1), (.int (1 : Int32))] ∧ Z.Warmed39 U.vm ∧ U.heap = h0) (fun _ _ _ _ _ => True) (fun _ U o U' => ∃ v L, o = .returned v ∧ Q15 Z a1 HA FA x kH kF h0 n0 v U'.heap L ∧ FrameEnd U o U' L ({ frames := 0, cells := 0, slots := 0, locals := 0 } : Room).cells ({ frames := 0, cells := 0, slots := 0, locals := 0 } : Room).slots) := by
  refine MetFree.of_bodySF (plainFor_of_name pn_0) hisR ?_
  intro p e s m args below meth c s₁ Bd hml0 hP hK
  obtain ⟨rfl, hZ, hh⟩ := hP
  have hx := Bd.exec
  have hby := Bd.bytes
  have hml : c.maxLocals = 2 := hml0
  have hown : s.vm.findClass "com/example/ripplematch/ripplematch/core/Agenda" = some m.cls := findClass_of_methodNamed Bd.named
  have hnm := (name_of_methodNamed Bd.named Bd.method).1
  have hlocks : meth.locks = false := BodyLoose.notSynchronized Bd
  have X0 : Stand p l e ({ frames := 0, cells := 0, slots := 0, locals := 0 } : Room) s m #[(.ref a1), (.int (1 : Int32))] below meth c s₁ [] 0 0 := Stand.of_body Bd
  have e0 : s₁.heap = h0 := by rw [← hh, Bd.state]; rfl
  have N0 := Fr.nil n0
  show Goes p e below (s₁.setTop (entryFrame m #[(.ref a1), (.int (1 : Int32))] 2)) (Fin s (Q15 Z a1 HA FA x kH kF h0 n0) ({ frames := 0, cells := 0, slots := 0, locals := 0 } : Room).cells ({ frames := 0, cells := 0, slots := 0, locals := 0 } : Room).slots)
  refine Goes.of (fun t k => castTop (ef_15 m a1 (1 : Int32)) k) ?_
  have K0 : Keep h0 h0 [] := Keep.refl _ _
  show Goes p e below (s₁.setTop (mkF m 0 #[.val (.ref a1), .val (.int (1 : Int32))] [])) _
  refine Goes.of (fun t k => XS.iloadN X0.here hx rfl (hb hby d15_0) rfl k) ?_
  show Goes p e below (s₁.setTop (mkF m 1 #[.val (.ref a1), .val (.int (1 : Int32))] [(.int (1 : Int32))])) _
  refine Goes.of (fun t k => XS.aloadN X0.here hx rfl (hb hby d15_1) rfl rfl k) ?_
  obtain ⟨T1, X1, e1, st1⟩ := getF X0 hx hZ hown (host := "") (Or.inl (wd hw 11 rfl)) Via.refl e0 F_heap (g := (mkF m 2 #[.val (.ref a1), .val (.int (1 : Int32))] [(.ref a1), (.int (1 : Int32))])) rfl rfl (hb hby d15_2)
  refine Goes.of st1 ?_
  have Vc2 := VH
  obtain ⟨clc2, Arc2, qc2, Sc2, Nc2, Hc2, Gc2⟩ := Vc2
  refine Goes.of (X1.arraylength hx (by rw [e1]; exact Arc2.1) (State.isArrayOf_alike hZ.alike Arc2.2.1) (g := (mkF m 5 #[.val (.ref a1), .val (.int (1 : Int32))] [(.ref HA), (.int (1 : Int32))])) rfl rfl (hb hby d15_5)) ?_
  rw [len_of Sc2 Nc2]
  show Goes p e below (T1.setTop (mkF m 6 #[.val (.ref a1), .val (.int (1 : Int32))] [(.int (16 : Int32)), (.int (1 : Int32))])) _
  refine Goes.of (fun t k => XS.icmpYes X1.here hx rfl (pc0 := 6) (pc' := 34) rfl (hb hby d15_6) rfl (flt (by decide)).2.2.2 (by decide) (by decide) k) ?_
  show Goes p e below (T1.setTop (mkF m 34 #[.val (.ref a1), .val (.int (1 : Int32))] [])) _
  have eh : T1.heap = h0 := e1
  exact Goes.retV X1 hx Bd.returns hlocks (hb hby d15_34) (⟨rfl, N0, by rw [eh]; exact K0, by rw [eh]; exact E, by rw [eh]; exact F_heap, by rw [eh]; exact F_heapSize, by rw [eh]; exact F_gone, by rw [eh]; exact F_disordered, by rw [eh]; exact F_fresh, by rw [eh]; exact F_freshSize, by rw [eh]; exact F_size, by rw [eh]; exact VH, by rw [eh]; exact VF, by rw [eh]; exact E_x, by rw [eh]; exact P_x⟩) (by decide) (by decide)
theorem ef_16 (m : MethodId) (x0 : Addr) (x1 : Int32) (x2 : Addr) : entryFrame m #[(.ref x0), (.int x1), (.ref x2)] 3 = mkF m 0 #[.val (.ref x0), .val (.int x1), .val (.ref x2)] [] := by first | (simp [entryFrame, mkF, argsToLocals, Value.category]; done) | rfl
def Q16 (Z : State) (a1 : Addr) (x : Addr) (HA : Addr) (FA : Addr) (kH : ClassId) (kF : ClassId) (h0 : Heap) (n0 : Nat) (v : Option Value) (h : Heap) (L : List Loc) : Prop := v = none ∧ Fr n0 L ∧ Keep h0 h [a1, HA, x] ∧ Exa Z h a1 "com/example/ripplematch/ripplematch/core/Agenda" ∧ Fld Z h a1 "com/example/ripplematch/ripplematch/core/Agenda" "heap" "[Lcom/example/ripplematch/ripplematch/core/Activation;" (.ref HA) ∧ Fld Z h a1 "com/example/ripplematch/ripplematch/core/Agenda" "heapSize" "I" (.int (1 : Int32)) ∧ Fld Z h a1 "com/example/ripplematch/ripplematch/core/Agenda" "gone" "I" (.int (0 : Int32)) ∧ Fld Z h a1 "com/example/ripplematch/ripplematch/core/Agenda" "disordered" "Z" (.int (0 : Int32)) ∧ Fld Z h a1 "com/example/ripplematch/ripplematch/core/Agenda" "fresh" "[Lcom/example/ripplematch/ripplematch/core/Activation;" (.ref FA) ∧ Fld Z h a1 "com/example/ripplematch/ripplematch/core/Agenda" "freshSize" "I" (.int (0 : Int32)) ∧ Fld Z h a1 "com/example/ripplematch/ripplematch/core/Agenda" "size" "I" (.int (1 : Int32)) ∧ Arv Z h HA kH (.object "com/example/ripplematch/ripplematch/core/Activation") (16 : Int32) [(.ref x), .null, .null, .null, .null, .null, .null, .null, .null, .null, .null, .null, .null, .null, .null, .null] .null ∧ Arv Z h FA kF (.object "com/example/ripplematch/ripplematch/core/Activation") (16 : Int32) [.null, .null, .null, .null, .null, .null, .null, .null, .null, .null, .null, .null, .null, .null, .null, .null] .null ∧ Exa Z h x "com/example/ripplematch/ripplematch/core/Activation" ∧ Fld Z h x "com/example/ripplematch/ripplematch/core/Activation" "place" "I" (.int (0 : Int32))
set_option maxRecDepth 65536 in
set_option maxHeartbeats 40000000 in
theorem rm16 (l : Launch) (Z : State) (a0 : Array Value) (hw : ∀ d ∈ tables_1, d.before a0 Z = true) (ws : List Jvm.Cond) (a1 : Addr) (x : Addr) (HA : Addr) (FA : Addr) (kH : ClassId) (kF : ClassId) (h0 : Heap) (n0 : Nat) (Z0 : n0 ≤ h0.size) (E : Exa Z h0 a1 "com/example/ripplematch/ripplematch/core/Agenda") (F_heap : Fld Z h0 a1 "com/example/ripplematch/ripplematch/core/Agenda" "heap" "[Lcom/example/ripplematch/ripplematch/core/Activation;" (.ref HA)) (F_heapSize : Fld Z h0 a1 "com/example/ripplematch/ripplematch/core/Agenda" "heapSize" "I" (.int (1 : Int32))) (F_gone : Fld Z h0 a1 "com/example/ripplematch/ripplematch/core/Agenda" "gone" "I" (.int (0 : Int32))) (F_disordered : Fld Z h0 a1 "com/example/ripplematch/ripplematch/core/Agenda" "disordered" "Z" (.int (0 : Int32))) (F_fresh : Fld Z h0 a1 "com/example/ripplematch/ripplematch/core/Agenda" "fresh" "[Lcom/example/ripplematch/ripplematch/core/Activation;" (.ref FA)) (F_freshSize : Fld Z h0 a1 "com/example/ripplematch/ripplematch/core/Agenda" "freshSize" "I" (.int (0 : Int32))) (F_size : Fld Z h0 a1 "com/example/ripplematch/ripplematch/core/Agenda" "size" "I" (.int (1 : Int32))) (VH : Arv Z h0 HA kH (.object "com/example/ripplematch/ripplematch/core/Activation") (16 : Int32) [(.ref x), .null, .null, .null, .null, .null, .null, .null, .null, .null, .null, .null, .null, .null, .null, .null] .null) (VF : Arv Z h0 FA kF (.object "com/example/ripplematch/ripplematch/core/Activation") (16 : Int32) [.null, .null, .null, .null, .null, .null, .null, .null, .null, .null, .null, .null, .null, .null, .null, .null] .null) (E_x : Exa Z h0 x "com/example/ripplematch/ripplematch/core/Activation") (P_x : Fld Z h0 x "com/example/ripplematch/ripplematch/core/Activation" "place" "I" (.int (-2 : Int32))) (g_a1 : n0 ≤ a1) (g_HA : n0 ≤ HA) (g_FA : n0 ≤ FA) (g_x : n0 ≤ x) (n_a1_HA : a1 ≠ HA) (n_a1_FA : a1 ≠ FA) (n_a1_x : a1 ≠ x) (n_HA_FA : HA ≠ FA) (n_HA_x : HA ≠ x) (n_FA_x : FA ≠ x) (OH : Ovr Z kH "com/example/ripplematch/ripplematch/core/Activation") (OF : Ovr Z kF "com/example/ripplematch/ripplematch/core/Activation") :
    MetFree l (⟨"com/example/ripplematch/ripplematch/core/Agenda", "set", "(ILcom/example/ripplematch/ripplematch/core/Activation;)V"⟩ : MethodName) (head1 (Jvm.Cond.code (⟨"com/example/ripplematch/ripplematch/core/Agenda", "set", "(ILcom/example/ripplematch/ripplematch/core/Activation;)V"⟩ : MethodName) prog_13_method_14_code 3 none :: ws) ({ frames := 0, cells := 0, slots := 0, locals := 0 } : Room)) (fun a U => a = #[(.ref a1), (.int (0 : Int32)), (.ref x)] ∧ Z.Warmed39 U.vm ∧ U.heap = h0) (fun _ _ _ _ _ => True) (fun _ U o U' => ∃ v L, o = .returned v ∧ Q16 Z a1 x HA FA kH kF h0 n0 v U'.heap L ∧ FrameEnd U o U' L ({ frames := 0, cells := 0, slots := 0, locals := 0 } : Room).cells ({ frames := 0, cells := 0, slots := 0, locals := 0 } : Room).slots) := by
  refine MetFree.of_bodySF (plainFor_of_name pn_0) hisR ?_
  intro p e s m args below meth c s₁ Bd hml0 hP hK
  obtain ⟨rfl, hZ, hh⟩ := hP
  have hx := Bd.exec
  have hby := Bd.bytes
  have hml : c.maxLocals = 3 := hml0
  have hown : s.vm.findClass "com/example/ripplematch/ripplematch/core/Agenda" = some m.cls := findClass_of_methodNamed Bd.named
  have hnm := (name_of_methodNamed Bd.named Bd.method).1
  have hlocks : meth.locks = false := BodyLoose.notSynchronized Bd
  have X0 : Stand p l e ({ frames := 0, cells := 0, slots := 0, locals := 0 } : Room) s m #[(.ref a1), (.int (0 : Int32)), (.ref x)] below meth c s₁ [] 0 0 := Stand.of_body Bd
  have e0 : s₁.heap = h0 := by rw [← hh, Bd.state]; rfl
  have N0 := Fr.nil n0
  show Goes p e below (s₁.setTop (entryFrame m #[(.ref a1), (.int (0 : Int32)), (.ref x)] 3)) (Fin s (Q16 Z a1 x HA FA kH kF h0 n0) ({ frames := 0, cells := 0, slots := 0, locals := 0 } : Room).cells ({ frames := 0, cells := 0, slots := 0, locals := 0 } : Room).slots)
  refine Goes.of (fun t k => castTop (ef_16 m a1 (0 : Int32) x) k) ?_
  have K0 : Keep h0 h0 [a1, HA, x] := Keep.refl _ _
  show Goes p e below (s₁.setTop (mkF m 0 #[.val (.ref a1), .val (.int (0 : Int32)), .val (.ref x)] [])) _
  refine Goes.of (fun t k => XS.aloadN X0.here hx rfl (hb hby d16_0) rfl rfl k) ?_
  obtain ⟨T3, X3, e3, st3⟩ := getF X0 hx hZ hown (host := "") (Or.inl (wd hw 11 rfl)) Via.refl e0 F_heap (g := (mkF m 1 #[.val (.ref a1), .val (.int (0 : Int32)), .val (.ref x)] [(.ref a1)])) rfl rfl (hb hby d16_1)
  refine Goes.of st3 ?_
  show Goes p e below (T3.setTop (mkF m 4 #[.val (.ref a1), .val (.int (0 : Int32)), .val (.ref x)] [(.ref HA)])) _
  refine Goes.of (fun t k => XS.iloadN X3.here hx rfl (hb hby d16_4) rfl k) ?_
  show Goes p e below (T3.setTop (mkF m 5 #[.val (.ref a1), .val (.int (0 : Int32)), .val (.ref x)] [(.int (0 : Int32)), (.ref HA)])) _
  refine Goes.of (fun t k => XS.aloadN X3.here hx rfl (hb hby d16_5) rfl rfl k) ?_
  have Vc4 := VH
  obtain ⟨clc4, Arc4, qc4, Sc4, Nc4, Hc4, Gc4⟩ := Vc4
  have hin5 : ¬ ((0 : Int32) < 0 ∨ clc4.slots.size ≤ ((0 : Int32)).toNatClampNeg) := inb_of Sc4 ⟨by decide, by decide⟩
  obtain ⟨T6, h6, X6, e6, W6, st6⟩ := stR X3 hx hZ e3 Arc4 (j := (0 : Int32)) hin5 rfl (Sto.ofV Arc4 qc4 OH (Ins.self E_x)) (g := (mkF m 6 #[.val (.ref a1), .val (.int (0 : Int32)), .val (.ref x)] [(.ref x), (.int (0 : Int32)), (.ref HA)])) rfl rfl (hb hby d16_6)
  have V6 : Arv Z h6 HA kH (.object "com/example/ripplematch/ripplematch/core/Activation") (16 : Int32) [(.ref x), .null, .null, .null, .null, .null, .null, .null, .null, .null, .null, .null, .null, .null, .null, .null] .null := Arv.set Arc4 qc4 Sc4 Nc4 Hc4 Gc4 rfl W6 0 rfl (Nat.le_of_ble_eq_true rfl)
  have K7 : Keep h0 h6 [a1, HA, x] := K0.wr W6 (Or.inl (List.mem_of_getElem? (i := 1) rfl))
  have z8 : n0 ≤ h6.size := Nat.le_trans Z0 (Keep.of_wr W6).1
  have f9 := E.wr W6
  have f10 := F_heap.other W6 (Or.inl n_a1_HA)
  have f11 := F_heapSize.other W6 (Or.inl n_a1_HA)
  have f12 := F_gone.other W6 (Or.inl n_a1_HA)
  have f13 := F_disordered.other W6 (Or.inl n_a1_HA)
  have f14 := F_fresh.other W6 (Or.inl n_a1_HA)
  have f15 := F_freshSize.other W6 (Or.inl n_a1_HA)
  have f16 := F_size.other W6 (Or.inl n_a1_HA)
  have f18 := VF.other W6 (Ne.symm n_HA_FA)
  have f19 := E_x.wr W6
  have f20 := P_x.other W6 (Or.inl (Ne.symm n_HA_x))
  have N6 := Fr.snoc X6 N0 g_HA
  refine Goes.of st6 ?_
  show Goes p e below (T6.setTop (mkF m 7 #[.val (.ref a1), .val (.int (0 : Int32)), .val (.ref x)] [])) _
  refine Goes.of (fun t k => XS.aloadN X6.here hx rfl (hb hby d16_7) rfl rfl k) ?_
  obtain ⟨T21, X21, e21, st21⟩ := getF X6 hx hZ hown (host := "") (Or.inl (wd hw 84 rfl)) Via.refl e6 f20 (g := (mkF m 8 #[.val (.ref a1), .val (.int (0 : Int32)), .val (.ref x)] [(.ref x)])) rfl rfl (hb hby d16_8)
  refine Goes.of st21 ?_
  show Goes p e below (T21.setTop (mkF m 11 #[.val (.ref a1), .val (.int (0 : Int32)), .val (.ref x)] [(.int (-2 : Int32))])) _
  refine Goes.of (fun t k => XS.iconst X21.here hx rfl (hb hby d16_11) k) ?_
  show Goes p e below (T21.setTop (mkF m 12 #[.val (.ref a1), .val (.int (0 : Int32)), .val (.ref x)] [(.int (-1 : Int32)), (.int (-2 : Int32))])) _
  refine Goes.of (fun t k => XS.icmpNo X21.here hx rfl (hb hby d16_12) rfl (feq (by decide)).1 k) ?_
  show Goes p e below (T21.setTop (mkF m 15 #[.val (.ref a1), .val (.int (0 : Int32)), .val (.ref x)] [])) _
  refine Goes.of (fun t k => XS.aloadN X21.here hx rfl (hb hby d16_15) rfl rfl k) ?_
  show Goes p e below (T21.setTop (mkF m 16 #[.val (.ref a1), .val (.int (0 : Int32)), .val (.ref x)] [(.ref x)])) _
  refine Goes.of (fun t k => XS.iloadN X21.here hx rfl (hb hby d16_16) rfl k) ?_
  obtain ⟨T22, h22, X22, e22, W22, st22⟩ := putF X21 hx hZ hown (host := "") (Or.inl (wd hw 84 rfl)) Via.refl e21 f20 f19 (Or.inl (wd hw 45 rfl)) (wd hw 38 rfl) (ty := .int) (by decide) rfl rfl (g := (mkF m 17 #[.val (.ref a1), .val (.int (0 : Int32)), .val (.ref x)] [(.int (0 : Int32)), (.ref x)])) rfl rfl (hb hby d16_17)
  have f23 := f20.same W22
  have K24 : Keep h0 h22 [a1, HA, x] := K7.wr W22 (Or.inl (List.mem_of_getElem? (i := 2) rfl))
  have z25 : n0 ≤ h22.size := Nat.le_trans z8 (Keep.of_wr W22).1
  have f26 := f9.wr W22
  have f27 := f10.other W22 (Or.inl n_a1_x)
  have f28 := f11.other W22 (Or.inl n_a1_x)
  have f29 := f12.other W22 (Or.inl n_a1_x)
  have f30 := f13.other W22 (Or.inl n_a1_x)
  have f31 := f14.other W22 (Or.inl n_a1_x)
  have f32 := f15.other W22 (Or.inl n_a1_x)
  have f33 := f16.other W22 (Or.inl n_a1_x)
  have f34 := V6.other W22 n_HA_x
  have f35 := f18.other W22 n_FA_x
  have f36 := f19.wr W22
  have N22 := Fr.snoc X22 N6 g_x
  refine Goes.of st22 ?_
  show Goes p e below (T22.setTop (mkF m 20 #[.val (.ref a1), .val (.int (0 : Int32)), .val (.ref x)] [])) _
  have eh : T22.heap = h22 := e22
  exact Goes.retV X22 hx Bd.returns hlocks (hb hby d16_20) (⟨rfl, N22, by rw [eh]; exact K24, by rw [eh]; exact f26, by rw [eh]; exact f27, by rw [eh]; exact f28, by rw [eh]; exact f29, by rw [eh]; exact f30, by rw [eh]; exact f31, by rw [eh]; exact f32, by rw [eh]; exact f33, by rw [eh]; exact f34, by rw [eh]; exact f35, by rw [eh]; exact f36, by rw [eh]; exact f23⟩) (by decide) (by decide)
theorem ef_14 (m : MethodId) (x0 : Addr) : entryFrame m #[(.ref x0)] 3 = mkF m 0 #[.val (.ref x0), .unset, .unset] [] := by first | (simp [entryFrame, mkF, argsToLocals, Value.category]; done) | rfl
def Q14 (Z : State) (a1 : Addr) (HA : Addr) (FA : Addr) (x : Addr) (kH : ClassId) (kF : ClassId) (h0 : Heap) (n0 : Nat) (v : Option Value) (h : Heap) (L : List Loc) : Prop := v = none ∧ Fr n0 L ∧ Keep h0 h [a1, HA, FA, x] ∧ Exa Z h a1 "com/example/ripplematch/ripplematch/core/Agenda" ∧ Fld Z h a1 "com/example/ripplematch/ripplematch/core/Agenda" "heap" "[Lcom/example/ripplematch/ripplematch/core/Activation;" (.ref HA) ∧ Fld Z h a1 "com/example/ripplematch/ripplematch/core/Agenda" "heapSize" "I" (.int (1 : Int32)) ∧ Fld Z h a1 "com/example/ripplematch/ripplematch/core/Agenda" "gone" "I" (.int (0 : Int32)) ∧ Fld Z h a1 "com/example/ripplematch/ripplematch/core/Agenda" "disordered" "Z" (.int (0 : Int32)) ∧ Fld Z h a1 "com/example/ripplematch/ripplematch/core/Agenda" "fresh" "[Lcom/example/ripplematch/ripplematch/core/Activation;" (.ref FA) ∧ Fld Z h a1 "com/example/ripplematch/ripplematch/core/Agenda" "freshSize" "I" (.int (0 : Int32)) ∧ Fld Z h a1 "com/example/ripplematch/ripplematch/core/Agenda" "size" "I" (.int (1 : Int32)) ∧ Arv Z h HA kH (.object "com/example/ripplematch/ripplematch/core/Activation") (16 : Int32) [(.ref x), .null, .null, .null, .null, .null, .null, .null, .null, .null, .null, .null, .null, .null, .null, .null] .null ∧ Arv Z h FA kF (.object "com/example/ripplematch/ripplematch/core/Activation") (16 : Int32) [.null, .null, .null, .null, .null, .null, .null, .null, .null, .null, .null, .null, .null, .null, .null, .null] .null ∧ Exa Z h x "com/example/ripplematch/ripplematch/core/Activation" ∧ Fld Z h x "com/example/ripplematch/ripplematch/core/Activation" "place" "I" (.int (0 : Int32))
set_option maxRecDepth 65536 in
set_option maxHeartbeats 40000000 in
theorem rm14 (l : Launch) (Z : State) (a0 : Array Value) (hw : ∀ d ∈ tables_1, d.before a0 Z = true) (ws : List Jvm.Cond) (a1 : Addr) (HA : Addr) (FA : Addr) (x : Addr) (kH : ClassId) (kF : ClassId) (h0 : Heap) (n0 : Nat) (Z0 : n0 ≤ h0.size) (E : Exa Z h0 a1 "com/example/ripplematch/ripplematch/core/Agenda") (F_heap : Fld Z h0 a1 "com/example/ripplematch/ripplematch/core/Agenda" "heap" "[Lcom/example/ripplematch/ripplematch/core/Activation;" (.ref HA)) (F_heapSize : Fld Z h0 a1 "com/example/ripplematch/ripplematch/core/Agenda" "heapSize" "I" (.int (0 : Int32))) (F_gone : Fld Z h0 a1 "com/example/ripplematch/ripplematch/core/Agenda" "gone" "I" (.int (0 : Int32))) (F_disordered : Fld Z h0 a1 "com/example/ripplematch/ripplematch/core/Agenda" "disordered" "Z" (.int (0 : Int32))) (F_fresh : Fld Z h0 a1 "com/example/ripplematch/ripplematch/core/Agenda" "fresh" "[Lcom/example/ripplematch/ripplematch/core/Activation;" (.ref FA)) (F_freshSize : Fld Z h0 a1 "com/example/ripplematch/ripplematch/core/Agenda" "freshSize" "I" (.int (1 : Int32))) (F_size : Fld Z h0 a1 "com/example/ripplematch/ripplematch/core/Agenda" "size" "I" (.int (1 : Int32))) (VH : Arv Z h0 HA kH (.object "com/example/ripplematch/ripplematch/core/Activation") (16 : Int32) [.null, .null, .null, .null, .null, .null, .null, .null, .null, .null, .null, .null, .null, .null, .null, .null] .null) (VF : Arv Z h0 FA kF (.object "com/example/ripplematch/ripplematch/core/Activation") (16 : Int32) [(.ref x), .null, .null, .null, .null, .null, .null, .null, .null, .null, .null, .null, .null, .null, .null, .null] .null) (E_x : Exa Z h0 x "com/example/ripplematch/ripplematch/core/Activation") (P_x : Fld Z h0 x "com/example/ripplematch/ripplematch/core/Activation" "place" "I" (.int (-2 : Int32))) (g_a1 : n0 ≤ a1) (g_HA : n0 ≤ HA) (g_FA : n0 ≤ FA) (g_x : n0 ≤ x) (n_a1_HA : a1 ≠ HA) (n_a1_FA : a1 ≠ FA) (n_a1_x : a1 ≠ x) (n_HA_FA : HA ≠ FA) (n_HA_x : HA ≠ x) (n_FA_x : FA ≠ x) (OH : Ovr Z kH "com/example/ripplematch/ripplematch/core/Activation") (OF : Ovr Z kF "com/example/ripplematch/ripplematch/core/Activation") :
    MetFree l (⟨"com/example/ripplematch/ripplematch/core/Agenda", "rebuild", "()V"⟩ : MethodName) (head1 (Jvm.Cond.code (⟨"com/example/ripplematch/ripplematch/core/Agenda", "rebuild", "()V"⟩ : MethodName) prog_13_method_9_code 3 none :: ws) ({ frames := 1, cells := 0, slots := 0, locals := 14 } : Room)) (fun a U => a = #[(.ref a1)] ∧ Z.Warmed39 U.vm ∧ U.heap = h0) (fun _ _ _ _ _ => True) (fun _ U o U' => ∃ v L, o = .returned v ∧ Q14 Z a1 HA FA x kH kF h0 n0 v U'.heap L ∧ FrameEnd U o U' L ({ frames := 1, cells := 0, slots := 0, locals := 14 } : Room).cells ({ frames := 1, cells := 0, slots := 0, locals := 14 } : Room).slots) := by
  refine MetFree.of_bodySF (plainFor_of_name pn_0) hisR ?_
  intro p e s m args below meth c s₁ Bd hml0 hP hK
  obtain ⟨rfl, hZ, hh⟩ := hP
  have hx := Bd.exec
  have hby := Bd.bytes
  have hml : c.maxLocals = 3 := hml0
  have hown : s.vm.findClass "com/example/ripplematch/ripplematch/core/Agenda" = some m.cls := findClass_of_methodNamed Bd.named
  have hnm := (name_of_methodNamed Bd.named Bd.method).1
  have hlocks : meth.locks = false := BodyLoose.notSynchronized Bd
  have X0 : Stand p l e ({ frames := 1, cells := 0, slots := 0, locals := 14 } : Room) s m #[(.ref a1)] below meth c s₁ [] 0 0 := Stand.of_body Bd
  have e0 : s₁.heap = h0 := by rw [← hh, Bd.state]; rfl
  have N0 := Fr.nil n0
  show Goes p e below (s₁.setTop (entryFrame m #[(.ref a1)] 3)) (Fin s (Q14 Z a1 HA FA x kH kF h0 n0) ({ frames := 1, cells := 0, slots := 0, locals := 14 } : Room).cells ({ frames := 1, cells := 0, slots := 0, locals := 14 } : Room).slots)
  refine Goes.of (fun t k => castTop (ef_14 m a1) k) ?_
  have K0 : Keep h0 h0 [a1, HA, FA, x] := Keep.refl _ _
  show Goes p e below (s₁.setTop (mkF m 0 #[.val (.ref a1), .unset, .unset] [])) _
  refine Goes.of (fun t k => XS.aloadN X0.here hx rfl (hb hby d14_0) rfl rfl k) ?_
  show Goes p e below (s₁.setTop (mkF m 1 #[.val (.ref a1), .unset, .unset] [(.ref a1)])) _
  refine Goes.of (fun t k => XS.aloadN X0.here hx rfl (hb hby d14_1) rfl rfl k) ?_
  obtain ⟨T38, X38, e38, st38⟩ := getF X0 hx hZ hown (host := "") (Or.inl (wd hw 69 rfl)) Via.refl e0 F_size (g := (mkF m 2 #[.val (.ref a1), .unset, .unset] [(.ref a1), (.ref a1)])) rfl rfl (hb hby d14_2)
  refine Goes.of st38 ?_
  obtain ⟨cq39, q39, q39'⟩ := E.cell
  obtain ⟨_, _, ⟨T39, L39, k39, n39⟩, -, X39, ⟨Lc39, hQ39, l39, y39, z39⟩, st39⟩ := X38.privateBack hx (y := (⟨"com/example/ripplematch/ripplematch/core/Agenda", "grow", "(I)V"⟩ : MethodName)) hown (mvT hZ (wd hw 109 rfl)) (mvT hZ (wd hw 110 rfl)) (selPriv (Cond.privateMethod_at (mvP hZ (wd hw 111 rfl) (args := #[]))) (mvT hZ (wd hw 110 rfl)) (mvT hZ (wd hw 1 rfl)) (by decide)) (Cond.privateMethod_at (mvP hZ (wd hw 111 rfl) (args := #[]))) (mvT hZ (wd hw 112 rfl)) (by decide) (backOf (W := 0) (rm15 l Z a0 hw [] a1 HA FA x  _ _ h0 n0 Z0 E F_heap F_heapSize F_gone F_disordered F_fresh F_freshSize F_size VH VF E_x P_x g_a1 g_HA g_FA g_x n_a1_HA n_a1_FA n_a1_x n_HA_FA n_HA_x n_FA_x OH OF) hZ (wd hw 112 rfl) (wd hw 2 rfl) (by decide) (by decide)) (g := (mkF m 5 #[.val (.ref a1), .unset, .unset] [(.int (1 : Int32)), (.ref a1)])) rfl (by rw [hml]; rfl) (Steps.refl _) (a := a1) (by rw [e38]; exact q39) q39' (argsL := [(.int (1 : Int32))]) (rest := []) (lenOf pd_1 rfl) rfl (by show 2 * 0 + _ ≤ _; exact Nat.le_of_eq rfl) (hb hby d14_5) (fun _ _ => ⟨rfl, e38, (by decide : 0 + 0 ≤ _), (by decide : 0 + 0 ≤ _)⟩)
  dsimp only [Pt.U, Pt.locs, Pt.cells, Pt.slots] at X39 l39 y39 z39 st39 hQ39
  subst l39 y39 z39
  obtain ⟨rfl, N39q, K39, E_39, F_heap_39, F_heapSize_39, F_gone_39, F_disordered_39, F_fresh_39, F_freshSize_39, F_size_39, VH_39, VF_39, E_x_39, P_x_39⟩ := hQ39
  have N39 := Fr.app N0 N39q
  have K40 : Keep h0 T39.heap [a1, HA, FA, x] := K0.trans K39 all0
  have z41 : n0 ≤ T39.heap.size := Nat.le_trans Z0 K39.1
  have f42 := E.keep K39
  have f43 := F_heap.keep K39 nin0
  have f44 := F_heapSize.keep K39 nin0
  have f45 := F_gone.keep K39 nin0
  have f46 := F_disordered.keep K39 nin0
  have f47 := F_fresh.keep K39 nin0
  have f48 := F_freshSize.keep K39 nin0
  have f49 := F_size.keep K39 nin0
  have f50 := VH.keep K39 nin0
  have f51 := VF.keep K39 nin0
  have f52 := E_x.keep K39
  have f53 := P_x.keep K39 nin0
  refine Goes.of (fun t k => st39.trans k) ?_
  show Goes p e below (T39.setTop (mkF m 8 #[.val (.ref a1), .unset, .unset] [])) _
  refine Goes.of (fun t k => XS.iconst X39.here hx rfl (hb hby d14_8) k) ?_
  show Goes p e below (T39.setTop (mkF m 9 #[.val (.ref a1), .unset, .unset] [(.int (0 : Int32))])) _
  refine Goes.of (fun t k => XS.istoreN X39.here hx rfl (hb hby d14_9) rfl (l' := #[.val (.ref a1), .val (.int (0 : Int32)), .unset]) rfl k) ?_
  show Goes p e below (T39.setTop (mkF m 10 #[.val (.ref a1), .val (.int (0 : Int32)), .unset] [])) _
  refine Goes.of (fun t k => XS.iconst X39.here hx rfl (hb hby d14_10) k) ?_
  show Goes p e below (T39.setTop (mkF m 11 #[.val (.ref a1), .val (.int (0 : Int32)), .unset] [(.int (0 : Int32))])) _
  refine Goes.of (fun t k => XS.istoreN X39.here hx rfl (hb hby d14_11) rfl (l' := #[.val (.ref a1), .val (.int (0 : Int32)), .val (.int (0 : Int32))]) rfl k) ?_
  show Goes p e below (T39.setTop (mkF m 12 #[.val (.ref a1), .val (.int (0 : Int32)), .val (.int (0 : Int32))] [])) _
  refine Goes.of (fun t k => XS.iloadN X39.here hx rfl (hb hby d14_12) rfl k) ?_
  show Goes p e below (T39.setTop (mkF m 13 #[.val (.ref a1), .val (.int (0 : Int32)), .val (.int (0 : Int32))] [(.int (0 : Int32))])) _
  refine Goes.of (fun t k => XS.aloadN X39.here hx rfl (hb hby d14_13) rfl rfl k) ?_
  obtain ⟨T54, X54, e54, st54⟩ := getF X39 hx hZ hown (host := "") (Or.inl (wd hw 103 rfl)) Via.refl rfl F_heapSize_39 (g := (mkF m 14 #[.val (.ref a1), .val (.int (0 : Int32)), .val (.int (0 : Int32))] [(.ref a1), (.int (0 : Int32))])) rfl rfl (hb hby d14_14)
  refine Goes.of st54 ?_
  show Goes p e below (T54.setTop (mkF m 17 #[.val (.ref a1), .val (.int (0 : Int32)), .val (.int (0 : Int32))] [(.int (0 : Int32)), (.int (0 : Int32))])) _
  refine Goes.of (fun t k => XS.icmpYes X54.here hx rfl (pc0 := 17) (pc' := 54) rfl (hb hby d14_17) rfl (flt (by decide)).2.1 (by decide) (by decide) k) ?_
  show Goes p e below (T54.setTop (mkF m 54 #[.val (.ref a1), .val (.int (0 : Int32)), .val (.int (0 : Int32))] [])) _
  refine Goes.of (fun t k => XS.iconst X54.here hx rfl (hb hby d14_54) k) ?_
  show Goes p e below (T54.setTop (mkF m 55 #[.val (.ref a1), .val (.int (0 : Int32)), .val (.int (0 : Int32))] [(.int (0 : Int32))])) _
  refine Goes.of (fun t k => XS.istoreN X54.here hx rfl (hb hby d14_55) rfl (l' := #[.val (.ref a1), .val (.int (0 : Int32)), .val (.int (0 : Int32))]) rfl k) ?_
  show Goes p e below (T54.setTop (mkF m 56 #[.val (.ref a1), .val (.int (0 : Int32)), .val (.int (0 : Int32))] [])) _
  refine Goes.of (fun t k => XS.iloadN X54.here hx rfl (hb hby d14_56) rfl k) ?_
  show Goes p e below (T54.setTop (mkF m 57 #[.val (.ref a1), .val (.int (0 : Int32)), .val (.int (0 : Int32))] [(.int (0 : Int32))])) _
  refine Goes.of (fun t k => XS.aloadN X54.here hx rfl (hb hby d14_57) rfl rfl k) ?_
  obtain ⟨T55, X55, e55, st55⟩ := getF X54 hx hZ hown (host := "") (Or.inl (wd hw 82 rfl)) Via.refl e54 F_freshSize_39 (g := (mkF m 58 #[.val (.ref a1), .val (.int (0 : Int32)), .val (.int (0 : Int32))] [(.ref a1), (.int (0 : Int32))])) rfl rfl (hb hby d14_58)
  refine Goes.of st55 ?_
  show Goes p e below (T55.setTop (mkF m 61 #[.val (.ref a1), .val (.int (0 : Int32)), .val (.int (0 : Int32))] [(.int (1 : Int32)), (.int (0 : Int32))])) _
  refine Goes.of (fun t k => XS.icmpNo X55.here hx rfl (hb hby d14_61) rfl (tlt (by decide)).2.1 k) ?_
  show Goes p e below (T55.setTop (mkF m 64 #[.val (.ref a1), .val (.int (0 : Int32)), .val (.int (0 : Int32))] [])) _
  refine Goes.of (fun t k => XS.aloadN X55.here hx rfl (hb hby d14_64) rfl rfl k) ?_
  obtain ⟨T56, X56, e56, st56⟩ := getF X55 hx hZ hown (host := "") (Or.inl (wd hw 11 rfl)) Via.refl e55 F_heap_39 (g := (mkF m 65 #[.val (.ref a1), .val (.int (0 : Int32)), .val (.int (0 : Int32))] [(.ref a1)])) rfl rfl (hb hby d14_65)
  refine Goes.of st56 ?_
  show Goes p e below (T56.setTop (mkF m 68 #[.val (.ref a1), .val (.int (0 : Int32)), .val (.int (0 : Int32))] [(.ref HA)])) _
  refine Goes.of (fun t k => XS.iloadN X56.here hx rfl (hb hby d14_68) rfl k) ?_
  show Goes p e below (T56.setTop (mkF m 69 #[.val (.ref a1), .val (.int (0 : Int32)), .val (.int (0 : Int32))] [(.int (0 : Int32)), (.ref HA)])) _
  refine Goes.of (fun t k => XS.iinc X56.here hx rfl (hb hby d14_69) rfl (l' := #[.val (.ref a1), .val (.int (1 : Int32)), .val (.int (0 : Int32))]) rfl k) ?_
  show Goes p e below (T56.setTop (mkF m 72 #[.val (.ref a1), .val (.int (1 : Int32)), .val (.int (0 : Int32))] [(.int (0 : Int32)), (.ref HA)])) _
  refine Goes.of (fun t k => XS.aloadN X56.here hx rfl (hb hby d14_72) rfl rfl k) ?_
  obtain ⟨T57, X57, e57, st57⟩ := getF X56 hx hZ hown (host := "") (Or.inl (wd hw 13 rfl)) Via.refl e56 F_fresh_39 (g := (mkF m 73 #[.val (.ref a1), .val (.int (1 : Int32)), .val (.int (0 : Int32))] [(.ref a1), (.int (0 : Int32)), (.ref HA)])) rfl rfl (hb hby d14_73)
  refine Goes.of st57 ?_
  show Goes p e below (T57.setTop (mkF m 76 #[.val (.ref a1), .val (.int (1 : Int32)), .val (.int (0 : Int32))] [(.ref FA), (.int (0 : Int32)), (.ref HA)])) _
  refine Goes.of (fun t k => XS.iloadN X57.here hx rfl (hb hby d14_76) rfl k) ?_
  have Vc58 := VF_39
  obtain ⟨clc58, Arc58, qc58, Sc58, Nc58, Hc58, Gc58⟩ := Vc58
  have hin59 : ¬ ((0 : Int32) < 0 ∨ clc58.slots.size ≤ ((0 : Int32)).toNatClampNeg) := inb_of Sc58 ⟨by decide, by decide⟩
  have hat60 : clc58.slots[((0 : Int32)).toNatClampNeg]? = some (.ref x) := Hc58.at hin59 rfl
  refine Goes.of (fun t k => X57.aaload hx (j := (0 : Int32)) (v := (.ref x)) (by rw [e57]; exact Arc58.1) (State.isArrayOf_alike hZ.alike Arc58.2.1) rfl Arc58.2.2 hin59 hat60 (g := (mkF m 77 #[.val (.ref a1), .val (.int (1 : Int32)), .val (.int (0 : Int32))] [(.int (0 : Int32)), (.ref FA), (.int (0 : Int32)), (.ref HA)])) rfl rfl (hb hby d14_77) _ k) ?_
  have Vc61 := VH_39
  obtain ⟨clc61, Arc61, qc61, Sc61, Nc61, Hc61, Gc61⟩ := Vc61
  have hin62 : ¬ ((0 : Int32) < 0 ∨ clc61.slots.size ≤ ((0 : Int32)).toNatClampNeg) := inb_of Sc61 ⟨by decide, by decide⟩
  obtain ⟨T63, h63, X63, e63, W63, st63⟩ := stR X57 hx hZ e57 Arc61 (j := (0 : Int32)) hin62 rfl (Sto.ofV Arc61 qc61 OH (Ins.self E_x_39)) (g := (mkF m 78 #[.val (.ref a1), .val (.int (1 : Int32)), .val (.int (0 : Int32))] [(.ref x), (.int (0 : Int32)), (.ref HA)])) rfl rfl (hb hby d14_78)
  have V63 : Arv Z h63 HA kH (.object "com/example/ripplematch/ripplematch/core/Activation") (16 : Int32) [(.ref x), .null, .null, .null, .null, .null, .null, .null, .null, .null, .null, .null, .null, .null, .null, .null] .null := Arv.set Arc61 qc61 Sc61 Nc61 Hc61 Gc61 rfl W63 0 rfl (Nat.le_of_ble_eq_true rfl)
  have K64 : Keep h0 h63 [a1, HA, FA, x] := K40.wr W63 (Or.inl (List.mem_of_getElem? (i := 1) rfl))
  have z65 : n0 ≤ h63.size := Nat.le_trans z41 (Keep.of_wr W63).1
  have f66 := E_39.wr W63
  have f67 := F_heap_39.other W63 (Or.inl n_a1_HA)
  have f68 := F_heapSize_39.other W63 (Or.inl n_a1_HA)
  have f69 := F_gone_39.other W63 (Or.inl n_a1_HA)
  have f70 := F_disordered_39.other W63 (Or.inl n_a1_HA)
  have f71 := F_fresh_39.other W63 (Or.inl n_a1_HA)
  have f72 := F_freshSize_39.other W63 (Or.inl n_a1_HA)
  have f73 := F_size_39.other W63 (Or.inl n_a1_HA)
  have f75 := VF_39.other W63 (Ne.symm n_HA_FA)
  have f76 := E_x_39.wr W63
  have f77 := P_x_39.other W63 (Or.inl (Ne.symm n_HA_x))
  have N63 := Fr.snoc X63 N39 g_HA
  refine Goes.of st63 ?_
  show Goes p e below (T63.setTop (mkF m 79 #[.val (.ref a1), .val (.int (1 : Int32)), .val (.int (0 : Int32))] [])) _
  refine Goes.of (fun t k => XS.aloadN X63.here hx rfl (hb hby d14_79) rfl rfl k) ?_
  obtain ⟨T78, X78, e78, st78⟩ := getF X63 hx hZ hown (host := "") (Or.inl (wd hw 13 rfl)) Via.refl e63 f71 (g := (mkF m 80 #[.val (.ref a1), .val (.int (1 : Int32)), .val (.int (0 : Int32))] [(.ref a1)])) rfl rfl (hb hby d14_80)
  refine Goes.of st78 ?_
  show Goes p e below (T78.setTop (mkF m 83 #[.val (.ref a1), .val (.int (1 : Int32)), .val (.int (0 : Int32))] [(.ref FA)])) _
  refine Goes.of (fun t k => XS.iloadN X78.here hx rfl (hb hby d14_83) rfl k) ?_
  show Goes p e below (T78.setTop (mkF m 84 #[.val (.ref a1), .val (.int (1 : Int32)), .val (.int (0 : Int32))] [(.int (0 : Int32)), (.ref FA)])) _
  refine Goes.of (fun t k => XS.aconstNull X78.here hx rfl (hb hby d14_84) k) ?_
  have Vc79 := f75
  obtain ⟨clc79, Arc79, qc79, Sc79, Nc79, Hc79, Gc79⟩ := Vc79
  have hin80 : ¬ ((0 : Int32) < 0 ∨ clc79.slots.size ≤ ((0 : Int32)).toNatClampNeg) := inb_of Sc79 ⟨by decide, by decide⟩
  obtain ⟨T81, h81, X81, e81, W81, st81⟩ := stR X78 hx hZ e78 Arc79 (j := (0 : Int32)) hin80 rfl (Or.inl rfl) (g := (mkF m 85 #[.val (.ref a1), .val (.int (1 : Int32)), .val (.int (0 : Int32))] [.null, (.int (0 : Int32)), (.ref FA)])) rfl rfl (hb hby d14_85)
  have V81 : Arv Z h81 FA kF (.object "com/example/ripplematch/ripplematch/core/Activation") (16 : Int32) [.null, .null, .null, .null, .null, .null, .null, .null, .null, .null, .null, .null, .null, .null, .null, .null] .null := Arv.set Arc79 qc79 Sc79 Nc79 Hc79 Gc79 rfl W81 0 rfl (Nat.le_of_ble_eq_true rfl)
  have K82 : Keep h0 h81 [a1, HA, FA, x] := K64.wr W81 (Or.inl (List.mem_of_getElem? (i := 2) rfl))
  have z83 : n0 ≤ h81.size := Nat.le_trans z65 (Keep.of_wr W81).1
  have f84 := f66.wr W81
  have f85 := f67.other W81 (Or.inl n_a1_FA)
  have f86 := f68.other W81 (Or.inl n_a1_FA)
  have f87 := f69.other W81 (Or.inl n_a1_FA)
  have f88 := f70.other W81 (Or.inl n_a1_FA)
  have f89 := f71.other W81 (Or.inl n_a1_FA)
  have f90 := f72.other W81 (Or.inl n_a1_FA)
  have f91 := f73.other W81 (Or.inl n_a1_FA)
  have f92 := V63.other W81 n_HA_FA
  have f94 := f76.wr W81
  have f95 := f77.other W81 (Or.inl (Ne.symm n_FA_x))
  have N81 := Fr.snoc X81 N63 g_FA
  refine Goes.of st81 ?_
  show Goes p e below (T81.setTop (mkF m 86 #[.val (.ref a1), .val (.int (1 : Int32)), .val (.int (0 : Int32))] [])) _
  refine Goes.of (fun t k => XS.iinc X81.here hx rfl (hb hby d14_86) rfl (l' := #[.val (.ref a1), .val (.int (1 : Int32)), .val (.int (1 : Int32))]) rfl k) ?_
  show Goes p e below (T81.setTop (mkF m 89 #[.val (.ref a1), .val (.int (1 : Int32)), .val (.int (1 : Int32))] [])) _
  refine Goes.of (fun t k => XS.goto X81.here hx rfl (pc0 := 89) (pc' := 56) rfl (hb hby d14_89) (by decide) (by decide) k) ?_
  show Goes p e below (T81.setTop (mkF m 56 #[.val (.ref a1), .val (.int (1 : Int32)), .val (.int (1 : Int32))] [])) _
  refine Goes.of (fun t k => XS.iloadN X81.here hx rfl (hb hby d14_56) rfl k) ?_
  show Goes p e below (T81.setTop (mkF m 57 #[.val (.ref a1), .val (.int (1 : Int32)), .val (.int (1 : Int32))] [(.int (1 : Int32))])) _
  refine Goes.of (fun t k => XS.aloadN X81.here hx rfl (hb hby d14_57) rfl rfl k) ?_
  obtain ⟨T96, X96, e96, st96⟩ := getF X81 hx hZ hown (host := "") (Or.inl (wd hw 82 rfl)) Via.refl e81 f90 (g := (mkF m 58 #[.val (.ref a1), .val (.int (1 : Int32)), .val (.int (1 : Int32))] [(.ref a1), (.int (1 : Int32))])) rfl rfl (hb hby d14_58)
  refine Goes.of st96 ?_
  show Goes p e below (T96.setTop (mkF m 61 #[.val (.ref a1), .val (.int (1 : Int32)), .val (.int (1 : Int32))] [(.int (1 : Int32)), (.int (1 : Int32))])) _
  refine Goes.of (fun t k => XS.icmpYes X96.here hx rfl (pc0 := 61) (pc' := 92) rfl (hb hby d14_61) rfl (flt (by decide)).2.1 (by decide) (by decide) k) ?_
  show Goes p e below (T96.setTop (mkF m 92 #[.val (.ref a1), .val (.int (1 : Int32)), .val (.int (1 : Int32))] [])) _
  refine Goes.of (fun t k => XS.iloadN X96.here hx rfl (hb hby d14_92) rfl k) ?_
  show Goes p e below (T96.setTop (mkF m 93 #[.val (.ref a1), .val (.int (1 : Int32)), .val (.int (1 : Int32))] [(.int (1 : Int32))])) _
  refine Goes.of (fun t k => XS.aloadN X96.here hx rfl (hb hby d14_93) rfl rfl k) ?_
  obtain ⟨T97, X97, e97, st97⟩ := getF X96 hx hZ hown (host := "") (Or.inl (wd hw 103 rfl)) Via.refl e96 f86 (g := (mkF m 94 #[.val (.ref a1), .val (.int (1 : Int32)), .val (.int (1 : Int32))] [(.ref a1), (.int (1 : Int32))])) rfl rfl (hb hby d14_94)
  refine Goes.of st97 ?_
  show Goes p e below (T97.setTop (mkF m 97 #[.val (.ref a1), .val (.int (1 : Int32)), .val (.int (1 : Int32))] [(.int (0 : Int32)), (.int (1 : Int32))])) _
  refine Goes.of (fun t k => XS.icmpYes X97.here hx rfl (pc0 := 97) (pc' := 113) rfl (hb hby d14_97) rfl (flt (by decide)).2.1 (by decide) (by decide) k) ?_
  show Goes p e below (T97.setTop (mkF m 113 #[.val (.ref a1), .val (.int (1 : Int32)), .val (.int (1 : Int32))] [])) _
  refine Goes.of (fun t k => XS.aloadN X97.here hx rfl (hb hby d14_113) rfl rfl k) ?_
  show Goes p e below (T97.setTop (mkF m 114 #[.val (.ref a1), .val (.int (1 : Int32)), .val (.int (1 : Int32))] [(.ref a1)])) _
  refine Goes.of (fun t k => XS.iloadN X97.here hx rfl (hb hby d14_114) rfl k) ?_
  obtain ⟨T98, h98, X98, e98, W98, st98⟩ := putF X97 hx hZ hown (host := "") (Or.inl (wd hw 103 rfl)) Via.refl e97 f86 f84 (Or.inl (wd hw 104 rfl)) (wd hw 1 rfl) (ty := .int) (by decide) rfl rfl (g := (mkF m 115 #[.val (.ref a1), .val (.int (1 : Int32)), .val (.int (1 : Int32))] [(.int (1 : Int32)), (.ref a1)])) rfl rfl (hb hby d14_115)
  have f99 := f86.same W98
  have K100 : Keep h0 h98 [a1, HA, FA, x] := K82.wr W98 (Or.inl (List.mem_of_getElem? (i := 0) rfl))
  have z101 : n0 ≤ h98.size := Nat.le_trans z83 (Keep.of_wr W98).1
  have f102 := f84.wr W98
  have f103 := f85.other W98 (Or.inr (slot_ne (Or.inl (wd hw 12 rfl)) (Or.inl (wd hw 104 rfl)) (by decide) (t := (.array (.object "com/example/ripplematch/ripplematch/core/Activation"))) (t' := .int) (by decide) (by decide)))
  have f105 := f87.other W98 (Or.inr (slot_ne (Or.inl (wd hw 102 rfl)) (Or.inl (wd hw 104 rfl)) (by decide) (t := .int) (t' := .int) (by decide) (by decide)))
  have f106 := f88.other W98 (Or.inr (slot_ne (Or.inl (wd hw 100 rfl)) (Or.inl (wd hw 104 rfl)) (by decide) (t := .boolean) (t' := .int) (by decide) (by decide)))
  have f107 := f89.other W98 (Or.inr (slot_ne (Or.inl (wd hw 14 rfl)) (Or.inl (wd hw 104 rfl)) (by decide) (t := (.array (.object "com/example/ripplematch/ripplematch/core/Activation"))) (t' := .int) (by decide) (by decide)))
  have f108 := f90.other W98 (Or.inr (slot_ne (Or.inl (wd hw 83 rfl)) (Or.inl (wd hw 104 rfl)) (by decide) (t := .int) (t' := .int) (by decide) (by decide)))
  have f109 := f91.other W98 (Or.inr (slot_ne (Or.inl (wd hw 70 rfl)) (Or.inl (wd hw 104 rfl)) (by decide) (t := .int) (t' := .int) (by decide) (by decide)))
  have f110 := f92.other W98 (Ne.symm n_a1_HA)
  have f111 := V81.other W98 (Ne.symm n_a1_FA)
  have f112 := f94.wr W98
  have f113 := f95.other W98 (Or.inl (Ne.symm n_a1_x))
  have N98 := Fr.snoc X98 N81 g_a1
  refine Goes.of st98 ?_
  show Goes p e below (T98.setTop (mkF m 118 #[.val (.ref a1), .val (.int (1 : Int32)), .val (.int (1 : Int32))] [])) _
  refine Goes.of (fun t k => XS.aloadN X98.here hx rfl (hb hby d14_118) rfl rfl k) ?_
  show Goes p e below (T98.setTop (mkF m 119 #[.val (.ref a1), .val (.int (1 : Int32)), .val (.int (1 : Int32))] [(.ref a1)])) _
  refine Goes.of (fun t k => XS.iconst X98.here hx rfl (hb hby d14_119) k) ?_
  obtain ⟨T114, h114, X114, e114, W114, st114⟩ := putF X98 hx hZ hown (host := "") (Or.inl (wd hw 82 rfl)) Via.refl e98 f108 f102 (Or.inl (wd hw 83 rfl)) (wd hw 1 rfl) (ty := .int) (by decide) rfl rfl (g := (mkF m 120 #[.val (.ref a1), .val (.int (1 : Int32)), .val (.int (1 : Int32))] [(.int (0 : Int32)), (.ref a1)])) rfl rfl (hb hby d14_120)
  have f115 := f108.same W114
  have K116 : Keep h0 h114 [a1, HA, FA, x] := K100.wr W114 (Or.inl (List.mem_of_getElem? (i := 0) rfl))
  have z117 : n0 ≤ h114.size := Nat.le_trans z101 (Keep.of_wr W114).1
  have f118 := f102.wr W114
  have f119 := f103.other W114 (Or.inr (slot_ne (Or.inl (wd hw 12 rfl)) (Or.inl (wd hw 83 rfl)) (by decide) (t := (.array (.object "com/example/ripplematch/ripplematch/core/Activation"))) (t' := .int) (by decide) (by decide)))
  have f120 := f99.other W114 (Or.inr (slot_ne (Or.inl (wd hw 104 rfl)) (Or.inl (wd hw 83 rfl)) (by decide) (t := .int) (t' := .int) (by decide) (by decide)))
  have f121 := f105.other W114 (Or.inr (slot_ne (Or.inl (wd hw 102 rfl)) (Or.inl (wd hw 83 rfl)) (by decide) (t := .int) (t' := .int) (by decide) (by decide)))
  have f122 := f106.other W114 (Or.inr (slot_ne (Or.inl (wd hw 100 rfl)) (Or.inl (wd hw 83 rfl)) (by decide) (t := .boolean) (t' := .int) (by decide) (by decide)))
  have f123 := f107.other W114 (Or.inr (slot_ne (Or.inl (wd hw 14 rfl)) (Or.inl (wd hw 83 rfl)) (by decide) (t := (.array (.object "com/example/ripplematch/ripplematch/core/Activation"))) (t' := .int) (by decide) (by decide)))
  have f125 := f109.other W114 (Or.inr (slot_ne (Or.inl (wd hw 70 rfl)) (Or.inl (wd hw 83 rfl)) (by decide) (t := .int) (t' := .int) (by decide) (by decide)))
  have f126 := f110.other W114 (Ne.symm n_a1_HA)
  have f127 := f111.other W114 (Ne.symm n_a1_FA)
  have f128 := f112.wr W114
  have f129 := f113.other W114 (Or.inl (Ne.symm n_a1_x))
  have N114 := Fr.snoc X114 N98 g_a1
  refine Goes.of st114 ?_
  show Goes p e below (T114.setTop (mkF m 123 #[.val (.ref a1), .val (.int (1 : Int32)), .val (.int (1 : Int32))] [])) _
  refine Goes.of (fun t k => XS.aloadN X114.here hx rfl (hb hby d14_123) rfl rfl k) ?_
  show Goes p e below (T114.setTop (mkF m 124 #[.val (.ref a1), .val (.int (1 : Int32)), .val (.int (1 : Int32))] [(.ref a1)])) _
  refine Goes.of (fun t k => XS.iconst X114.here hx rfl (hb hby d14_124) k) ?_
  obtain ⟨T130, h130, X130, e130, W130, st130⟩ := putF X114 hx hZ hown (host := "") (Or.inl (wd hw 101 rfl)) Via.refl e114 f121 f118 (Or.inl (wd hw 102 rfl)) (wd hw 1 rfl) (ty := .int) (by decide) rfl rfl (g := (mkF m 125 #[.val (.ref a1), .val (.int (1 : Int32)), .val (.int (1 : Int32))] [(.int (0 : Int32)), (.ref a1)])) rfl rfl (hb hby d14_125)
  have f131 := f121.same W130
  have K132 : Keep h0 h130 [a1, HA, FA, x] := K116.wr W130 (Or.inl (List.mem_of_getElem? (i := 0) rfl))
  have z133 : n0 ≤ h130.size := Nat.le_trans z117 (Keep.of_wr W130).1
  have f134 := f118.wr W130
  have f135 := f119.other W130 (Or.inr (slot_ne (Or.inl (wd hw 12 rfl)) (Or.inl (wd hw 102 rfl)) (by decide) (t := (.array (.object "com/example/ripplematch/ripplematch/core/Activation"))) (t' := .int) (by decide) (by decide)))
  have f136 := f120.other W130 (Or.inr (slot_ne (Or.inl (wd hw 104 rfl)) (Or.inl (wd hw 102 rfl)) (by decide) (t := .int) (t' := .int) (by decide) (by decide)))
  have f138 := f122.other W130 (Or.inr (slot_ne (Or.inl (wd hw 100 rfl)) (Or.inl (wd hw 102 rfl)) (by decide) (t := .boolean) (t' := .int) (by decide) (by decide)))
  have f139 := f123.other W130 (Or.inr (slot_ne (Or.inl (wd hw 14 rfl)) (Or.inl (wd hw 102 rfl)) (by decide) (t := (.array (.object "com/example/ripplematch/ripplematch/core/Activation"))) (t' := .int) (by decide) (by decide)))
  have f140 := f115.other W130 (Or.inr (slot_ne (Or.inl (wd hw 83 rfl)) (Or.inl (wd hw 102 rfl)) (by decide) (t := .int) (t' := .int) (by decide) (by decide)))
  have f141 := f125.other W130 (Or.inr (slot_ne (Or.inl (wd hw 70 rfl)) (Or.inl (wd hw 102 rfl)) (by decide) (t := .int) (t' := .int) (by decide) (by decide)))
  have f142 := f126.other W130 (Ne.symm n_a1_HA)
  have f143 := f127.other W130 (Ne.symm n_a1_FA)
  have f144 := f128.wr W130
  have f145 := f129.other W130 (Or.inl (Ne.symm n_a1_x))
  have N130 := Fr.snoc X130 N114 g_a1
  refine Goes.of st130 ?_
  show Goes p e below (T130.setTop (mkF m 128 #[.val (.ref a1), .val (.int (1 : Int32)), .val (.int (1 : Int32))] [])) _
  refine Goes.of (fun t k => XS.aloadN X130.here hx rfl (hb hby d14_128) rfl rfl k) ?_
  show Goes p e below (T130.setTop (mkF m 129 #[.val (.ref a1), .val (.int (1 : Int32)), .val (.int (1 : Int32))] [(.ref a1)])) _
  refine Goes.of (fun t k => XS.iconst X130.here hx rfl (hb hby d14_129) k) ?_
  obtain ⟨T146, h146, X146, e146, W146, st146⟩ := putFN X130 hx hZ hown (wd hw 99 rfl) Via.refl e130 f138 f134 (Or.inl (wd hw 100 rfl)) (wd hw 1 rfl) (ty := .boolean) (v' := (.int (0 : Int32))) (by decide) rfl (by decide) (g := (mkF m 130 #[.val (.ref a1), .val (.int (1 : Int32)), .val (.int (1 : Int32))] [(.int (0 : Int32)), (.ref a1)])) rfl rfl (hb hby d14_130)
  have f147 := f138.same W146
  have K148 : Keep h0 h146 [a1, HA, FA, x] := K132.wr W146 (Or.inl (List.mem_of_getElem? (i := 0) rfl))
  have z149 : n0 ≤ h146.size := Nat.le_trans z133 (Keep.of_wr W146).1
  have f150 := f134.wr W146
  have f151 := f135.other W146 (Or.inr (slot_ne (Or.inl (wd hw 12 rfl)) (Or.inl (wd hw 100 rfl)) (by decide) (t := (.array (.object "com/example/ripplematch/ripplematch/core/Activation"))) (t' := .boolean) (by decide) (by decide)))
  have f152 := f136.other W146 (Or.inr (slot_ne (Or.inl (wd hw 104 rfl)) (Or.inl (wd hw 100 rfl)) (by decide) (t := .int) (t' := .boolean) (by decide) (by decide)))
  have f153 := f131.other W146 (Or.inr (slot_ne (Or.inl (wd hw 102 rfl)) (Or.inl (wd hw 100 rfl)) (by decide) (t := .int) (t' := .boolean) (by decide) (by decide)))
  have f155 := f139.other W146 (Or.inr (slot_ne (Or.inl (wd hw 14 rfl)) (Or.inl (wd hw 100 rfl)) (by decide) (t := (.array (.object "com/example/ripplematch/ripplematch/core/Activation"))) (t' := .boolean) (by decide) (by decide)))
  have f156 := f140.other W146 (Or.inr (slot_ne (Or.inl (wd hw 83 rfl)) (Or.inl (wd hw 100 rfl)) (by decide) (t := .int) (t' := .boolean) (by decide) (by decide)))
  have f157 := f141.other W146 (Or.inr (slot_ne (Or.inl (wd hw 70 rfl)) (Or.inl (wd hw 100 rfl)) (by decide) (t := .int) (t' := .boolean) (by decide) (by decide)))
  have f158 := f142.other W146 (Ne.symm n_a1_HA)
  have f159 := f143.other W146 (Ne.symm n_a1_FA)
  have f160 := f144.wr W146
  have f161 := f145.other W146 (Or.inl (Ne.symm n_a1_x))
  have N146 := Fr.snoc X146 N130 g_a1
  refine Goes.of st146 ?_
  show Goes p e below (T146.setTop (mkF m 133 #[.val (.ref a1), .val (.int (1 : Int32)), .val (.int (1 : Int32))] [])) _
  refine Goes.of (fun t k => XS.aloadN X146.here hx rfl (hb hby d14_133) rfl rfl k) ?_
  obtain ⟨T162, X162, e162, st162⟩ := getF X146 hx hZ hown (host := "") (Or.inl (wd hw 103 rfl)) Via.refl e146 f152 (g := (mkF m 134 #[.val (.ref a1), .val (.int (1 : Int32)), .val (.int (1 : Int32))] [(.ref a1)])) rfl rfl (hb hby d14_134)
  refine Goes.of st162 ?_
  show Goes p e below (T162.setTop (mkF m 137 #[.val (.ref a1), .val (.int (1 : Int32)), .val (.int (1 : Int32))] [(.int (1 : Int32))])) _
  refine Goes.of (fun t k => XS.iconst X162.here hx rfl (hb hby d14_137) k) ?_
  show Goes p e below (T162.setTop (mkF m 138 #[.val (.ref a1), .val (.int (1 : Int32)), .val (.int (1 : Int32))] [(.int (1 : Int32)), (.int (1 : Int32))])) _
  refine Goes.of (fun t k => XS.isub X162.here hx rfl (hb hby d14_138) rfl k) ?_
  show Goes p e below (T162.setTop (mkF m 139 #[.val (.ref a1), .val (.int (1 : Int32)), .val (.int (1 : Int32))] [(.int (0 : Int32))])) _
  refine Goes.of (fun t k => XS.istoreN X162.here hx rfl (hb hby d14_139) rfl (l' := #[.val (.ref a1), .val (.int (1 : Int32)), .val (.int (0 : Int32))]) rfl k) ?_
  show Goes p e below (T162.setTop (mkF m 140 #[.val (.ref a1), .val (.int (1 : Int32)), .val (.int (0 : Int32))] [])) _
  refine Goes.of (fun t k => XS.iloadN X162.here hx rfl (hb hby d14_140) rfl k) ?_
  show Goes p e below (T162.setTop (mkF m 141 #[.val (.ref a1), .val (.int (1 : Int32)), .val (.int (0 : Int32))] [(.int (0 : Int32))])) _
  refine Goes.of (fun t k => XS.ifNo X162.here hx rfl (hb hby d14_141) rfl ((if0 _ _).trans (flt (by decide)).1) k) ?_
  show Goes p e below (T162.setTop (mkF m 144 #[.val (.ref a1), .val (.int (1 : Int32)), .val (.int (0 : Int32))] [])) _
  refine Goes.of (fun t k => XS.aloadN X162.here hx rfl (hb hby d14_144) rfl rfl k) ?_
  show Goes p e below (T162.setTop (mkF m 145 #[.val (.ref a1), .val (.int (1 : Int32)), .val (.int (0 : Int32))] [(.ref a1)])) _
  refine Goes.of (fun t k => XS.iloadN X162.here hx rfl (hb hby d14_145) rfl k) ?_
  show Goes p e below (T162.setTop (mkF m 146 #[.val (.ref a1), .val (.int (1 : Int32)), .val (.int (0 : Int32))] [(.int (0 : Int32)), (.ref a1)])) _
  refine Goes.of (fun t k => XS.aloadN X162.here hx rfl (hb hby d14_146) rfl rfl k) ?_
  obtain ⟨T163, X163, e163, st163⟩ := getF X162 hx hZ hown (host := "") (Or.inl (wd hw 11 rfl)) Via.refl e162 f151 (g := (mkF m 147 #[.val (.ref a1), .val (.int (1 : Int32)), .val (.int (0 : Int32))] [(.ref a1), (.int (0 : Int32)), (.ref a1)])) rfl rfl (hb hby d14_147)
  refine Goes.of st163 ?_
  show Goes p e below (T163.setTop (mkF m 150 #[.val (.ref a1), .val (.int (1 : Int32)), .val (.int (0 : Int32))] [(.ref HA), (.int (0 : Int32)), (.ref a1)])) _
  refine Goes.of (fun t k => XS.iloadN X163.here hx rfl (hb hby d14_150) rfl k) ?_
  have Vc164 := f158
  obtain ⟨clc164, Arc164, qc164, Sc164, Nc164, Hc164, Gc164⟩ := Vc164
  have hin165 : ¬ ((0 : Int32) < 0 ∨ clc164.slots.size ≤ ((0 : Int32)).toNatClampNeg) := inb_of Sc164 ⟨by decide, by decide⟩
  have hat166 : clc164.slots[((0 : Int32)).toNatClampNeg]? = some (.ref x) := Hc164.at hin165 rfl
  refine Goes.of (fun t k => X163.aaload hx (j := (0 : Int32)) (v := (.ref x)) (by rw [e163]; exact Arc164.1) (State.isArrayOf_alike hZ.alike Arc164.2.1) rfl Arc164.2.2 hin165 hat166 (g := (mkF m 151 #[.val (.ref a1), .val (.int (1 : Int32)), .val (.int (0 : Int32))] [(.int (0 : Int32)), (.ref HA), (.int (0 : Int32)), (.ref a1)])) rfl rfl (hb hby d14_151) _ k) ?_
  obtain ⟨cq167, q167, q167'⟩ := f150.cell
  obtain ⟨_, _, ⟨T167, L167, k167, n167⟩, -, X167, ⟨Lc167, hQ167, l167, y167, z167⟩, st167⟩ := X163.privateBack hx (y := (⟨"com/example/ripplematch/ripplematch/core/Agenda", "set", "(ILcom/example/ripplematch/ripplematch/core/Activation;)V"⟩ : MethodName)) hown (mvT hZ (wd hw 113 rfl)) (mvT hZ (wd hw 114 rfl)) (selPriv (Cond.privateMethod_at (mvP hZ (wd hw 115 rfl) (args := #[]))) (mvT hZ (wd hw 114 rfl)) (mvT hZ (wd hw 1 rfl)) (by decide)) (Cond.privateMethod_at (mvP hZ (wd hw 115 rfl) (args := #[]))) (mvT hZ (wd hw 116 rfl)) (by decide) (backOf (W := 0) (rm16 l Z a0 hw [] a1 x HA FA  _ _ h146 n0 z149 f150 f151 f152 f153 f147 f155 f156 f157 f158 f159 f160 f161 g_a1 g_HA g_FA g_x n_a1_HA n_a1_FA n_a1_x n_HA_FA n_HA_x n_FA_x OH OF) hZ (wd hw 116 rfl) (wd hw 2 rfl) (by decide) (by decide)) (g := (mkF m 152 #[.val (.ref a1), .val (.int (1 : Int32)), .val (.int (0 : Int32))] [(.ref x), (.int (0 : Int32)), (.ref a1)])) rfl (by rw [hml]; rfl) (Steps.refl _) (a := a1) (by rw [e163]; exact q167) q167' (argsL := [(.int (0 : Int32)), (.ref x)]) (rest := []) (lenOf pd_2 rfl) rfl (by show 2 * 0 + _ ≤ _; exact Nat.le_of_eq rfl) (hb hby d14_152) (fun _ _ => ⟨rfl, e163, (by decide : 0 + 0 ≤ _), (by decide : 0 + 0 ≤ _)⟩)
  dsimp only [Pt.U, Pt.locs, Pt.cells, Pt.slots] at X167 l167 y167 z167 st167 hQ167
  subst l167 y167 z167
  obtain ⟨rfl, N167q, K167, E_167, F_heap_167, F_heapSize_167, F_gone_167, F_disordered_167, F_fresh_167, F_freshSize_167, F_size_167, VH_167, VF_167, E_x_167, P_x_167⟩ := hQ167
  have N167 := Fr.app N146 N167q
  have K168 : Keep h0 T167.heap [a1, HA, FA, x] := K148.trans K167 (allS (Or.inl (List.mem_of_getElem? (i := 0) rfl)) (allS (Or.inl (List.mem_of_getElem? (i := 1) rfl)) (allS (Or.inl (List.mem_of_getElem? (i := 3) rfl)) all0)))
  have z169 : n0 ≤ T167.heap.size := Nat.le_trans z149 K167.1
  have f170 := f150.keep K167
  have f179 := f159.keep K167 (ninS (Ne.symm n_a1_FA) (ninS (Ne.symm n_HA_FA) (ninS n_FA_x nin0)))
  have f180 := f160.keep K167
  refine Goes.of (fun t k => st167.trans k) ?_
  show Goes p e below (T167.setTop (mkF m 155 #[.val (.ref a1), .val (.int (1 : Int32)), .val (.int (0 : Int32))] [])) _
  refine Goes.of (fun t k => XS.iinc X167.here hx rfl (hb hby d14_155) rfl (l' := #[.val (.ref a1), .val (.int (1 : Int32)), .val (.int (-1 : Int32))]) rfl k) ?_
  show Goes p e below (T167.setTop (mkF m 158 #[.val (.ref a1), .val (.int (1 : Int32)), .val (.int (-1 : Int32))] [])) _
  refine Goes.of (fun t k => XS.goto X167.here hx rfl (pc0 := 158) (pc' := 140) rfl (hb hby d14_158) (by decide) (by decide) k) ?_
  show Goes p e below (T167.setTop (mkF m 140 #[.val (.ref a1), .val (.int (1 : Int32)), .val (.int (-1 : Int32))] [])) _
  refine Goes.of (fun t k => XS.iloadN X167.here hx rfl (hb hby d14_140) rfl k) ?_
  show Goes p e below (T167.setTop (mkF m 141 #[.val (.ref a1), .val (.int (1 : Int32)), .val (.int (-1 : Int32))] [(.int (-1 : Int32))])) _
  refine Goes.of (fun t k => XS.ifYes X167.here hx rfl (pc0 := 141) (pc' := 161) rfl (hb hby d14_141) rfl ((if0 _ _).trans (tlt (by decide)).1) (by decide) (by decide) k) ?_
  show Goes p e below (T167.setTop (mkF m 161 #[.val (.ref a1), .val (.int (1 : Int32)), .val (.int (-1 : Int32))] [])) _
  refine Goes.of (fun t k => XS.aloadN X167.here hx rfl (hb hby d14_161) rfl rfl k) ?_
  obtain ⟨T182, X182, e182, st182⟩ := getF X167 hx hZ hown (host := "") (Or.inl (wd hw 103 rfl)) Via.refl rfl F_heapSize_167 (g := (mkF m 162 #[.val (.ref a1), .val (.int (1 : Int32)), .val (.int (-1 : Int32))] [(.ref a1)])) rfl rfl (hb hby d14_162)
  refine Goes.of st182 ?_
  show Goes p e below (T182.setTop (mkF m 165 #[.val (.ref a1), .val (.int (1 : Int32)), .val (.int (-1 : Int32))] [(.int (1 : Int32))])) _
  refine Goes.of (fun t k => XS.iconst X182.here hx rfl (hb hby d14_165) k) ?_
  show Goes p e below (T182.setTop (mkF m 166 #[.val (.ref a1), .val (.int (1 : Int32)), .val (.int (-1 : Int32))] [(.int (2 : Int32)), (.int (1 : Int32))])) _
  refine Goes.of (fun t k => XS.idiv X182.here hx rfl (hb hby d14_166) rfl (by decide) k) ?_
  show Goes p e below (T182.setTop (mkF m 167 #[.val (.ref a1), .val (.int (1 : Int32)), .val (.int (-1 : Int32))] [(.int ((1 : Int32) / (2 : Int32)))])) _
  refine Goes.of (fun t k => XS.iconst X182.here hx rfl (hb hby d14_167) k) ?_
  show Goes p e below (T182.setTop (mkF m 168 #[.val (.ref a1), .val (.int (1 : Int32)), .val (.int (-1 : Int32))] [(.int (1 : Int32)), (.int ((1 : Int32) / (2 : Int32)))])) _
  refine Goes.of (fun t k => XS.isub X182.here hx rfl (hb hby d14_168) rfl k) ?_
  show Goes p e below (T182.setTop (mkF m 169 #[.val (.ref a1), .val (.int (1 : Int32)), .val (.int (-1 : Int32))] [(.int (((1 : Int32) / (2 : Int32)) - (1 : Int32)))])) _
  refine Goes.of (fun t k => XS.istoreN X182.here hx rfl (hb hby d14_169) rfl (l' := #[.val (.ref a1), .val (.int (1 : Int32)), .val (.int (((1 : Int32) / (2 : Int32)) - (1 : Int32)))]) rfl k) ?_
  show Goes p e below (T182.setTop (mkF m 170 #[.val (.ref a1), .val (.int (1 : Int32)), .val (.int (((1 : Int32) / (2 : Int32)) - (1 : Int32)))] [])) _
  refine Goes.of (fun t k => XS.iloadN X182.here hx rfl (hb hby d14_170) rfl k) ?_
  show Goes p e below (T182.setTop (mkF m 171 #[.val (.ref a1), .val (.int (1 : Int32)), .val (.int (((1 : Int32) / (2 : Int32)) - (1 : Int32)))] [(.int (((1 : Int32) / (2 : Int32)) - (1 : Int32)))])) _
  have hd171_183 : (((1 : Int32) / (2 : Int32)) - (1 : Int32)) < (0 : Int32) := by decide
  refine Goes.of (fun t k => XS.ifYes X182.here hx rfl (pc0 := 171) (pc' := 191) rfl (hb hby d14_171) rfl ((if0 _ _).trans (tlt hd171_183).1) (by decide) (by decide) k) ?_
  show Goes p e below (T182.setTop (mkF m 191 #[.val (.ref a1), .val (.int (1 : Int32)), .val (.int (((1 : Int32) / (2 : Int32)) - (1 : Int32)))] [])) _
  have eh : T182.heap = T167.heap := e182
  exact Goes.retV X182 hx Bd.returns hlocks (hb hby d14_191) (⟨rfl, N167, by rw [eh]; exact K168, by rw [eh]; exact E_167, by rw [eh]; exact F_heap_167, by rw [eh]; exact F_heapSize_167, by rw [eh]; exact F_gone_167, by rw [eh]; exact F_disordered_167, by rw [eh]; exact F_fresh_167, by rw [eh]; exact F_freshSize_167, by rw [eh]; exact F_size_167, by rw [eh]; exact VH_167, by rw [eh]; exact VF_167, by rw [eh]; exact E_x_167, by rw [eh]; exact P_x_167⟩) (by decide) (by decide)
theorem ef_13 (m : MethodId) (x0 : Addr) : entryFrame m #[(.ref x0)] 2 = mkF m 0 #[.val (.ref x0), .unset] [] := by first | (simp [entryFrame, mkF, argsToLocals, Value.category]; done) | rfl
def Q13 (Z : State) (a1 : Addr) (HA : Addr) (FA : Addr) (x : Addr) (kH : ClassId) (kF : ClassId) (h0 : Heap) (n0 : Nat) (v : Option Value) (h : Heap) (L : List Loc) : Prop := v = none ∧ Fr n0 L ∧ Keep h0 h [a1, HA, FA, x] ∧ Exa Z h a1 "com/example/ripplematch/ripplematch/core/Agenda" ∧ Fld Z h a1 "com/example/ripplematch/ripplematch/core/Agenda" "heap" "[Lcom/example/ripplematch/ripplematch/core/Activation;" (.ref HA) ∧ Fld Z h a1 "com/example/ripplematch/ripplematch/core/Agenda" "heapSize" "I" (.int (1 : Int32)) ∧ Fld Z h a1 "com/example/ripplematch/ripplematch/core/Agenda" "gone" "I" (.int (0 : Int32)) ∧ Fld Z h a1 "com/example/ripplematch/ripplematch/core/Agenda" "disordered" "Z" (.int (0 : Int32)) ∧ Fld Z h a1 "com/example/ripplematch/ripplematch/core/Agenda" "fresh" "[Lcom/example/ripplematch/ripplematch/core/Activation;" (.ref FA) ∧ Fld Z h a1 "com/example/ripplematch/ripplematch/core/Agenda" "freshSize" "I" (.int (0 : Int32)) ∧ Fld Z h a1 "com/example/ripplematch/ripplematch/core/Agenda" "size" "I" (.int (1 : Int32)) ∧ Arv Z h HA kH (.object "com/example/ripplematch/ripplematch/core/Activation") (16 : Int32) [(.ref x), .null, .null, .null, .null, .null, .null, .null, .null, .null, .null, .null, .null, .null, .null, .null] .null ∧ Arv Z h FA kF (.object "com/example/ripplematch/ripplematch/core/Activation") (16 : Int32) [.null, .null, .null, .null, .null, .null, .null, .null, .null, .null, .null, .null, .null, .null, .null, .null] .null ∧ Exa Z h x "com/example/ripplematch/ripplematch/core/Activation" ∧ Fld Z h x "com/example/ripplematch/ripplematch/core/Activation" "place" "I" (.int (0 : Int32))
set_option maxRecDepth 65536 in
set_option maxHeartbeats 40000000 in
theorem rm13 (l : Launch) (Z : State) (a0 : Array Value) (hw : ∀ d ∈ tables_1, d.before a0 Z = true) (ws : List Jvm.Cond) (a1 : Addr) (HA : Addr) (FA : Addr) (x : Addr) (kH : ClassId) (kF : ClassId) (h0 : Heap) (n0 : Nat) (Z0 : n0 ≤ h0.size) (E : Exa Z h0 a1 "com/example/ripplematch/ripplematch/core/Agenda") (F_heap : Fld Z h0 a1 "com/example/ripplematch/ripplematch/core/Agenda" "heap" "[Lcom/example/ripplematch/ripplematch/core/Activation;" (.ref HA)) (F_heapSize : Fld Z h0 a1 "com/example/ripplematch/ripplematch/core/Agenda" "heapSize" "I" (.int (0 : Int32))) (F_gone : Fld Z h0 a1 "com/example/ripplematch/ripplematch/core/Agenda" "gone" "I" (.int (0 : Int32))) (F_disordered : Fld Z h0 a1 "com/example/ripplematch/ripplematch/core/Agenda" "disordered" "Z" (.int (0 : Int32))) (F_fresh : Fld Z h0 a1 "com/example/ripplematch/ripplematch/core/Agenda" "fresh" "[Lcom/example/ripplematch/ripplematch/core/Activation;" (.ref FA)) (F_freshSize : Fld Z h0 a1 "com/example/ripplematch/ripplematch/core/Agenda" "freshSize" "I" (.int (1 : Int32))) (F_size : Fld Z h0 a1 "com/example/ripplematch/ripplematch/core/Agenda" "size" "I" (.int (1 : Int32))) (VH : Arv Z h0 HA kH (.object "com/example/ripplematch/ripplematch/core/Activation") (16 : Int32) [.null, .null, .null, .null, .null, .null, .null, .null, .null, .null, .null, .null, .null, .null, .null, .null] .null) (VF : Arv Z h0 FA kF (.object "com/example/ripplematch/ripplematch/core/Activation") (16 : Int32) [(.ref x), .null, .null, .null, .null, .null, .null, .null, .null, .null, .null, .null, .null, .null, .null, .null] .null) (E_x : Exa Z h0 x "com/example/ripplematch/ripplematch/core/Activation") (P_x : Fld Z h0 x "com/example/ripplematch/ripplematch/core/Activation" "place" "I" (.int (-2 : Int32))) (g_a1 : n0 ≤ a1) (g_HA : n0 ≤ HA) (g_FA : n0 ≤ FA) (g_x : n0 ≤ x) (n_a1_HA : a1 ≠ HA) (n_a1_FA : a1 ≠ FA) (n_a1_x : a1 ≠ x) (n_HA_FA : HA ≠ FA) (n_HA_x : HA ≠ x) (n_FA_x : FA ≠ x) (OH : Ovr Z kH "com/example/ripplematch/ripplematch/core/Activation") (OF : Ovr Z kF "com/example/ripplematch/ripplematch/core/Activation") :
    MetFree l (⟨"com/example/ripplematch/ripplematch/core/Agenda", "order", "()V"⟩ : MethodName) (head1 (Jvm.Cond.code (⟨"com/example/ripplematch/ripplematch/core/Agenda", "order", "()V"⟩ : MethodName) prog_13_method_8_code 2 none :: ws) ({ frames := 2, cells := 0, slots := 0, locals := 28 } : Room)) (fun a U => a = #[(.ref a1)] ∧ Z.Warmed39 U.vm ∧ U.heap = h0) (fun _ _ _ _ _ => True) (fun _ U o U' => ∃ v L, o = .returned v ∧ Q13 Z a1 HA FA x kH kF h0 n0 v U'.heap L ∧ FrameEnd U o U' L ({ frames := 2, cells := 0, slots := 0, locals := 28 } : Room).cells ({ frames := 2, cells := 0, slots := 0, locals := 28 } : Room).slots) := by
  refine MetFree.of_bodySF (plainFor_of_name pn_0) hisR ?_
  intro p e s m args below meth c s₁ Bd hml0 hP hK
  obtain ⟨rfl, hZ, hh⟩ := hP
  have hx := Bd.exec
  have hby := Bd.bytes
  have hml : c.maxLocals = 2 := hml0
  have hown : s.vm.findClass "com/example/ripplematch/ripplematch/core/Agenda" = some m.cls := findClass_of_methodNamed Bd.named
  have hnm := (name_of_methodNamed Bd.named Bd.method).1
  have hlocks : meth.locks = false := BodyLoose.notSynchronized Bd
  have X0 : Stand p l e ({ frames := 2, cells := 0, slots := 0, locals := 28 } : Room) s m #[(.ref a1)] below meth c s₁ [] 0 0 := Stand.of_body Bd
  have e0 : s₁.heap = h0 := by rw [← hh, Bd.state]; rfl
  have N0 := Fr.nil n0
  show Goes p e below (s₁.setTop (entryFrame m #[(.ref a1)] 2)) (Fin s (Q13 Z a1 HA FA x kH kF h0 n0) ({ frames := 2, cells := 0, slots := 0, locals := 28 } : Room).cells ({ frames := 2, cells := 0, slots := 0, locals := 28 } : Room).slots)
  refine Goes.of (fun t k => castTop (ef_13 m a1) k) ?_
  have K0 : Keep h0 h0 [a1, HA, FA, x] := Keep.refl _ _
  show Goes p e below (s₁.setTop (mkF m 0 #[.val (.ref a1), .unset] [])) _
  refine Goes.of (fun t k => XS.aloadN X0.here hx rfl (hb hby d13_0) rfl rfl k) ?_
  obtain ⟨T184, X184, e184, st184⟩ := getF X0 hx hZ hown (host := "") (Or.inl (wd hw 99 rfl)) Via.refl e0 F_disordered (g := (mkF m 1 #[.val (.ref a1), .unset] [(.ref a1)])) rfl rfl (hb hby d13_1)
  refine Goes.of st184 ?_
  show Goes p e below (T184.setTop (mkF m 4 #[.val (.ref a1), .unset] [(.int (0 : Int32))])) _
  refine Goes.of (fun t k => XS.ifNo X184.here hx rfl (hb hby d13_4) rfl ((if0 _ _).trans (teq (by decide)).2) k) ?_
  show Goes p e below (T184.setTop (mkF m 7 #[.val (.ref a1), .unset] [])) _
  refine Goes.of (fun t k => XS.iconst X184.here hx rfl (hb hby d13_7) k) ?_
  show Goes p e below (T184.setTop (mkF m 8 #[.val (.ref a1), .unset] [(.int (2 : Int32))])) _
  refine Goes.of (fun t k => XS.aloadN X184.here hx rfl (hb hby d13_8) rfl rfl k) ?_
  obtain ⟨T185, X185, e185, st185⟩ := getF X184 hx hZ hown (host := "") (Or.inl (wd hw 101 rfl)) Via.refl e184 F_gone (g := (mkF m 9 #[.val (.ref a1), .unset] [(.ref a1), (.int (2 : Int32))])) rfl rfl (hb hby d13_9)
  refine Goes.of st185 ?_
  show Goes p e below (T185.setTop (mkF m 12 #[.val (.ref a1), .unset] [(.int (0 : Int32)), (.int (2 : Int32))])) _
  refine Goes.of (fun t k => XS.imul X185.here hx rfl (hb hby d13_12) rfl k) ?_
  show Goes p e below (T185.setTop (mkF m 13 #[.val (.ref a1), .unset] [(.int (0 : Int32))])) _
  refine Goes.of (fun t k => XS.aloadN X185.here hx rfl (hb hby d13_13) rfl rfl k) ?_
  obtain ⟨T186, X186, e186, st186⟩ := getF X185 hx hZ hown (host := "") (Or.inl (wd hw 103 rfl)) Via.refl e185 F_heapSize (g := (mkF m 14 #[.val (.ref a1), .unset] [(.ref a1), (.int (0 : Int32))])) rfl rfl (hb hby d13_14)
  refine Goes.of st186 ?_
  show Goes p e below (T186.setTop (mkF m 17 #[.val (.ref a1), .unset] [(.int (0 : Int32)), (.int (0 : Int32))])) _
  refine Goes.of (fun t k => XS.icmpNo X186.here hx rfl (hb hby d13_17) rfl (flt (by decide)).2.2.1 k) ?_
  show Goes p e below (T186.setTop (mkF m 20 #[.val (.ref a1), .unset] [])) _
  refine Goes.of (fun t k => XS.bipush X186.here hx rfl (hb hby d13_20) k) ?_
  show Goes p e below (T186.setTop (mkF m 22 #[.val (.ref a1), .unset] [(.int (8 : Int32))])) _
  refine Goes.of (fun t k => XS.aloadN X186.here hx rfl (hb hby d13_22) rfl rfl k) ?_
  obtain ⟨T187, X187, e187, st187⟩ := getF X186 hx hZ hown (host := "") (Or.inl (wd hw 82 rfl)) Via.refl e186 F_freshSize (g := (mkF m 23 #[.val (.ref a1), .unset] [(.ref a1), (.int (8 : Int32))])) rfl rfl (hb hby d13_23)
  refine Goes.of st187 ?_
  show Goes p e below (T187.setTop (mkF m 26 #[.val (.ref a1), .unset] [(.int (1 : Int32)), (.int (8 : Int32))])) _
  refine Goes.of (fun t k => XS.imul X187.here hx rfl (hb hby d13_26) rfl k) ?_
  show Goes p e below (T187.setTop (mkF m 27 #[.val (.ref a1), .unset] [(.int (8 : Int32))])) _
  refine Goes.of (fun t k => XS.aloadN X187.here hx rfl (hb hby d13_27) rfl rfl k) ?_
  obtain ⟨T188, X188, e188, st188⟩ := getF X187 hx hZ hown (host := "") (Or.inl (wd hw 103 rfl)) Via.refl e187 F_heapSize (g := (mkF m 28 #[.val (.ref a1), .unset] [(.ref a1), (.int (8 : Int32))])) rfl rfl (hb hby d13_28)
  refine Goes.of st188 ?_
  show Goes p e below (T188.setTop (mkF m 31 #[.val (.ref a1), .unset] [(.int (0 : Int32)), (.int (8 : Int32))])) _
  refine Goes.of (fun t k => XS.icmpNo X188.here hx rfl (hb hby d13_31) rfl (tlt (by decide)).2.2.2 k) ?_
  show Goes p e below (T188.setTop (mkF m 34 #[.val (.ref a1), .unset] [])) _
  refine Goes.of (fun t k => XS.aloadN X188.here hx rfl (hb hby d13_34) rfl rfl k) ?_
  obtain ⟨cq189, q189, q189'⟩ := E.cell
  obtain ⟨_, _, ⟨T189, L189, k189, n189⟩, -, X189, ⟨Lc189, hQ189, l189, y189, z189⟩, st189⟩ := X188.privateBack hx (y := (⟨"com/example/ripplematch/ripplematch/core/Agenda", "rebuild", "()V"⟩ : MethodName)) hown (mvT hZ (wd hw 105 rfl)) (mvT hZ (wd hw 106 rfl)) (selPriv (Cond.privateMethod_at (mvP hZ (wd hw 107 rfl) (args := #[]))) (mvT hZ (wd hw 106 rfl)) (mvT hZ (wd hw 1 rfl)) (by decide)) (Cond.privateMethod_at (mvP hZ (wd hw 107 rfl) (args := #[]))) (mvT hZ (wd hw 108 rfl)) (by decide) (backOf (W := 0) (rm14 l Z a0 hw [] a1 HA FA x  _ _ h0 n0 Z0 E F_heap F_heapSize F_gone F_disordered F_fresh F_freshSize F_size VH VF E_x P_x g_a1 g_HA g_FA g_x n_a1_HA n_a1_FA n_a1_x n_HA_FA n_HA_x n_FA_x OH OF) hZ (wd hw 108 rfl) (wd hw 2 rfl) (by decide) (by decide)) (g := (mkF m 35 #[.val (.ref a1), .unset] [(.ref a1)])) rfl (by rw [hml]; rfl) (Steps.refl _) (a := a1) (by rw [e188]; exact q189) q189' (argsL := []) (rest := []) (lenOf pd_3 rfl) rfl (by show 2 * 0 + _ ≤ _; exact Nat.le_of_eq rfl) (hb hby d13_35) (fun _ _ => ⟨rfl, e188, (by decide : 0 + 0 ≤ _), (by decide : 0 + 0 ≤ _)⟩)
  dsimp only [Pt.U, Pt.locs, Pt.cells, Pt.slots] at X189 l189 y189 z189 st189 hQ189
  subst l189 y189 z189
  obtain ⟨rfl, N189q, K189, E_189, F_heap_189, F_heapSize_189, F_gone_189, F_disordered_189, F_fresh_189, F_freshSize_189, F_size_189, VH_189, VF_189, E_x_189, P_x_189⟩ := hQ189
  have N189 := Fr.app N0 N189q
  have K190 : Keep h0 T189.heap [a1, HA, FA, x] := K0.trans K189 (allS (Or.inl (List.mem_of_getElem? (i := 0) rfl)) (allS (Or.inl (List.mem_of_getElem? (i := 1) rfl)) (allS (Or.inl (List.mem_of_getElem? (i := 2) rfl)) (allS (Or.inl (List.mem_of_getElem? (i := 3) rfl)) all0))))
  have z191 : n0 ≤ T189.heap.size := Nat.le_trans Z0 K189.1
  have f192 := E.keep K189
  have f202 := E_x.keep K189
  refine Goes.of (fun t k => st189.trans k) ?_
  show Goes p e below (T189.setTop (mkF m 38 #[.val (.ref a1), .unset] [])) _
  have eh : T189.heap = T189.heap := rfl
  exact Goes.retV X189 hx Bd.returns hlocks (hb hby d13_38) (⟨rfl, N189, by rw [eh]; exact K190, by rw [eh]; exact E_189, by rw [eh]; exact F_heap_189, by rw [eh]; exact F_heapSize_189, by rw [eh]; exact F_gone_189, by rw [eh]; exact F_disordered_189, by rw [eh]; exact F_fresh_189, by rw [eh]; exact F_freshSize_189, by rw [eh]; exact F_size_189, by rw [eh]; exact VH_189, by rw [eh]; exact VF_189, by rw [eh]; exact E_x_189, by rw [eh]; exact P_x_189⟩) (by decide) (by decide)
theorem ef_12 (m : MethodId) (x0 : Addr) : entryFrame m #[(.ref x0)] 3 = mkF m 0 #[.val (.ref x0), .unset, .unset] [] := by first | (simp [entryFrame, mkF, argsToLocals, Value.category]; done) | rfl
def Q12 (Z : State) (a1 : Addr) (HA : Addr) (FA : Addr) (x : Addr) (kH : ClassId) (kF : ClassId) (h0 : Heap) (n0 : Nat) (v : Option Value) (h : Heap) (L : List Loc) : Prop := v = some (.ref x) ∧ Fr n0 L ∧ Keep h0 h [a1, HA, FA, x] ∧ Exa Z h a1 "com/example/ripplematch/ripplematch/core/Agenda" ∧ Fld Z h a1 "com/example/ripplematch/ripplematch/core/Agenda" "heap" "[Lcom/example/ripplematch/ripplematch/core/Activation;" (.ref HA) ∧ Fld Z h a1 "com/example/ripplematch/ripplematch/core/Agenda" "heapSize" "I" (.int (0 : Int32)) ∧ Fld Z h a1 "com/example/ripplematch/ripplematch/core/Agenda" "gone" "I" (.int (0 : Int32)) ∧ Fld Z h a1 "com/example/ripplematch/ripplematch/core/Agenda" "disordered" "Z" (.int (0 : Int32)) ∧ Fld Z h a1 "com/example/ripplematch/ripplematch/core/Agenda" "fresh" "[Lcom/example/ripplematch/ripplematch/core/Activation;" (.ref FA) ∧ Fld Z h a1 "com/example/ripplematch/ripplematch/core/Agenda" "freshSize" "I" (.int (0 : Int32)) ∧ Fld Z h a1 "com/example/ripplematch/ripplematch/core/Agenda" "size" "I" (.int (0 : Int32)) ∧ Arv Z h HA kH (.object "com/example/ripplematch/ripplematch/core/Activation") (16 : Int32) [.null, .null, .null, .null, .null, .null, .null, .null, .null, .null, .null, .null, .null, .null, .null, .null] .null ∧ Arv Z h FA kF (.object "com/example/ripplematch/ripplematch/core/Activation") (16 : Int32) [.null, .null, .null, .null, .null, .null, .null, .null, .null, .null, .null, .null, .null, .null, .null, .null] .null ∧ Exa Z h x "com/example/ripplematch/ripplematch/core/Activation" ∧ Fld Z h x "com/example/ripplematch/ripplematch/core/Activation" "place" "I" (.int (-1 : Int32))
set_option maxRecDepth 65536 in
set_option maxHeartbeats 40000000 in
theorem rm12 (l : Launch) (Z : State) (a0 : Array Value) (hw : ∀ d ∈ tables_1, d.before a0 Z = true) (ws : List Jvm.Cond) (a1 : Addr) (HA : Addr) (FA : Addr) (x : Addr) (kH : ClassId) (kF : ClassId) (h0 : Heap) (n0 : Nat) (Z0 : n0 ≤ h0.size) (O0 : Old Z n0 h0) (SA : Sta Z Z.heap "com/example/ripplematch/ripplematch/core/Agenda" "$assertionsDisabled" "Z" (.int (1 : Int32))) (E : Exa Z h0 a1 "com/example/ripplematch/ripplematch/core/Agenda") (F_heap : Fld Z h0 a1 "com/example/ripplematch/ripplematch/core/Agenda" "heap" "[Lcom/example/ripplematch/ripplematch/core/Activation;" (.ref HA)) (F_heapSize : Fld Z h0 a1 "com/example/ripplematch/ripplematch/core/Agenda" "heapSize" "I" (.int (0 : Int32))) (F_gone : Fld Z h0 a1 "com/example/ripplematch/ripplematch/core/Agenda" "gone" "I" (.int (0 : Int32))) (F_disordered : Fld Z h0 a1 "com/example/ripplematch/ripplematch/core/Agenda" "disordered" "Z" (.int (0 : Int32))) (F_fresh : Fld Z h0 a1 "com/example/ripplematch/ripplematch/core/Agenda" "fresh" "[Lcom/example/ripplematch/ripplematch/core/Activation;" (.ref FA)) (F_freshSize : Fld Z h0 a1 "com/example/ripplematch/ripplematch/core/Agenda" "freshSize" "I" (.int (1 : Int32))) (F_size : Fld Z h0 a1 "com/example/ripplematch/ripplematch/core/Agenda" "size" "I" (.int (1 : Int32))) (VH : Arv Z h0 HA kH (.object "com/example/ripplematch/ripplematch/core/Activation") (16 : Int32) [.null, .null, .null, .null, .null, .null, .null, .null, .null, .null, .null, .null, .null, .null, .null, .null] .null) (VF : Arv Z h0 FA kF (.object "com/example/ripplematch/ripplematch/core/Activation") (16 : Int32) [(.ref x), .null, .null, .null, .null, .null, .null, .null, .null, .null, .null, .null, .null, .null, .null, .null] .null) (E_x : Exa Z h0 x "com/example/ripplematch/ripplematch/core/Activation") (P_x : Fld Z h0 x "com/example/ripplematch/ripplematch/core/Activation" "place" "I" (.int (-2 : Int32))) (g_a1 : n0 ≤ a1) (g_HA : n0 ≤ HA) (g_FA : n0 ≤ FA) (g_x : n0 ≤ x) (n_a1_HA : a1 ≠ HA) (n_a1_FA : a1 ≠ FA) (n_a1_x : a1 ≠ x) (n_HA_FA : HA ≠ FA) (n_HA_x : HA ≠ x) (n_FA_x : FA ≠ x) (OH : Ovr Z kH "com/example/ripplematch/ripplematch/core/Activation") (OF : Ovr Z kF "com/example/ripplematch/ripplematch/core/Activation") :
    MetFree l (⟨"com/example/ripplematch/ripplematch/core/Agenda", "pollFirst", "()Lcom/example/ripplematch/ripplematch/core/Activation;"⟩ : MethodName) (head1 (Jvm.Cond.code (⟨"com/example/ripplematch/ripplematch/core/Agenda", "pollFirst", "()Lcom/example/ripplematch/ripplematch/core/Activation;"⟩ : MethodName) prog_13_method_7_code 3 (some (.object "com/example/ripplematch/ripplematch/core/Activation")) :: ws) ({ frames := 3, cells := 0, slots := 0, locals := 41 } : Room)) (fun a U => a = #[(.ref a1)] ∧ Z.Warmed39 U.vm ∧ U.heap = h0) (fun _ _ _ _ _ => True) (fun _ U o U' => ∃ v L, o = .returned v ∧ Q12 Z a1 HA FA x kH kF h0 n0 v U'.heap L ∧ FrameEnd U o U' L ({ frames := 3, cells := 0, slots := 0, locals := 41 } : Room).cells ({ frames := 3, cells := 0, slots := 0, locals := 41 } : Room).slots) := by
  refine MetFree.of_bodySF (plainFor_of_name pn_0) hisR ?_
  intro p e s m args below meth c s₁ Bd hml0 hP hK
  obtain ⟨rfl, hZ, hh⟩ := hP
  have hx := Bd.exec
  have hby := Bd.bytes
  have hml : c.maxLocals = 3 := hml0
  have hown : s.vm.findClass "com/example/ripplematch/ripplematch/core/Agenda" = some m.cls := findClass_of_methodNamed Bd.named
  have hnm := (name_of_methodNamed Bd.named Bd.method).1
  have hlocks : meth.locks = false := BodyLoose.notSynchronized Bd
  have X0 : Stand p l e ({ frames := 3, cells := 0, slots := 0, locals := 41 } : Room) s m #[(.ref a1)] below meth c s₁ [] 0 0 := Stand.of_body Bd
  have e0 : s₁.heap = h0 := by rw [← hh, Bd.state]; rfl
  have N0 := Fr.nil n0
  show Goes p e below (s₁.setTop (entryFrame m #[(.ref a1)] 3)) (Fin s (Q12 Z a1 HA FA x kH kF h0 n0) ({ frames := 3, cells := 0, slots := 0, locals := 41 } : Room).cells ({ frames := 3, cells := 0, slots := 0, locals := 41 } : Room).slots)
  refine Goes.of (fun t k => castTop (ef_12 m a1) k) ?_
  have K0 : Keep h0 h0 [a1, HA, FA, x] := Keep.refl _ _
  show Goes p e below (s₁.setTop (mkF m 0 #[.val (.ref a1), .unset, .unset] [])) _
  refine Goes.of (fun t k => XS.aloadN X0.here hx rfl (hb hby d12_0) rfl rfl k) ?_
  obtain ⟨cq204, q204, q204'⟩ := E.cell
  obtain ⟨_, _, ⟨T204, L204, k204, n204⟩, -, X204, ⟨Lc204, hQ204, l204, y204, z204⟩, st204⟩ := X0.privateBack hx (y := (⟨"com/example/ripplematch/ripplematch/core/Agenda", "order", "()V"⟩ : MethodName)) hown (mvT hZ (wd hw 95 rfl)) (mvT hZ (wd hw 96 rfl)) (selPriv (Cond.privateMethod_at (mvP hZ (wd hw 97 rfl) (args := #[]))) (mvT hZ (wd hw 96 rfl)) (mvT hZ (wd hw 1 rfl)) (by decide)) (Cond.privateMethod_at (mvP hZ (wd hw 97 rfl) (args := #[]))) (mvT hZ (wd hw 98 rfl)) (by decide) (backOf (W := 0) (rm13 l Z a0 hw [] a1 HA FA x  _ _ h0 n0 Z0 E F_heap F_heapSize F_gone F_disordered F_fresh F_freshSize F_size VH VF E_x P_x g_a1 g_HA g_FA g_x n_a1_HA n_a1_FA n_a1_x n_HA_FA n_HA_x n_FA_x OH OF) hZ (wd hw 98 rfl) (wd hw 2 rfl) (by decide) (by decide)) (g := (mkF m 1 #[.val (.ref a1), .unset, .unset] [(.ref a1)])) rfl (by rw [hml]; rfl) (Steps.refl _) (a := a1) (by rw [e0]; exact q204) q204' (argsL := []) (rest := []) (lenOf pd_3 rfl) rfl (by show 2 * 0 + _ ≤ _; exact Nat.le_of_eq rfl) (hb hby d12_1) (fun _ _ => ⟨rfl, e0, (by decide : 0 + 0 ≤ _), (by decide : 0 + 0 ≤ _)⟩)
  dsimp only [Pt.U, Pt.locs, Pt.cells, Pt.slots] at X204 l204 y204 z204 st204 hQ204
  subst l204 y204 z204
  obtain ⟨rfl, N204q, K204, E_204, F_heap_204, F_heapSize_204, F_gone_204, F_disordered_204, F_fresh_204, F_freshSize_204, F_size_204, VH_204, VF_204, E_x_204, P_x_204⟩ := hQ204
  have N204 := Fr.app N0 N204q
  have K205 : Keep h0 T204.heap [a1, HA, FA, x] := K0.trans K204 (allS (Or.inl (List.mem_of_getElem? (i := 0) rfl)) (allS (Or.inl (List.mem_of_getElem? (i := 1) rfl)) (allS (Or.inl (List.mem_of_getElem? (i := 2) rfl)) (allS (Or.inl (List.mem_of_getElem? (i := 3) rfl)) all0))))
  have z206 : n0 ≤ T204.heap.size := Nat.le_trans Z0 K204.1
  have f207 := E.keep K204
  have f217 := E_x.keep K204
  have f219 := O0.keep K204 (allS g_a1 (allS g_HA (allS g_FA (allS g_x all0))))
  refine Goes.of (fun t k => st204.trans k) ?_
  show Goes p e below (T204.setTop (mkF m 4 #[.val (.ref a1), .unset, .unset] [])) _
  refine Goes.of (fun t k => XS.aloadN X204.here hx rfl (hb hby d12_4) rfl rfl k) ?_
  obtain ⟨T220, X220, e220, st220⟩ := getF X204 hx hZ hown (host := "") (Or.inl (wd hw 11 rfl)) Via.refl rfl F_heap_204 (g := (mkF m 5 #[.val (.ref a1), .unset, .unset] [(.ref a1)])) rfl rfl (hb hby d12_5)
  refine Goes.of st220 ?_
  show Goes p e below (T220.setTop (mkF m 8 #[.val (.ref a1), .unset, .unset] [(.ref HA)])) _
  refine Goes.of (fun t k => XS.iconst X220.here hx rfl (hb hby d12_8) k) ?_
  have Vc221 := VH_204
  obtain ⟨clc221, Arc221, qc221, Sc221, Nc221, Hc221, Gc221⟩ := Vc221
  have hin222 : ¬ ((0 : Int32) < 0 ∨ clc221.slots.size ≤ ((0 : Int32)).toNatClampNeg) := inb_of Sc221 ⟨by decide, by decide⟩
  have hat223 : clc221.slots[((0 : Int32)).toNatClampNeg]? = some (.ref x) := Hc221.at hin222 rfl
  refine Goes.of (fun t k => X220.aaload hx (j := (0 : Int32)) (v := (.ref x)) (by rw [e220]; exact Arc221.1) (State.isArrayOf_alike hZ.alike Arc221.2.1) rfl Arc221.2.2 hin222 hat223 (g := (mkF m 9 #[.val (.ref a1), .unset, .unset] [(.int (0 : Int32)), (.ref HA)])) rfl rfl (hb hby d12_9) _ k) ?_
  show Goes p e below (T220.setTop (mkF m 10 #[.val (.ref a1), .unset, .unset] [(.ref x)])) _
  refine Goes.of (fun t k => XS.astoreN X220.here hx rfl (hb hby d12_10) rfl rfl (l' := #[.val (.ref a1), .val (.ref x), .unset]) rfl k) ?_
  show Goes p e below (T220.setTop (mkF m 11 #[.val (.ref a1), .val (.ref x), .unset] [])) _
  refine Goes.of (fun t k => XS.aloadN X220.here hx rfl (hb hby d12_11) rfl rfl k) ?_
  obtain ⟨T224, X224, e224, st224⟩ := getF X220 hx hZ hown (host := "") (Or.inl (wd hw 11 rfl)) Via.refl e220 F_heap_204 (g := (mkF m 12 #[.val (.ref a1), .val (.ref x), .unset] [(.ref a1)])) rfl rfl (hb hby d12_12)
  refine Goes.of st224 ?_
  show Goes p e below (T224.setTop (mkF m 15 #[.val (.ref a1), .val (.ref x), .unset] [(.ref HA)])) _
  refine Goes.of (fun t k => XS.aloadN X224.here hx rfl (hb hby d12_15) rfl rfl k) ?_
  show Goes p e below (T224.setTop (mkF m 16 #[.val (.ref a1), .val (.ref x), .unset] [(.ref a1), (.ref HA)])) _
  refine Goes.of (fun t k => XS.dup X224.here hx rfl (hb hby d12_16) rfl rfl k) ?_
  obtain ⟨T225, X225, e225, st225⟩ := getF X224 hx hZ hown (host := "") (Or.inl (wd hw 103 rfl)) Via.refl e224 F_heapSize_204 (g := (mkF m 17 #[.val (.ref a1), .val (.ref x), .unset] [(.ref a1), (.ref a1), (.ref HA)])) rfl rfl (hb hby d12_17)
  refine Goes.of st225 ?_
  show Goes p e below (T225.setTop (mkF m 20 #[.val (.ref a1), .val (.ref x), .unset] [(.int (1 : Int32)), (.ref a1), (.ref HA)])) _
  refine Goes.of (fun t k => XS.iconst X225.here hx rfl (hb hby d12_20) k) ?_
  show Goes p e below (T225.setTop (mkF m 21 #[.val (.ref a1), .val (.ref x), .unset] [(.int (1 : Int32)), (.int (1 : Int32)), (.ref a1), (.ref HA)])) _
  refine Goes.of (fun t k => XS.isub X225.here hx rfl (hb hby d12_21) rfl k) ?_
  show Goes p e below (T225.setTop (mkF m 22 #[.val (.ref a1), .val (.ref x), .unset] [(.int (0 : Int32)), (.ref a1), (.ref HA)])) _
  refine Goes.of (fun t k => XS.dupX1 X225.here hx rfl (hb hby d12_22) rfl rfl rfl k) ?_
  obtain ⟨T226, h226, X226, e226, W226, st226⟩ := putF X225 hx hZ hown (host := "") (Or.inl (wd hw 103 rfl)) Via.refl e225 F_heapSize_204 E_204 (Or.inl (wd hw 104 rfl)) (wd hw 1 rfl) (ty := .int) (by decide) rfl rfl (g := (mkF m 23 #[.val (.ref a1), .val (.ref x), .unset] [(.int (0 : Int32)), (.ref a1), (.int (0 : Int32)), (.ref HA)])) rfl rfl (hb hby d12_23)
  have f227 := F_heapSize_204.same W226
  have K228 : Keep h0 h226 [a1, HA, FA, x] := K205.wr W226 (Or.inl (List.mem_of_getElem? (i := 0) rfl))
  have z229 : n0 ≤ h226.size := Nat.le_trans z206 (Keep.of_wr W226).1
  have f230 := E_204.wr W226
  have f231 := E_x_204.wr W226
  have f232 := f219.wr W226 g_a1
  have f233 := F_heap_204.other W226 (Or.inr (slot_ne (Or.inl (wd hw 12 rfl)) (Or.inl (wd hw 104 rfl)) (by decide) (t := (.array (.object "com/example/ripplematch/ripplematch/core/Activation"))) (t' := .int) (by decide) (by decide)))
  have f235 := F_gone_204.other W226 (Or.inr (slot_ne (Or.inl (wd hw 102 rfl)) (Or.inl (wd hw 104 rfl)) (by decide) (t := .int) (t' := .int) (by decide) (by decide)))
  have f236 := F_disordered_204.other W226 (Or.inr (slot_ne (Or.inl (wd hw 100 rfl)) (Or.inl (wd hw 104 rfl)) (by decide) (t := .boolean) (t' := .int) (by decide) (by decide)))
  have f237 := F_fresh_204.other W226 (Or.inr (slot_ne (Or.inl (wd hw 14 rfl)) (Or.inl (wd hw 104 rfl)) (by decide) (t := (.array (.object "com/example/ripplematch/ripplematch/core/Activation"))) (t' := .int) (by decide) (by decide)))
  have f238 := F_freshSize_204.other W226 (Or.inr (slot_ne (Or.inl (wd hw 83 rfl)) (Or.inl (wd hw 104 rfl)) (by decide) (t := .int) (t' := .int) (by decide) (by decide)))
  have f239 := F_size_204.other W226 (Or.inr (slot_ne (Or.inl (wd hw 70 rfl)) (Or.inl (wd hw 104 rfl)) (by decide) (t := .int) (t' := .int) (by decide) (by decide)))
  have f240 := VH_204.other W226 (Ne.symm n_a1_HA)
  have f241 := VF_204.other W226 (Ne.symm n_a1_FA)
  have f242 := P_x_204.other W226 (Or.inl (Ne.symm n_a1_x))
  have N226 := Fr.snoc X226 N204 g_a1
  refine Goes.of st226 ?_
  have Vc243 := f240
  obtain ⟨clc243, Arc243, qc243, Sc243, Nc243, Hc243, Gc243⟩ := Vc243
  have hin244 : ¬ ((0 : Int32) < 0 ∨ clc243.slots.size ≤ ((0 : Int32)).toNatClampNeg) := inb_of Sc243 ⟨by decide, by decide⟩
  have hat245 : clc243.slots[((0 : Int32)).toNatClampNeg]? = some (.ref x) := Hc243.at hin244 rfl
  refine Goes.of (fun t k => X226.aaload hx (j := (0 : Int32)) (v := (.ref x)) (by rw [e226]; exact Arc243.1) (State.isArrayOf_alike hZ.alike Arc243.2.1) rfl Arc243.2.2 hin244 hat245 (g := (mkF m 26 #[.val (.ref a1), .val (.ref x), .unset] [(.int (0 : Int32)), (.ref HA)])) rfl rfl (hb hby d12_26) _ k) ?_
  show Goes p e below (T226.setTop (mkF m 27 #[.val (.ref a1), .val (.ref x), .unset] [(.ref x)])) _
  refine Goes.of (fun t k => XS.astoreN X226.here hx rfl (hb hby d12_27) rfl rfl (l' := #[.val (.ref a1), .val (.ref x), .val (.ref x)]) rfl k) ?_
  show Goes p e below (T226.setTop (mkF m 28 #[.val (.ref a1), .val (.ref x), .val (.ref x)] [])) _
  refine Goes.of (fun t k => XS.aloadN X226.here hx rfl (hb hby d12_28) rfl rfl k) ?_
  obtain ⟨T246, X246, e246, st246⟩ := getF X226 hx hZ hown (host := "") (Or.inl (wd hw 11 rfl)) Via.refl e226 f233 (g := (mkF m 29 #[.val (.ref a1), .val (.ref x), .val (.ref x)] [(.ref a1)])) rfl rfl (hb hby d12_29)
  refine Goes.of st246 ?_
  show Goes p e below (T246.setTop (mkF m 32 #[.val (.ref a1), .val (.ref x), .val (.ref x)] [(.ref HA)])) _
  refine Goes.of (fun t k => XS.aloadN X246.here hx rfl (hb hby d12_32) rfl rfl k) ?_
  obtain ⟨T247, X247, e247, st247⟩ := getF X246 hx hZ hown (host := "") (Or.inl (wd hw 103 rfl)) Via.refl e246 f227 (g := (mkF m 33 #[.val (.ref a1), .val (.ref x), .val (.ref x)] [(.ref a1), (.ref HA)])) rfl rfl (hb hby d12_33)
  refine Goes.of st247 ?_
  show Goes p e below (T247.setTop (mkF m 36 #[.val (.ref a1), .val (.ref x), .val (.ref x)] [(.int (0 : Int32)), (.ref HA)])) _
  refine Goes.of (fun t k => XS.aconstNull X247.here hx rfl (hb hby d12_36) k) ?_
  have Vc248 := f240
  obtain ⟨clc248, Arc248, qc248, Sc248, Nc248, Hc248, Gc248⟩ := Vc248
  have hin249 : ¬ ((0 : Int32) < 0 ∨ clc248.slots.size ≤ ((0 : Int32)).toNatClampNeg) := inb_of Sc248 ⟨by decide, by decide⟩
  obtain ⟨T250, h250, X250, e250, W250, st250⟩ := stR X247 hx hZ e247 Arc248 (j := (0 : Int32)) hin249 rfl (Or.inl rfl) (g := (mkF m 37 #[.val (.ref a1), .val (.ref x), .val (.ref x)] [.null, (.int (0 : Int32)), (.ref HA)])) rfl rfl (hb hby d12_37)
  have V250 : Arv Z h250 HA kH (.object "com/example/ripplematch/ripplematch/core/Activation") (16 : Int32) [.null, .null, .null, .null, .null, .null, .null, .null, .null, .null, .null, .null, .null, .null, .null, .null] .null := Arv.set Arc248 qc248 Sc248 Nc248 Hc248 Gc248 rfl W250 0 rfl (Nat.le_of_ble_eq_true rfl)
  have K251 : Keep h0 h250 [a1, HA, FA, x] := K228.wr W250 (Or.inl (List.mem_of_getElem? (i := 1) rfl))
  have z252 : n0 ≤ h250.size := Nat.le_trans z229 (Keep.of_wr W250).1
  have f253 := f230.wr W250
  have f254 := f231.wr W250
  have f255 := f232.wr W250 g_HA
  have f256 := f233.other W250 (Or.inl n_a1_HA)
  have f257 := f227.other W250 (Or.inl n_a1_HA)
  have f258 := f235.other W250 (Or.inl n_a1_HA)
  have f259 := f236.other W250 (Or.inl n_a1_HA)
  have f260 := f237.other W250 (Or.inl n_a1_HA)
  have f261 := f238.other W250 (Or.inl n_a1_HA)
  have f262 := f239.other W250 (Or.inl n_a1_HA)
  have f264 := f241.other W250 (Ne.symm n_HA_FA)
  have f265 := f242.other W250 (Or.inl (Ne.symm n_HA_x))
  have N250 := Fr.snoc X250 N226 g_HA
  refine Goes.of st250 ?_
  show Goes p e below (T250.setTop (mkF m 38 #[.val (.ref a1), .val (.ref x), .val (.ref x)] [])) _
  refine Goes.of (fun t k => XS.aloadN X250.here hx rfl (hb hby d12_38) rfl rfl k) ?_
  obtain ⟨T266, X266, e266, st266⟩ := getF X250 hx hZ hown (host := "") (Or.inl (wd hw 103 rfl)) Via.refl e250 f257 (g := (mkF m 39 #[.val (.ref a1), .val (.ref x), .val (.ref x)] [(.ref a1)])) rfl rfl (hb hby d12_39)
  refine Goes.of st266 ?_
  show Goes p e below (T266.setTop (mkF m 42 #[.val (.ref a1), .val (.ref x), .val (.ref x)] [(.int (0 : Int32))])) _
  refine Goes.of (fun t k => XS.ifYes X266.here hx rfl (pc0 := 42) (pc' := 51) rfl (hb hby d12_42) rfl ((if0 _ _).trans (flt (by decide)).2.2.2) (by decide) (by decide) k) ?_
  show Goes p e below (T266.setTop (mkF m 51 #[.val (.ref a1), .val (.ref x), .val (.ref x)] [])) _
  refine Goes.of (fun t k => XS.aloadN X266.here hx rfl (hb hby d12_51) rfl rfl k) ?_
  obtain ⟨T267, X267, e267, st267⟩ := getF X266 hx hZ hown (host := "") (Or.inl (wd hw 84 rfl)) Via.refl e266 f265 (g := (mkF m 52 #[.val (.ref a1), .val (.ref x), .val (.ref x)] [(.ref x)])) rfl rfl (hb hby d12_52)
  refine Goes.of st267 ?_
  show Goes p e below (T267.setTop (mkF m 55 #[.val (.ref a1), .val (.ref x), .val (.ref x)] [(.int (0 : Int32))])) _
  refine Goes.of (fun t k => XS.iconst X267.here hx rfl (hb hby d12_55) k) ?_
  show Goes p e below (T267.setTop (mkF m 56 #[.val (.ref a1), .val (.ref x), .val (.ref x)] [(.int (-1 : Int32)), (.int (0 : Int32))])) _
  refine Goes.of (fun t k => XS.icmpYes X267.here hx rfl (pc0 := 56) (pc' := 72) rfl (hb hby d12_56) rfl (feq (by decide)).2 (by decide) (by decide) k) ?_
  obtain ⟨T268, X268, e268, st268⟩ := getS2 X267 hx hZ hown (host := "") (Or.inl (wd hw 80 rfl)) Via.refl e267 (SA.ext f255.2) (g := (mkF m 72 #[.val (.ref a1), .val (.ref x), .val (.ref x)] [])) rfl (hb hby d12_72)
  refine Goes.of st268 ?_
  show Goes p e below (T268.setTop (mkF m 75 #[.val (.ref a1), .val (.ref x), .val (.ref x)] [(.int (1 : Int32))])) _
  refine Goes.of (fun t k => XS.ifYes X268.here hx rfl (pc0 := 75) (pc' := 128) rfl (hb hby d12_75) rfl ((if0 _ _).trans (feq (by decide)).2) (by decide) (by decide) k) ?_
  show Goes p e below (T268.setTop (mkF m 128 #[.val (.ref a1), .val (.ref x), .val (.ref x)] [])) _
  refine Goes.of (fun t k => XS.aloadN X268.here hx rfl (hb hby d12_128) rfl rfl k) ?_
  show Goes p e below (T268.setTop (mkF m 129 #[.val (.ref a1), .val (.ref x), .val (.ref x)] [(.ref x)])) _
  refine Goes.of (fun t k => XS.iconst X268.here hx rfl (hb hby d12_129) k) ?_
  obtain ⟨T269, h269, X269, e269, W269, st269⟩ := putF X268 hx hZ hown (host := "") (Or.inl (wd hw 84 rfl)) Via.refl e268 f265 f254 (Or.inl (wd hw 45 rfl)) (wd hw 38 rfl) (ty := .int) (by decide) rfl rfl (g := (mkF m 130 #[.val (.ref a1), .val (.ref x), .val (.ref x)] [(.int (-1 : Int32)), (.ref x)])) rfl rfl (hb hby d12_130)
  have f270 := f265.same W269
  have K271 : Keep h0 h269 [a1, HA, FA, x] := K251.wr W269 (Or.inl (List.mem_of_getElem? (i := 3) rfl))
  have z272 : n0 ≤ h269.size := Nat.le_trans z252 (Keep.of_wr W269).1
  have f273 := f253.wr W269
  have f274 := f254.wr W269
  have f275 := f255.wr W269 g_x
  have f276 := f256.other W269 (Or.inl n_a1_x)
  have f277 := f257.other W269 (Or.inl n_a1_x)
  have f278 := f258.other W269 (Or.inl n_a1_x)
  have f279 := f259.other W269 (Or.inl n_a1_x)
  have f280 := f260.other W269 (Or.inl n_a1_x)
  have f281 := f261.other W269 (Or.inl n_a1_x)
  have f282 := f262.other W269 (Or.inl n_a1_x)
  have f283 := V250.other W269 n_HA_x
  have f284 := f264.other W269 n_FA_x
  have N269 := Fr.snoc X269 N250 g_x
  refine Goes.of st269 ?_
  show Goes p e below (T269.setTop (mkF m 133 #[.val (.ref a1), .val (.ref x), .val (.ref x)] [])) _
  refine Goes.of (fun t k => XS.aloadN X269.here hx rfl (hb hby d12_133) rfl rfl k) ?_
  show Goes p e below (T269.setTop (mkF m 134 #[.val (.ref a1), .val (.ref x), .val (.ref x)] [(.ref a1)])) _
  refine Goes.of (fun t k => XS.dup X269.here hx rfl (hb hby d12_134) rfl rfl k) ?_
  obtain ⟨T286, X286, e286, st286⟩ := getF X269 hx hZ hown (host := "") (Or.inl (wd hw 69 rfl)) Via.refl e269 f282 (g := (mkF m 135 #[.val (.ref a1), .val (.ref x), .val (.ref x)] [(.ref a1), (.ref a1)])) rfl rfl (hb hby d12_135)
  refine Goes.of st286 ?_
  show Goes p e below (T286.setTop (mkF m 138 #[.val (.ref a1), .val (.ref x), .val (.ref x)] [(.int (1 : Int32)), (.ref a1)])) _
  refine Goes.of (fun t k => XS.iconst X286.here hx rfl (hb hby d12_138) k) ?_
  show Goes p e below (T286.setTop (mkF m 139 #[.val (.ref a1), .val (.ref x), .val (.ref x)] [(.int (1 : Int32)), (.int (1 : Int32)), (.ref a1)])) _
  refine Goes.of (fun t k => XS.isub X286.here hx rfl (hb hby d12_139) rfl k) ?_
  obtain ⟨T287, h287, X287, e287, W287, st287⟩ := putF X286 hx hZ hown (host := "") (Or.inl (wd hw 69 rfl)) Via.refl e286 f282 f273 (Or.inl (wd hw 70 rfl)) (wd hw 1 rfl) (ty := .int) (by decide) rfl rfl (g := (mkF m 140 #[.val (.ref a1), .val (.ref x), .val (.ref x)] [(.int (0 : Int32)), (.ref a1)])) rfl rfl (hb hby d12_140)
  have f288 := f282.same W287
  have K289 : Keep h0 h287 [a1, HA, FA, x] := K271.wr W287 (Or.inl (List.mem_of_getElem? (i := 0) rfl))
  have z290 : n0 ≤ h287.size := Nat.le_trans z272 (Keep.of_wr W287).1
  have f291 := f273.wr W287
  have f292 := f274.wr W287
  have f293 := f275.wr W287 g_a1
  have f294 := f276.other W287 (Or.inr (slot_ne (Or.inl (wd hw 12 rfl)) (Or.inl (wd hw 70 rfl)) (by decide) (t := (.array (.object "com/example/ripplematch/ripplematch/core/Activation"))) (t' := .int) (by decide) (by decide)))
  have f295 := f277.other W287 (Or.inr (slot_ne (Or.inl (wd hw 104 rfl)) (Or.inl (wd hw 70 rfl)) (by decide) (t := .int) (t' := .int) (by decide) (by decide)))
  have f296 := f278.other W287 (Or.inr (slot_ne (Or.inl (wd hw 102 rfl)) (Or.inl (wd hw 70 rfl)) (by decide) (t := .int) (t' := .int) (by decide) (by decide)))
  have f297 := f279.other W287 (Or.inr (slot_ne (Or.inl (wd hw 100 rfl)) (Or.inl (wd hw 70 rfl)) (by decide) (t := .boolean) (t' := .int) (by decide) (by decide)))
  have f298 := f280.other W287 (Or.inr (slot_ne (Or.inl (wd hw 14 rfl)) (Or.inl (wd hw 70 rfl)) (by decide) (t := (.array (.object "com/example/ripplematch/ripplematch/core/Activation"))) (t' := .int) (by decide) (by decide)))
  have f299 := f281.other W287 (Or.inr (slot_ne (Or.inl (wd hw 83 rfl)) (Or.inl (wd hw 70 rfl)) (by decide) (t := .int) (t' := .int) (by decide) (by decide)))
  have f301 := f283.other W287 (Ne.symm n_a1_HA)
  have f302 := f284.other W287 (Ne.symm n_a1_FA)
  have f303 := f270.other W287 (Or.inl (Ne.symm n_a1_x))
  have N287 := Fr.snoc X287 N269 g_a1
  refine Goes.of st287 ?_
  show Goes p e below (T287.setTop (mkF m 143 #[.val (.ref a1), .val (.ref x), .val (.ref x)] [])) _
  refine Goes.of (fun t k => XS.aloadN X287.here hx rfl (hb hby d12_143) rfl rfl k) ?_
  show Goes p e below (T287.setTop (mkF m 144 #[.val (.ref a1), .val (.ref x), .val (.ref x)] [(.ref x)])) _
  have eh : T287.heap = h287 := e287
  exact Goes.retA X287 hx (by rfl) Bd.returns (by rfl) hlocks (hb hby d12_144) (⟨rfl, N287, by rw [eh]; exact K289, by rw [eh]; exact f291, by rw [eh]; exact f294, by rw [eh]; exact f295, by rw [eh]; exact f296, by rw [eh]; exact f297, by rw [eh]; exact f298, by rw [eh]; exact f299, by rw [eh]; exact f288, by rw [eh]; exact f301, by rw [eh]; exact f302, by rw [eh]; exact f292, by rw [eh]; exact f303⟩) (by decide) (by decide)
theorem ef_10 (m : MethodId) (x0 : Addr) (x1 : Addr) : entryFrame m #[(.ref x0), (.ref x1)] 2 = mkF m 0 #[.val (.ref x0), .val (.ref x1)] [] := by first | (simp [entryFrame, mkF, argsToLocals, Value.category]; done) | rfl
def Q10 (Z : State) (a1 : Addr) (x : Addr) (HA : Addr) (FA : Addr) (kH : ClassId) (kF : ClassId) (h0 : Heap) (n0 : Nat) (v : Option Value) (h : Heap) (L : List Loc) : Prop := v = none ∧ Fr n0 L ∧ Keep h0 h [a1, FA, x] ∧ Exa Z h a1 "com/example/ripplematch/ripplematch/core/Agenda" ∧ Fld Z h a1 "com/example/ripplematch/ripplematch/core/Agenda" "heap" "[Lcom/example/ripplematch/ripplematch/core/Activation;" (.ref HA) ∧ Fld Z h a1 "com/example/ripplematch/ripplematch/core/Agenda" "heapSize" "I" (.int (0 : Int32)) ∧ Fld Z h a1 "com/example/ripplematch/ripplematch/core/Agenda" "gone" "I" (.int (0 : Int32)) ∧ Fld Z h a1 "com/example/ripplematch/ripplematch/core/Agenda" "disordered" "Z" (.int (0 : Int32)) ∧ Fld Z h a1 "com/example/ripplematch/ripplematch/core/Agenda" "fresh" "[Lcom/example/ripplematch/ripplematch/core/Activation;" (.ref FA) ∧ Fld Z h a1 "com/example/ripplematch/ripplematch/core/Agenda" "freshSize" "I" (.int (1 : Int32)) ∧ Fld Z h a1 "com/example/ripplematch/ripplematch/core/Agenda" "size" "I" (.int (1 : Int32)) ∧ Arv Z h HA kH (.object "com/example/ripplematch/ripplematch/core/Activation") (16 : Int32) [.null, .null, .null, .null, .null, .null, .null, .null, .null, .null, .null, .null, .null, .null, .null, .null] .null ∧ Arv Z h FA kF (.object "com/example/ripplematch/ripplematch/core/Activation") (16 : Int32) [(.ref x), .null, .null, .null, .null, .null, .null, .null, .null, .null, .null, .null, .null, .null, .null, .null] .null ∧ Exa Z h x "com/example/ripplematch/ripplematch/core/Activation" ∧ Fld Z h x "com/example/ripplematch/ripplematch/core/Activation" "place" "I" (.int (-2 : Int32))
set_option maxRecDepth 65536 in
set_option maxHeartbeats 40000000 in
theorem rm10 (l : Launch) (Z : State) (a0 : Array Value) (hw : ∀ d ∈ tables_1, d.before a0 Z = true) (ws : List Jvm.Cond) (a1 : Addr) (x : Addr) (HA : Addr) (FA : Addr) (kH : ClassId) (kF : ClassId) (h0 : Heap) (n0 : Nat) (Z0 : n0 ≤ h0.size) (O0 : Old Z n0 h0) (SA : Sta Z Z.heap "com/example/ripplematch/ripplematch/core/Agenda" "$assertionsDisabled" "Z" (.int (1 : Int32))) (E : Exa Z h0 a1 "com/example/ripplematch/ripplematch/core/Agenda") (F_heap : Fld Z h0 a1 "com/example/ripplematch/ripplematch/core/Agenda" "heap" "[Lcom/example/ripplematch/ripplematch/core/Activation;" (.ref HA)) (F_heapSize : Fld Z h0 a1 "com/example/ripplematch/ripplematch/core/Agenda" "heapSize" "I" (.int (0 : Int32))) (F_gone : Fld Z h0 a1 "com/example/ripplematch/ripplematch/core/Agenda" "gone" "I" (.int (0 : Int32))) (F_disordered : Fld Z h0 a1 "com/example/ripplematch/ripplematch/core/Agenda" "disordered" "Z" (.int (0 : Int32))) (F_fresh : Fld Z h0 a1 "com/example/ripplematch/ripplematch/core/Agenda" "fresh" "[Lcom/example/ripplematch/ripplematch/core/Activation;" (.ref FA)) (F_freshSize : Fld Z h0 a1 "com/example/ripplematch/ripplematch/core/Agenda" "freshSize" "I" (.int (0 : Int32))) (F_size : Fld Z h0 a1 "com/example/ripplematch/ripplematch/core/Agenda" "size" "I" (.int (0 : Int32))) (VH : Arv Z h0 HA kH (.object "com/example/ripplematch/ripplematch/core/Activation") (16 : Int32) [.null, .null, .null, .null, .null, .null, .null, .null, .null, .null, .null, .null, .null, .null, .null, .null] .null) (VF : Arv Z h0 FA kF (.object "com/example/ripplematch/ripplematch/core/Activation") (16 : Int32) [.null, .null, .null, .null, .null, .null, .null, .null, .null, .null, .null, .null, .null, .null, .null, .null] .null) (E_x : Exa Z h0 x "com/example/ripplematch/ripplematch/core/Activation") (P_x : Fld Z h0 x "com/example/ripplematch/ripplematch/core/Activation" "place" "I" (.int (-1 : Int32))) (g_a1 : n0 ≤ a1) (g_HA : n0 ≤ HA) (g_FA : n0 ≤ FA) (g_x : n0 ≤ x) (n_a1_HA : a1 ≠ HA) (n_a1_FA : a1 ≠ FA) (n_a1_x : a1 ≠ x) (n_HA_FA : HA ≠ FA) (n_HA_x : HA ≠ x) (n_FA_x : FA ≠ x) (OH : Ovr Z kH "com/example/ripplematch/ripplematch/core/Activation") (OF : Ovr Z kF "com/example/ripplematch/ripplematch/core/Activation") :
    MetFree l (⟨"com/example/ripplematch/ripplematch/core/Agenda", "add", "(Lcom/example/ripplematch/ripplematch/core/Activation;)V"⟩ : MethodName) (head1 (Jvm.Cond.code (⟨"com/example/ripplematch/ripplematch/core/Agenda", "add", "(Lcom/example/ripplematch/ripplematch/core/Activation;)V"⟩ : MethodName) prog_13_method_4_code 2 none :: ws) ({ frames := 0, cells := 0, slots := 0, locals := 0 } : Room)) (fun a U => a = #[(.ref a1), (.ref x)] ∧ Z.Warmed39 U.vm ∧ U.heap = h0) (fun _ _ _ _ _ => True) (fun _ U o U' => ∃ v L, o = .returned v ∧ Q10 Z a1 x HA FA kH kF h0 n0 v U'.heap L ∧ FrameEnd U o U' L ({ frames := 0, cells := 0, slots := 0, locals := 0 } : Room).cells ({ frames := 0, cells := 0, slots := 0, locals := 0 } : Room).slots) := by
  refine MetFree.of_bodySF (plainFor_of_name pn_0) hisR ?_
  intro p e s m args below meth c s₁ Bd hml0 hP hK
  obtain ⟨rfl, hZ, hh⟩ := hP
  have hx := Bd.exec
  have hby := Bd.bytes
  have hml : c.maxLocals = 2 := hml0
  have hown : s.vm.findClass "com/example/ripplematch/ripplematch/core/Agenda" = some m.cls := findClass_of_methodNamed Bd.named
  have hnm := (name_of_methodNamed Bd.named Bd.method).1
  have hlocks : meth.locks = false := BodyLoose.notSynchronized Bd
  have X0 : Stand p l e ({ frames := 0, cells := 0, slots := 0, locals := 0 } : Room) s m #[(.ref a1), (.ref x)] below meth c s₁ [] 0 0 := Stand.of_body Bd
  have e0 : s₁.heap = h0 := by rw [← hh, Bd.state]; rfl
  have N0 := Fr.nil n0
  show Goes p e below (s₁.setTop (entryFrame m #[(.ref a1), (.ref x)] 2)) (Fin s (Q10 Z a1 x HA FA kH kF h0 n0) ({ frames := 0, cells := 0, slots := 0, locals := 0 } : Room).cells ({ frames := 0, cells := 0, slots := 0, locals := 0 } : Room).slots)
  refine Goes.of (fun t k => castTop (ef_10 m a1 x) k) ?_
  have K0 : Keep h0 h0 [a1, FA, x] := Keep.refl _ _
  obtain ⟨T304, X304, e304, st304⟩ := getS2 X0 hx hZ hown (host := "") (Or.inl (wd hw 80 rfl)) Via.refl e0 (SA.ext O0.2) (g := (mkF m 0 #[.val (.ref a1), .val (.ref x)] [])) rfl (hb hby d10_0)
  refine Goes.of st304 ?_
  show Goes p e below (T304.setTop (mkF m 3 #[.val (.ref a1), .val (.ref x)] [(.int (1 : Int32))])) _
  refine Goes.of (fun t k => XS.ifYes X304.here hx rfl (pc0 := 3) (pc' := 26) rfl (hb hby d10_3) rfl ((if0 _ _).trans (feq (by decide)).2) (by decide) (by decide) k) ?_
  show Goes p e below (T304.setTop (mkF m 26 #[.val (.ref a1), .val (.ref x)] [])) _
  refine Goes.of (fun t k => XS.aloadN X304.here hx rfl (hb hby d10_26) rfl rfl k) ?_
  obtain ⟨T305, X305, e305, st305⟩ := getF X304 hx hZ hown (host := "") (Or.inl (wd hw 82 rfl)) Via.refl e304 F_freshSize (g := (mkF m 27 #[.val (.ref a1), .val (.ref x)] [(.ref a1)])) rfl rfl (hb hby d10_27)
  refine Goes.of st305 ?_
  show Goes p e below (T305.setTop (mkF m 30 #[.val (.ref a1), .val (.ref x)] [(.int (0 : Int32))])) _
  refine Goes.of (fun t k => XS.aloadN X305.here hx rfl (hb hby d10_30) rfl rfl k) ?_
  obtain ⟨T306, X306, e306, st306⟩ := getF X305 hx hZ hown (host := "") (Or.inl (wd hw 13 rfl)) Via.refl e305 F_fresh (g := (mkF m 31 #[.val (.ref a1), .val (.ref x)] [(.ref a1), (.int (0 : Int32))])) rfl rfl (hb hby d10_31)
  refine Goes.of st306 ?_
  have Vc307 := VF
  obtain ⟨clc307, Arc307, qc307, Sc307, Nc307, Hc307, Gc307⟩ := Vc307
  refine Goes.of (X306.arraylength hx (by rw [e306]; exact Arc307.1) (State.isArrayOf_alike hZ.alike Arc307.2.1) (g := (mkF m 34 #[.val (.ref a1), .val (.ref x)] [(.ref FA), (.int (0 : Int32))])) rfl rfl (hb hby d10_34)) ?_
  rw [len_of Sc307 Nc307]
  show Goes p e below (T306.setTop (mkF m 35 #[.val (.ref a1), .val (.ref x)] [(.int (16 : Int32)), (.int (0 : Int32))])) _
  refine Goes.of (fun t k => XS.icmpYes X306.here hx rfl (pc0 := 35) (pc' := 58) rfl (hb hby d10_35) rfl (feq (by decide)).2 (by decide) (by decide) k) ?_
  show Goes p e below (T306.setTop (mkF m 58 #[.val (.ref a1), .val (.ref x)] [])) _
  refine Goes.of (fun t k => XS.aloadN X306.here hx rfl (hb hby d10_58) rfl rfl k) ?_
  obtain ⟨T308, X308, e308, st308⟩ := getF X306 hx hZ hown (host := "") (Or.inl (wd hw 13 rfl)) Via.refl e306 F_fresh (g := (mkF m 59 #[.val (.ref a1), .val (.ref x)] [(.ref a1)])) rfl rfl (hb hby d10_59)
  refine Goes.of st308 ?_
  show Goes p e below (T308.setTop (mkF m 62 #[.val (.ref a1), .val (.ref x)] [(.ref FA)])) _
  refine Goes.of (fun t k => XS.aloadN X308.here hx rfl (hb hby d10_62) rfl rfl k) ?_
  obtain ⟨T309, X309, e309, st309⟩ := getF X308 hx hZ hown (host := "") (Or.inl (wd hw 82 rfl)) Via.refl e308 F_freshSize (g := (mkF m 63 #[.val (.ref a1), .val (.ref x)] [(.ref a1), (.ref FA)])) rfl rfl (hb hby d10_63)
  refine Goes.of st309 ?_
  show Goes p e below (T309.setTop (mkF m 66 #[.val (.ref a1), .val (.ref x)] [(.int (0 : Int32)), (.ref FA)])) _
  refine Goes.of (fun t k => XS.aloadN X309.here hx rfl (hb hby d10_66) rfl rfl k) ?_
  have Vc310 := VF
  obtain ⟨clc310, Arc310, qc310, Sc310, Nc310, Hc310, Gc310⟩ := Vc310
  have hin311 : ¬ ((0 : Int32) < 0 ∨ clc310.slots.size ≤ ((0 : Int32)).toNatClampNeg) := inb_of Sc310 ⟨by decide, by decide⟩
  obtain ⟨T312, h312, X312, e312, W312, st312⟩ := stR X309 hx hZ e309 Arc310 (j := (0 : Int32)) hin311 rfl (Sto.ofV Arc310 qc310 OF (Ins.self E_x)) (g := (mkF m 67 #[.val (.ref a1), .val (.ref x)] [(.ref x), (.int (0 : Int32)), (.ref FA)])) rfl rfl (hb hby d10_67)
  have V312 : Arv Z h312 FA kF (.object "com/example/ripplematch/ripplematch/core/Activation") (16 : Int32) [(.ref x), .null, .null, .null, .null, .null, .null, .null, .null, .null, .null, .null, .null, .null, .null, .null] .null := Arv.set Arc310 qc310 Sc310 Nc310 Hc310 Gc310 rfl W312 0 rfl (Nat.le_of_ble_eq_true rfl)
  have K313 : Keep h0 h312 [a1, FA, x] := K0.wr W312 (Or.inl (List.mem_of_getElem? (i := 1) rfl))
  have z314 : n0 ≤ h312.size := Nat.le_trans Z0 (Keep.of_wr W312).1
  have f315 := E.wr W312
  have f316 := F_heap.other W312 (Or.inl n_a1_FA)
  have f317 := F_heapSize.other W312 (Or.inl n_a1_FA)
  have f318 := F_gone.other W312 (Or.inl n_a1_FA)
  have f319 := F_disordered.other W312 (Or.inl n_a1_FA)
  have f320 := F_fresh.other W312 (Or.inl n_a1_FA)
  have f321 := F_freshSize.other W312 (Or.inl n_a1_FA)
  have f322 := F_size.other W312 (Or.inl n_a1_FA)
  have f323 := VH.other W312 n_HA_FA
  have f325 := E_x.wr W312
  have f326 := P_x.other W312 (Or.inl (Ne.symm n_FA_x))
  have f327 := O0.wr W312 g_FA
  have N312 := Fr.snoc X312 N0 g_FA
  refine Goes.of st312 ?_
  show Goes p e below (T312.setTop (mkF m 68 #[.val (.ref a1), .val (.ref x)] [])) _
  refine Goes.of (fun t k => XS.aloadN X312.here hx rfl (hb hby d10_68) rfl rfl k) ?_
  show Goes p e below (T312.setTop (mkF m 69 #[.val (.ref a1), .val (.ref x)] [(.ref x)])) _
  refine Goes.of (fun t k => XS.bipush X312.here hx rfl (hb hby d10_69) k) ?_
  show Goes p e below (T312.setTop (mkF m 71 #[.val (.ref a1), .val (.ref x)] [(.int (-2 : Int32)), (.ref x)])) _
  refine Goes.of (fun t k => XS.aloadN X312.here hx rfl (hb hby d10_71) rfl rfl k) ?_
  obtain ⟨T328, X328, e328, st328⟩ := getF X312 hx hZ hown (host := "") (Or.inl (wd hw 82 rfl)) Via.refl e312 f321 (g := (mkF m 72 #[.val (.ref a1), .val (.ref x)] [(.ref a1), (.int (-2 : Int32)), (.ref x)])) rfl rfl (hb hby d10_72)
  refine Goes.of st328 ?_
  show Goes p e below (T328.setTop (mkF m 75 #[.val (.ref a1), .val (.ref x)] [(.int (0 : Int32)), (.int (-2 : Int32)), (.ref x)])) _
  refine Goes.of (fun t k => XS.isub X328.here hx rfl (hb hby d10_75) rfl k) ?_
  obtain ⟨T329, h329, X329, e329, W329, st329⟩ := putF X328 hx hZ hown (host := "") (Or.inl (wd hw 84 rfl)) Via.refl e328 f326 f325 (Or.inl (wd hw 45 rfl)) (wd hw 38 rfl) (ty := .int) (by decide) rfl rfl (g := (mkF m 76 #[.val (.ref a1), .val (.ref x)] [(.int (-2 : Int32)), (.ref x)])) rfl rfl (hb hby d10_76)
  have f330 := f326.same W329
  have K331 : Keep h0 h329 [a1, FA, x] := K313.wr W329 (Or.inl (List.mem_of_getElem? (i := 2) rfl))
  have z332 : n0 ≤ h329.size := Nat.le_trans z314 (Keep.of_wr W329).1
  have f333 := f315.wr W329
  have f334 := f316.other W329 (Or.inl n_a1_x)
  have f335 := f317.other W329 (Or.inl n_a1_x)
  have f336 := f318.other W329 (Or.inl n_a1_x)
  have f337 := f319.other W329 (Or.inl n_a1_x)
  have f338 := f320.other W329 (Or.inl n_a1_x)
  have f339 := f321.other W329 (Or.inl n_a1_x)
  have f340 := f322.other W329 (Or.inl n_a1_x)
  have f341 := f323.other W329 n_HA_x
  have f342 := V312.other W329 n_FA_x
  have f343 := f325.wr W329
  have f345 := f327.wr W329 g_x
  have N329 := Fr.snoc X329 N312 g_x
  refine Goes.of st329 ?_
  show Goes p e below (T329.setTop (mkF m 79 #[.val (.ref a1), .val (.ref x)] [])) _
  refine Goes.of (fun t k => XS.aloadN X329.here hx rfl (hb hby d10_79) rfl rfl k) ?_
  show Goes p e below (T329.setTop (mkF m 80 #[.val (.ref a1), .val (.ref x)] [(.ref a1)])) _
  refine Goes.of (fun t k => XS.dup X329.here hx rfl (hb hby d10_80) rfl rfl k) ?_
  obtain ⟨T346, X346, e346, st346⟩ := getF X329 hx hZ hown (host := "") (Or.inl (wd hw 82 rfl)) Via.refl e329 f339 (g := (mkF m 81 #[.val (.ref a1), .val (.ref x)] [(.ref a1), (.ref a1)])) rfl rfl (hb hby d10_81)
  refine Goes.of st346 ?_
  show Goes p e below (T346.setTop (mkF m 84 #[.val (.ref a1), .val (.ref x)] [(.int (0 : Int32)), (.ref a1)])) _
  refine Goes.of (fun t k => XS.iconst X346.here hx rfl (hb hby d10_84) k) ?_
  show Goes p e below (T346.setTop (mkF m 85 #[.val (.ref a1), .val (.ref x)] [(.int (1 : Int32)), (.int (0 : Int32)), (.ref a1)])) _
  refine Goes.of (fun t k => XS.iadd X346.here hx rfl (hb hby d10_85) rfl k) ?_
  obtain ⟨T347, h347, X347, e347, W347, st347⟩ := putF X346 hx hZ hown (host := "") (Or.inl (wd hw 82 rfl)) Via.refl e346 f339 f333 (Or.inl (wd hw 83 rfl)) (wd hw 1 rfl) (ty := .int) (by decide) rfl rfl (g := (mkF m 86 #[.val (.ref a1), .val (.ref x)] [(.int (1 : Int32)), (.ref a1)])) rfl rfl (hb hby d10_86)
  have f348 := f339.same W347
  have K349 : Keep h0 h347 [a1, FA, x] := K331.wr W347 (Or.inl (List.mem_of_getElem? (i := 0) rfl))
  have z350 : n0 ≤ h347.size := Nat.le_trans z332 (Keep.of_wr W347).1
  have f351 := f333.wr W347
  have f352 := f334.other W347 (Or.inr (slot_ne (Or.inl (wd hw 12 rfl)) (Or.inl (wd hw 83 rfl)) (by decide) (t := (.array (.object "com/example/ripplematch/ripplematch/core/Activation"))) (t' := .int) (by decide) (by decide)))
  have f353 := f335.other W347 (Or.inr (slot_ne (Or.inl (wd hw 104 rfl)) (Or.inl (wd hw 83 rfl)) (by decide) (t := .int) (t' := .int) (by decide) (by decide)))
  have f354 := f336.other W347 (Or.inr (slot_ne (Or.inl (wd hw 102 rfl)) (Or.inl (wd hw 83 rfl)) (by decide) (t := .int) (t' := .int) (by decide) (by decide)))
  have f355 := f337.other W347 (Or.inr (slot_ne (Or.inl (wd hw 100 rfl)) (Or.inl (wd hw 83 rfl)) (by decide) (t := .boolean) (t' := .int) (by decide) (by decide)))
  have f356 := f338.other W347 (Or.inr (slot_ne (Or.inl (wd hw 14 rfl)) (Or.inl (wd hw 83 rfl)) (by decide) (t := (.array (.object "com/example/ripplematch/ripplematch/core/Activation"))) (t' := .int) (by decide) (by decide)))
  have f358 := f340.other W347 (Or.inr (slot_ne (Or.inl (wd hw 70 rfl)) (Or.inl (wd hw 83 rfl)) (by decide) (t := .int) (t' := .int) (by decide) (by decide)))
  have f359 := f341.other W347 (Ne.symm n_a1_HA)
  have f360 := f342.other W347 (Ne.symm n_a1_FA)
  have f361 := f343.wr W347
  have f362 := f330.other W347 (Or.inl (Ne.symm n_a1_x))
  have f363 := f345.wr W347 g_a1
  have N347 := Fr.snoc X347 N329 g_a1
  refine Goes.of st347 ?_
  show Goes p e below (T347.setTop (mkF m 89 #[.val (.ref a1), .val (.ref x)] [])) _
  refine Goes.of (fun t k => XS.aloadN X347.here hx rfl (hb hby d10_89) rfl rfl k) ?_
  show Goes p e below (T347.setTop (mkF m 90 #[.val (.ref a1), .val (.ref x)] [(.ref a1)])) _
  refine Goes.of (fun t k => XS.dup X347.here hx rfl (hb hby d10_90) rfl rfl k) ?_
  obtain ⟨T364, X364, e364, st364⟩ := getF X347 hx hZ hown (host := "") (Or.inl (wd hw 69 rfl)) Via.refl e347 f358 (g := (mkF m 91 #[.val (.ref a1), .val (.ref x)] [(.ref a1), (.ref a1)])) rfl rfl (hb hby d10_91)
  refine Goes.of st364 ?_
  show Goes p e below (T364.setTop (mkF m 94 #[.val (.ref a1), .val (.ref x)] [(.int (0 : Int32)), (.ref a1)])) _
  refine Goes.of (fun t k => XS.iconst X364.here hx rfl (hb hby d10_94) k) ?_
  show Goes p e below (T364.setTop (mkF m 95 #[.val (.ref a1), .val (.ref x)] [(.int (1 : Int32)), (.int (0 : Int32)), (.ref a1)])) _
  refine Goes.of (fun t k => XS.iadd X364.here hx rfl (hb hby d10_95) rfl k) ?_
  obtain ⟨T365, h365, X365, e365, W365, st365⟩ := putF X364 hx hZ hown (host := "") (Or.inl (wd hw 69 rfl)) Via.refl e364 f358 f351 (Or.inl (wd hw 70 rfl)) (wd hw 1 rfl) (ty := .int) (by decide) rfl rfl (g := (mkF m 96 #[.val (.ref a1), .val (.ref x)] [(.int (1 : Int32)), (.ref a1)])) rfl rfl (hb hby d10_96)
  have f366 := f358.same W365
  have K367 : Keep h0 h365 [a1, FA, x] := K349.wr W365 (Or.inl (List.mem_of_getElem? (i := 0) rfl))
  have z368 : n0 ≤ h365.size := Nat.le_trans z350 (Keep.of_wr W365).1
  have f369 := f351.wr W365
  have f370 := f352.other W365 (Or.inr (slot_ne (Or.inl (wd hw 12 rfl)) (Or.inl (wd hw 70 rfl)) (by decide) (t := (.array (.object "com/example/ripplematch/ripplematch/core/Activation"))) (t' := .int) (by decide) (by decide)))
  have f371 := f353.other W365 (Or.inr (slot_ne (Or.inl (wd hw 104 rfl)) (Or.inl (wd hw 70 rfl)) (by decide) (t := .int) (t' := .int) (by decide) (by decide)))
  have f372 := f354.other W365 (Or.inr (slot_ne (Or.inl (wd hw 102 rfl)) (Or.inl (wd hw 70 rfl)) (by decide) (t := .int) (t' := .int) (by decide) (by decide)))
  have f373 := f355.other W365 (Or.inr (slot_ne (Or.inl (wd hw 100 rfl)) (Or.inl (wd hw 70 rfl)) (by decide) (t := .boolean) (t' := .int) (by decide) (by decide)))
  have f374 := f356.other W365 (Or.inr (slot_ne (Or.inl (wd hw 14 rfl)) (Or.inl (wd hw 70 rfl)) (by decide) (t := (.array (.object "com/example/ripplematch/ripplematch/core/Activation"))) (t' := .int) (by decide) (by decide)))
  have f375 := f348.other W365 (Or.inr (slot_ne (Or.inl (wd hw 83 rfl)) (Or.inl (wd hw 70 rfl)) (by decide) (t := .int) (t' := .int) (by decide) (by decide)))
  have f377 := f359.other W365 (Ne.symm n_a1_HA)
  have f378 := f360.other W365 (Ne.symm n_a1_FA)
  have f379 := f361.wr W365
  have f380 := f362.other W365 (Or.inl (Ne.symm n_a1_x))
  have f381 := f363.wr W365 g_a1
  have N365 := Fr.snoc X365 N347 g_a1
  refine Goes.of st365 ?_
  show Goes p e below (T365.setTop (mkF m 99 #[.val (.ref a1), .val (.ref x)] [])) _
  have eh : T365.heap = h365 := e365
  exact Goes.retV X365 hx Bd.returns hlocks (hb hby d10_99) (⟨rfl, N365, by rw [eh]; exact K367, by rw [eh]; exact f369, by rw [eh]; exact f370, by rw [eh]; exact f371, by rw [eh]; exact f372, by rw [eh]; exact f373, by rw [eh]; exact f374, by rw [eh]; exact f375, by rw [eh]; exact f366, by rw [eh]; exact f377, by rw [eh]; exact f378, by rw [eh]; exact f379, by rw [eh]; exact f380⟩) (by decide) (by decide)
theorem ef_10_382 (m : MethodId) (x0 : Addr) (x1 : Addr) : entryFrame m #[(.ref x0), (.ref x1)] 2 = mkF m 0 #[.val (.ref x0), .val (.ref x1)] [] := by first | (simp [entryFrame, mkF, argsToLocals, Value.category]; done) | rfl
def Q10_382 (Z : State) (a1 : Addr) (x : Addr) (HA : Addr) (FA : Addr) (y : Addr) (kH : ClassId) (kF : ClassId) (h0 : Heap) (n0 : Nat) (v : Option Value) (h : Heap) (L : List Loc) : Prop := v = none ∧ Fr n0 L ∧ Keep h0 h [a1, FA, x] ∧ Exa Z h a1 "com/example/ripplematch/ripplematch/core/Agenda" ∧ Fld Z h a1 "com/example/ripplematch/ripplematch/core/Agenda" "heap" "[Lcom/example/ripplematch/ripplematch/core/Activation;" (.ref HA) ∧ Fld Z h a1 "com/example/ripplematch/ripplematch/core/Agenda" "heapSize" "I" (.int (0 : Int32)) ∧ Fld Z h a1 "com/example/ripplematch/ripplematch/core/Agenda" "gone" "I" (.int (0 : Int32)) ∧ Fld Z h a1 "com/example/ripplematch/ripplematch/core/Agenda" "disordered" "Z" (.int (0 : Int32)) ∧ Fld Z h a1 "com/example/ripplematch/ripplematch/core/Agenda" "fresh" "[Lcom/example/ripplematch/ripplematch/core/Activation;" (.ref FA) ∧ Fld Z h a1 "com/example/ripplematch/ripplematch/core/Agenda" "freshSize" "I" (.int (2 : Int32)) ∧ Fld Z h a1 "com/example/ripplematch/ripplematch/core/Agenda" "size" "I" (.int (2 : Int32)) ∧ Arv Z h HA kH (.object "com/example/ripplematch/ripplematch/core/Activation") (16 : Int32) [.null, .null, .null, .null, .null, .null, .null, .null, .null, .null, .null, .null, .null, .null, .null, .null] .null ∧ Arv Z h FA kF (.object "com/example/ripplematch/ripplematch/core/Activation") (16 : Int32) [(.ref y), (.ref x), .null, .null, .null, .null, .null, .null, .null, .null, .null, .null, .null, .null, .null, .null] .null ∧ Exa Z h x "com/example/ripplematch/ripplematch/core/Activation" ∧ Fld Z h x "com/example/ripplematch/ripplematch/core/Activation" "place" "I" (.int (-3 : Int32))
set_option maxRecDepth 65536 in
set_option maxHeartbeats 40000000 in
theorem rm10_382 (l : Launch) (Z : State) (a0 : Array Value) (hw : ∀ d ∈ tables_1, d.before a0 Z = true) (ws : List Jvm.Cond) (a1 : Addr) (x : Addr) (HA : Addr) (FA : Addr) (y : Addr) (kH : ClassId) (kF : ClassId) (h0 : Heap) (n0 : Nat) (Z0 : n0 ≤ h0.size) (O0 : Old Z n0 h0) (SA : Sta Z Z.heap "com/example/ripplematch/ripplematch/core/Agenda" "$assertionsDisabled" "Z" (.int (1 : Int32))) (E : Exa Z h0 a1 "com/example/ripplematch/ripplematch/core/Agenda") (F_heap : Fld Z h0 a1 "com/example/ripplematch/ripplematch/core/Agenda" "heap" "[Lcom/example/ripplematch/ripplematch/core/Activation;" (.ref HA)) (F_heapSize : Fld Z h0 a1 "com/example/ripplematch/ripplematch/core/Agenda" "heapSize" "I" (.int (0 : Int32))) (F_gone : Fld Z h0 a1 "com/example/ripplematch/ripplematch/core/Agenda" "gone" "I" (.int (0 : Int32))) (F_disordered : Fld Z h0 a1 "com/example/ripplematch/ripplematch/core/Agenda" "disordered" "Z" (.int (0 : Int32))) (F_fresh : Fld Z h0 a1 "com/example/ripplematch/ripplematch/core/Agenda" "fresh" "[Lcom/example/ripplematch/ripplematch/core/Activation;" (.ref FA)) (F_freshSize : Fld Z h0 a1 "com/example/ripplematch/ripplematch/core/Agenda" "freshSize" "I" (.int (1 : Int32))) (F_size : Fld Z h0 a1 "com/example/ripplematch/ripplematch/core/Agenda" "size" "I" (.int (1 : Int32))) (VH : Arv Z h0 HA kH (.object "com/example/ripplematch/ripplematch/core/Activation") (16 : Int32) [.null, .null, .null, .null, .null, .null, .null, .null, .null, .null, .null, .null, .null, .null, .null, .null] .null) (VF : Arv Z h0 FA kF (.object "com/example/ripplematch/ripplematch/core/Activation") (16 : Int32) [(.ref y), .null, .null, .null, .null, .null, .null, .null, .null, .null, .null, .null, .null, .null, .null, .null] .null) (E_x : Exa Z h0 x "com/example/ripplematch/ripplematch/core/Activation") (P_x : Fld Z h0 x "com/example/ripplematch/ripplematch/core/Activation" "place" "I" (.int (-1 : Int32))) (g_a1 : n0 ≤ a1) (g_HA : n0 ≤ HA) (g_FA : n0 ≤ FA) (g_x : n0 ≤ x) (n_a1_HA : a1 ≠ HA) (n_a1_FA : a1 ≠ FA) (n_a1_x : a1 ≠ x) (n_HA_FA : HA ≠ FA) (n_HA_x : HA ≠ x) (n_FA_x : FA ≠ x) (OH : Ovr Z kH "com/example/ripplematch/ripplematch/core/Activation") (OF : Ovr Z kF "com/example/ripplematch/ripplematch/core/Activation") :
    MetFree l (⟨"com/example/ripplematch/ripplematch/core/Agenda", "add", "(Lcom/example/ripplematch/ripplematch/core/Activation;)V"⟩ : MethodName) (head1 (Jvm.Cond.code (⟨"com/example/ripplematch/ripplematch/core/Agenda", "add", "(Lcom/example/ripplematch/ripplematch/core/Activation;)V"⟩ : MethodName) prog_13_method_4_code 2 none :: ws) ({ frames := 0, cells := 0, slots := 0, locals := 0 } : Room)) (fun a U => a = #[(.ref a1), (.ref x)] ∧ Z.Warmed39 U.vm ∧ U.heap = h0) (fun _ _ _ _ _ => True) (fun _ U o U' => ∃ v L, o = .returned v ∧ Q10_382 Z a1 x HA FA y kH kF h0 n0 v U'.heap L ∧ FrameEnd U o U' L ({ frames := 0, cells := 0, slots := 0, locals := 0 } : Room).cells ({ frames := 0, cells := 0, slots := 0, locals := 0 } : Room).slots) := by
  refine MetFree.of_bodySF (plainFor_of_name pn_0) hisR ?_
  intro p e s m args below meth c s₁ Bd hml0 hP hK
  obtain ⟨rfl, hZ, hh⟩ := hP
  have hx := Bd.exec
  have hby := Bd.bytes
  have hml : c.maxLocals = 2 := hml0
  have hown : s.vm.findClass "com/example/ripplematch/ripplematch/core/Agenda" = some m.cls := findClass_of_methodNamed Bd.named
  have hnm := (name_of_methodNamed Bd.named Bd.method).1
  have hlocks : meth.locks = false := BodyLoose.notSynchronized Bd
  have X0 : Stand p l e ({ frames := 0, cells := 0, slots := 0, locals := 0 } : Room) s m #[(.ref a1), (.ref x)] below meth c s₁ [] 0 0 := Stand.of_body Bd
  have e0 : s₁.heap = h0 := by rw [← hh, Bd.state]; rfl
  have N0 := Fr.nil n0
  show Goes p e below (s₁.setTop (entryFrame m #[(.ref a1), (.ref x)] 2)) (Fin s (Q10_382 Z a1 x HA FA y kH kF h0 n0) ({ frames := 0, cells := 0, slots := 0, locals := 0 } : Room).cells ({ frames := 0, cells := 0, slots := 0, locals := 0 } : Room).slots)
  refine Goes.of (fun t k => castTop (ef_10_382 m a1 x) k) ?_
  have K0 : Keep h0 h0 [a1, FA, x] := Keep.refl _ _
  obtain ⟨T383, X383, e383, st383⟩ := getS2 X0 hx hZ hown (host := "") (Or.inl (wd hw 80 rfl)) Via.refl e0 (SA.ext O0.2) (g := (mkF m 0 #[.val (.ref a1), .val (.ref x)] [])) rfl (hb hby d10_0)
  refine Goes.of st383 ?_
  show Goes p e below (T383.setTop (mkF m 3 #[.val (.ref a1), .val (.ref x)] [(.int (1 : Int32))])) _
  refine Goes.of (fun t k => XS.ifYes X383.here hx rfl (pc0 := 3) (pc' := 26) rfl (hb hby d10_3) rfl ((if0 _ _).trans (feq (by decide)).2) (by decide) (by decide) k) ?_
  show Goes p e below (T383.setTop (mkF m 26 #[.val (.ref a1), .val (.ref x)] [])) _
  refine Goes.of (fun t k => XS.aloadN X383.here hx rfl (hb hby d10_26) rfl rfl k) ?_
  obtain ⟨T384, X384, e384, st384⟩ := getF X383 hx hZ hown (host := "") (Or.inl (wd hw 82 rfl)) Via.refl e383 F_freshSize (g := (mkF m 27 #[.val (.ref a1), .val (.ref x)] [(.ref a1)])) rfl rfl (hb hby d10_27)
  refine Goes.of st384 ?_
  show Goes p e below (T384.setTop (mkF m 30 #[.val (.ref a1), .val (.ref x)] [(.int (1 : Int32))])) _
  refine Goes.of (fun t k => XS.aloadN X384.here hx rfl (hb hby d10_30) rfl rfl k) ?_
  obtain ⟨T385, X385, e385, st385⟩ := getF X384 hx hZ hown (host := "") (Or.inl (wd hw 13 rfl)) Via.refl e384 F_fresh (g := (mkF m 31 #[.val (.ref a1), .val (.ref x)] [(.ref a1), (.int (1 : Int32))])) rfl rfl (hb hby d10_31)
  refine Goes.of st385 ?_
  have Vc386 := VF
  obtain ⟨clc386, Arc386, qc386, Sc386, Nc386, Hc386, Gc386⟩ := Vc386
  refine Goes.of (X385.arraylength hx (by rw [e385]; exact Arc386.1) (State.isArrayOf_alike hZ.alike Arc386.2.1) (g := (mkF m 34 #[.val (.ref a1), .val (.ref x)] [(.ref FA), (.int (1 : Int32))])) rfl rfl (hb hby d10_34)) ?_
  rw [len_of Sc386 Nc386]
  show Goes p e below (T385.setTop (mkF m 35 #[.val (.ref a1), .val (.ref x)] [(.int (16 : Int32)), (.int (1 : Int32))])) _
  refine Goes.of (fun t k => XS.icmpYes X385.here hx rfl (pc0 := 35) (pc' := 58) rfl (hb hby d10_35) rfl (feq (by decide)).2 (by decide) (by decide) k) ?_
  show Goes p e below (T385.setTop (mkF m 58 #[.val (.ref a1), .val (.ref x)] [])) _
  refine Goes.of (fun t k => XS.aloadN X385.here hx rfl (hb hby d10_58) rfl rfl k) ?_
  obtain ⟨T387, X387, e387, st387⟩ := getF X385 hx hZ hown (host := "") (Or.inl (wd hw 13 rfl)) Via.refl e385 F_fresh (g := (mkF m 59 #[.val (.ref a1), .val (.ref x)] [(.ref a1)])) rfl rfl (hb hby d10_59)
  refine Goes.of st387 ?_
  show Goes p e below (T387.setTop (mkF m 62 #[.val (.ref a1), .val (.ref x)] [(.ref FA)])) _
  refine Goes.of (fun t k => XS.aloadN X387.here hx rfl (hb hby d10_62) rfl rfl k) ?_
  obtain ⟨T388, X388, e388, st388⟩ := getF X387 hx hZ hown (host := "") (Or.inl (wd hw 82 rfl)) Via.refl e387 F_freshSize (g := (mkF m 63 #[.val (.ref a1), .val (.ref x)] [(.ref a1), (.ref FA)])) rfl rfl (hb hby d10_63)
  refine Goes.of st388 ?_
  show Goes p e below (T388.setTop (mkF m 66 #[.val (.ref a1), .val (.ref x)] [(.int (1 : Int32)), (.ref FA)])) _
  refine Goes.of (fun t k => XS.aloadN X388.here hx rfl (hb hby d10_66) rfl rfl k) ?_
  have Vc389 := VF
  obtain ⟨clc389, Arc389, qc389, Sc389, Nc389, Hc389, Gc389⟩ := Vc389
  have hin390 : ¬ ((1 : Int32) < 0 ∨ clc389.slots.size ≤ ((1 : Int32)).toNatClampNeg) := inb_of Sc389 ⟨by decide, by decide⟩
  obtain ⟨T391, h391, X391, e391, W391, st391⟩ := stR X388 hx hZ e388 Arc389 (j := (1 : Int32)) hin390 rfl (Sto.ofV Arc389 qc389 OF (Ins.self E_x)) (g := (mkF m 67 #[.val (.ref a1), .val (.ref x)] [(.ref x), (.int (1 : Int32)), (.ref FA)])) rfl rfl (hb hby d10_67)
  have V391 : Arv Z h391 FA kF (.object "com/example/ripplematch/ripplematch/core/Activation") (16 : Int32) [(.ref y), (.ref x), .null, .null, .null, .null, .null, .null, .null, .null, .null, .null, .null, .null, .null, .null] .null := Arv.set Arc389 qc389 Sc389 Nc389 Hc389 Gc389 rfl W391 1 rfl (Nat.le_of_ble_eq_true rfl)
  have K392 : Keep h0 h391 [a1, FA, x] := K0.wr W391 (Or.inl (List.mem_of_getElem? (i := 1) rfl))
  have z393 : n0 ≤ h391.size := Nat.le_trans Z0 (Keep.of_wr W391).1
  have f394 := E.wr W391
  have f395 := F_heap.other W391 (Or.inl n_a1_FA)
  have f396 := F_heapSize.other W391 (Or.inl n_a1_FA)
  have f397 := F_gone.other W391 (Or.inl n_a1_FA)
  have f398 := F_disordered.other W391 (Or.inl n_a1_FA)
  have f399 := F_fresh.other W391 (Or.inl n_a1_FA)
  have f400 := F_freshSize.other W391 (Or.inl n_a1_FA)
  have f401 := F_size.other W391 (Or.inl n_a1_FA)
  have f402 := VH.other W391 n_HA_FA
  have f404 := E_x.wr W391
  have f405 := P_x.other W391 (Or.inl (Ne.symm n_FA_x))
  have f406 := O0.wr W391 g_FA
  have N391 := Fr.snoc X391 N0 g_FA
  refine Goes.of st391 ?_
  show Goes p e below (T391.setTop (mkF m 68 #[.val (.ref a1), .val (.ref x)] [])) _
  refine Goes.of (fun t k => XS.aloadN X391.here hx rfl (hb hby d10_68) rfl rfl k) ?_
  show Goes p e below (T391.setTop (mkF m 69 #[.val (.ref a1), .val (.ref x)] [(.ref x)])) _
  refine Goes.of (fun t k => XS.bipush X391.here hx rfl (hb hby d10_69) k) ?_
  show Goes p e below (T391.setTop (mkF m 71 #[.val (.ref a1), .val (.ref x)] [(.int (-2 : Int32)), (.ref x)])) _
  refine Goes.of (fun t k => XS.aloadN X391.here hx rfl (hb hby d10_71) rfl rfl k) ?_
  obtain ⟨T407, X407, e407, st407⟩ := getF X391 hx hZ hown (host := "") (Or.inl (wd hw 82 rfl)) Via.refl e391 f400 (g := (mkF m 72 #[.val (.ref a1), .val (.ref x)] [(.ref a1), (.int (-2 : Int32)), (.ref x)])) rfl rfl (hb hby d10_72)
  refine Goes.of st407 ?_
  show Goes p e below (T407.setTop (mkF m 75 #[.val (.ref a1), .val (.ref x)] [(.int (1 : Int32)), (.int (-2 : Int32)), (.ref x)])) _
  refine Goes.of (fun t k => XS.isub X407.here hx rfl (hb hby d10_75) rfl k) ?_
  obtain ⟨T408, h408, X408, e408, W408, st408⟩ := putF X407 hx hZ hown (host := "") (Or.inl (wd hw 84 rfl)) Via.refl e407 f405 f404 (Or.inl (wd hw 45 rfl)) (wd hw 38 rfl) (ty := .int) (by decide) rfl rfl (g := (mkF m 76 #[.val (.ref a1), .val (.ref x)] [(.int (-3 : Int32)), (.ref x)])) rfl rfl (hb hby d10_76)
  have f409 := f405.same W408
  have K410 : Keep h0 h408 [a1, FA, x] := K392.wr W408 (Or.inl (List.mem_of_getElem? (i := 2) rfl))
  have z411 : n0 ≤ h408.size := Nat.le_trans z393 (Keep.of_wr W408).1
  have f412 := f394.wr W408
  have f413 := f395.other W408 (Or.inl n_a1_x)
  have f414 := f396.other W408 (Or.inl n_a1_x)
  have f415 := f397.other W408 (Or.inl n_a1_x)
  have f416 := f398.other W408 (Or.inl n_a1_x)
  have f417 := f399.other W408 (Or.inl n_a1_x)
  have f418 := f400.other W408 (Or.inl n_a1_x)
  have f419 := f401.other W408 (Or.inl n_a1_x)
  have f420 := f402.other W408 n_HA_x
  have f421 := V391.other W408 n_FA_x
  have f422 := f404.wr W408
  have f424 := f406.wr W408 g_x
  have N408 := Fr.snoc X408 N391 g_x
  refine Goes.of st408 ?_
  show Goes p e below (T408.setTop (mkF m 79 #[.val (.ref a1), .val (.ref x)] [])) _
  refine Goes.of (fun t k => XS.aloadN X408.here hx rfl (hb hby d10_79) rfl rfl k) ?_
  show Goes p e below (T408.setTop (mkF m 80 #[.val (.ref a1), .val (.ref x)] [(.ref a1)])) _
  refine Goes.of (fun t k => XS.dup X408.here hx rfl (hb hby d10_80) rfl rfl k) ?_
  obtain ⟨T425, X425, e425, st425⟩ := getF X408 hx hZ hown (host := "") (Or.inl (wd hw 82 rfl)) Via.refl e408 f418 (g := (mkF m 81 #[.val (.ref a1), .val (.ref x)] [(.ref a1), (.ref a1)])) rfl rfl (hb hby d10_81)
  refine Goes.of st425 ?_
  show Goes p e below (T425.setTop (mkF m 84 #[.val (.ref a1), .val (.ref x)] [(.int (1 : Int32)), (.ref a1)])) _
  refine Goes.of (fun t k => XS.iconst X425.here hx rfl (hb hby d10_84) k) ?_
  show Goes p e below (T425.setTop (mkF m 85 #[.val (.ref a1), .val (.ref x)] [(.int (1 : Int32)), (.int (1 : Int32)), (.ref a1)])) _
  refine Goes.of (fun t k => XS.iadd X425.here hx rfl (hb hby d10_85) rfl k) ?_
  obtain ⟨T426, h426, X426, e426, W426, st426⟩ := putF X425 hx hZ hown (host := "") (Or.inl (wd hw 82 rfl)) Via.refl e425 f418 f412 (Or.inl (wd hw 83 rfl)) (wd hw 1 rfl) (ty := .int) (by decide) rfl rfl (g := (mkF m 86 #[.val (.ref a1), .val (.ref x)] [(.int (2 : Int32)), (.ref a1)])) rfl rfl (hb hby d10_86)
  have f427 := f418.same W426
  have K428 : Keep h0 h426 [a1, FA, x] := K410.wr W426 (Or.inl (List.mem_of_getElem? (i := 0) rfl))
  have z429 : n0 ≤ h426.size := Nat.le_trans z411 (Keep.of_wr W426).1
  have f430 := f412.wr W426
  have f431 := f413.other W426 (Or.inr (slot_ne (Or.inl (wd hw 12 rfl)) (Or.inl (wd hw 83 rfl)) (by decide) (t := (.array (.object "com/example/ripplematch/ripplematch/core/Activation"))) (t' := .int) (by decide) (by decide)))
  have f432 := f414.other W426 (Or.inr (slot_ne (Or.inl (wd hw 104 rfl)) (Or.inl (wd hw 83 rfl)) (by decide) (t := .int) (t' := .int) (by decide) (by decide)))
  have f433 := f415.other W426 (Or.inr (slot_ne (Or.inl (wd hw 102 rfl)) (Or.inl (wd hw 83 rfl)) (by decide) (t := .int) (t' := .int) (by decide) (by decide)))
  have f434 := f416.other W426 (Or.inr (slot_ne (Or.inl (wd hw 100 rfl)) (Or.inl (wd hw 83 rfl)) (by decide) (t := .boolean) (t' := .int) (by decide) (by decide)))
  have f435 := f417.other W426 (Or.inr (slot_ne (Or.inl (wd hw 14 rfl)) (Or.inl (wd hw 83 rfl)) (by decide) (t := (.array (.object "com/example/ripplematch/ripplematch/core/Activation"))) (t' := .int) (by decide) (by decide)))
  have f437 := f419.other W426 (Or.inr (slot_ne (Or.inl (wd hw 70 rfl)) (Or.inl (wd hw 83 rfl)) (by decide) (t := .int) (t' := .int) (by decide) (by decide)))
  have f438 := f420.other W426 (Ne.symm n_a1_HA)
  have f439 := f421.other W426 (Ne.symm n_a1_FA)
  have f440 := f422.wr W426
  have f441 := f409.other W426 (Or.inl (Ne.symm n_a1_x))
  have f442 := f424.wr W426 g_a1
  have N426 := Fr.snoc X426 N408 g_a1
  refine Goes.of st426 ?_
  show Goes p e below (T426.setTop (mkF m 89 #[.val (.ref a1), .val (.ref x)] [])) _
  refine Goes.of (fun t k => XS.aloadN X426.here hx rfl (hb hby d10_89) rfl rfl k) ?_
  show Goes p e below (T426.setTop (mkF m 90 #[.val (.ref a1), .val (.ref x)] [(.ref a1)])) _
  refine Goes.of (fun t k => XS.dup X426.here hx rfl (hb hby d10_90) rfl rfl k) ?_
  obtain ⟨T443, X443, e443, st443⟩ := getF X426 hx hZ hown (host := "") (Or.inl (wd hw 69 rfl)) Via.refl e426 f437 (g := (mkF m 91 #[.val (.ref a1), .val (.ref x)] [(.ref a1), (.ref a1)])) rfl rfl (hb hby d10_91)
  refine Goes.of st443 ?_
  show Goes p e below (T443.setTop (mkF m 94 #[.val (.ref a1), .val (.ref x)] [(.int (1 : Int32)), (.ref a1)])) _
  refine Goes.of (fun t k => XS.iconst X443.here hx rfl (hb hby d10_94) k) ?_
  show Goes p e below (T443.setTop (mkF m 95 #[.val (.ref a1), .val (.ref x)] [(.int (1 : Int32)), (.int (1 : Int32)), (.ref a1)])) _
  refine Goes.of (fun t k => XS.iadd X443.here hx rfl (hb hby d10_95) rfl k) ?_
  obtain ⟨T444, h444, X444, e444, W444, st444⟩ := putF X443 hx hZ hown (host := "") (Or.inl (wd hw 69 rfl)) Via.refl e443 f437 f430 (Or.inl (wd hw 70 rfl)) (wd hw 1 rfl) (ty := .int) (by decide) rfl rfl (g := (mkF m 96 #[.val (.ref a1), .val (.ref x)] [(.int (2 : Int32)), (.ref a1)])) rfl rfl (hb hby d10_96)
  have f445 := f437.same W444
  have K446 : Keep h0 h444 [a1, FA, x] := K428.wr W444 (Or.inl (List.mem_of_getElem? (i := 0) rfl))
  have z447 : n0 ≤ h444.size := Nat.le_trans z429 (Keep.of_wr W444).1
  have f448 := f430.wr W444
  have f449 := f431.other W444 (Or.inr (slot_ne (Or.inl (wd hw 12 rfl)) (Or.inl (wd hw 70 rfl)) (by decide) (t := (.array (.object "com/example/ripplematch/ripplematch/core/Activation"))) (t' := .int) (by decide) (by decide)))
  have f450 := f432.other W444 (Or.inr (slot_ne (Or.inl (wd hw 104 rfl)) (Or.inl (wd hw 70 rfl)) (by decide) (t := .int) (t' := .int) (by decide) (by decide)))
  have f451 := f433.other W444 (Or.inr (slot_ne (Or.inl (wd hw 102 rfl)) (Or.inl (wd hw 70 rfl)) (by decide) (t := .int) (t' := .int) (by decide) (by decide)))
  have f452 := f434.other W444 (Or.inr (slot_ne (Or.inl (wd hw 100 rfl)) (Or.inl (wd hw 70 rfl)) (by decide) (t := .boolean) (t' := .int) (by decide) (by decide)))
  have f453 := f435.other W444 (Or.inr (slot_ne (Or.inl (wd hw 14 rfl)) (Or.inl (wd hw 70 rfl)) (by decide) (t := (.array (.object "com/example/ripplematch/ripplematch/core/Activation"))) (t' := .int) (by decide) (by decide)))
  have f454 := f427.other W444 (Or.inr (slot_ne (Or.inl (wd hw 83 rfl)) (Or.inl (wd hw 70 rfl)) (by decide) (t := .int) (t' := .int) (by decide) (by decide)))
  have f456 := f438.other W444 (Ne.symm n_a1_HA)
  have f457 := f439.other W444 (Ne.symm n_a1_FA)
  have f458 := f440.wr W444
  have f459 := f441.other W444 (Or.inl (Ne.symm n_a1_x))
  have f460 := f442.wr W444 g_a1
  have N444 := Fr.snoc X444 N426 g_a1
  refine Goes.of st444 ?_
  show Goes p e below (T444.setTop (mkF m 99 #[.val (.ref a1), .val (.ref x)] [])) _
  have eh : T444.heap = h444 := e444
  exact Goes.retV X444 hx Bd.returns hlocks (hb hby d10_99) (⟨rfl, N444, by rw [eh]; exact K446, by rw [eh]; exact f448, by rw [eh]; exact f449, by rw [eh]; exact f450, by rw [eh]; exact f451, by rw [eh]; exact f452, by rw [eh]; exact f453, by rw [eh]; exact f454, by rw [eh]; exact f445, by rw [eh]; exact f456, by rw [eh]; exact f457, by rw [eh]; exact f458, by rw [eh]; exact f459⟩) (by decide) (by decide)
theorem ef_11 (m : MethodId) (x0 : Addr) (x1 : Addr) : entryFrame m #[(.ref x0), (.ref x1)] 5 = mkF m 0 #[.val (.ref x0), .val (.ref x1), .unset, .unset, .unset] [] := by first | (simp [entryFrame, mkF, argsToLocals, Value.category]; done) | rfl
def Q11 (Z : State) (a1 : Addr) (x : Addr) (HA : Addr) (FA : Addr) (kH : ClassId) (kF : ClassId) (h0 : Heap) (n0 : Nat) (v : Option Value) (h : Heap) (L : List Loc) : Prop := v = none ∧ Fr n0 L ∧ Keep h0 h [a1, FA, x] ∧ Exa Z h a1 "com/example/ripplematch/ripplematch/core/Agenda" ∧ Fld Z h a1 "com/example/ripplematch/ripplematch/core/Agenda" "heap" "[Lcom/example/ripplematch/ripplematch/core/Activation;" (.ref HA) ∧ Fld Z h a1 "com/example/ripplematch/ripplematch/core/Agenda" "heapSize" "I" (.int (0 : Int32)) ∧ Fld Z h a1 "com/example/ripplematch/ripplematch/core/Agenda" "gone" "I" (.int (0 : Int32)) ∧ Fld Z h a1 "com/example/ripplematch/ripplematch/core/Agenda" "disordered" "Z" (.int (0 : Int32)) ∧ Fld Z h a1 "com/example/ripplematch/ripplematch/core/Agenda" "fresh" "[Lcom/example/ripplematch/ripplematch/core/Activation;" (.ref FA) ∧ Fld Z h a1 "com/example/ripplematch/ripplematch/core/Agenda" "freshSize" "I" (.int (0 : Int32)) ∧ Fld Z h a1 "com/example/ripplematch/ripplematch/core/Agenda" "size" "I" (.int (0 : Int32)) ∧ Arv Z h HA kH (.object "com/example/ripplematch/ripplematch/core/Activation") (16 : Int32) [.null, .null, .null, .null, .null, .null, .null, .null, .null, .null, .null, .null, .null, .null, .null, .null] .null ∧ Arv Z h FA kF (.object "com/example/ripplematch/ripplematch/core/Activation") (16 : Int32) [.null, .null, .null, .null, .null, .null, .null, .null, .null, .null, .null, .null, .null, .null, .null, .null] .null ∧ Exa Z h x "com/example/ripplematch/ripplematch/core/Activation" ∧ Fld Z h x "com/example/ripplematch/ripplematch/core/Activation" "place" "I" (.int (-1 : Int32))
set_option maxRecDepth 65536 in
set_option maxHeartbeats 40000000 in
theorem rm11 (l : Launch) (Z : State) (a0 : Array Value) (hw : ∀ d ∈ tables_1, d.before a0 Z = true) (ws : List Jvm.Cond) (a1 : Addr) (x : Addr) (HA : Addr) (FA : Addr) (kH : ClassId) (kF : ClassId) (h0 : Heap) (n0 : Nat) (Z0 : n0 ≤ h0.size) (O0 : Old Z n0 h0) (SA : Sta Z Z.heap "com/example/ripplematch/ripplematch/core/Agenda" "$assertionsDisabled" "Z" (.int (1 : Int32))) (E : Exa Z h0 a1 "com/example/ripplematch/ripplematch/core/Agenda") (F_heap : Fld Z h0 a1 "com/example/ripplematch/ripplematch/core/Agenda" "heap" "[Lcom/example/ripplematch/ripplematch/core/Activation;" (.ref HA)) (F_heapSize : Fld Z h0 a1 "com/example/ripplematch/ripplematch/core/Agenda" "heapSize" "I" (.int (0 : Int32))) (F_gone : Fld Z h0 a1 "com/example/ripplematch/ripplematch/core/Agenda" "gone" "I" (.int (0 : Int32))) (F_disordered : Fld Z h0 a1 "com/example/ripplematch/ripplematch/core/Agenda" "disordered" "Z" (.int (0 : Int32))) (F_fresh : Fld Z h0 a1 "com/example/ripplematch/ripplematch/core/Agenda" "fresh" "[Lcom/example/ripplematch/ripplematch/core/Activation;" (.ref FA)) (F_freshSize : Fld Z h0 a1 "com/example/ripplematch/ripplematch/core/Agenda" "freshSize" "I" (.int (1 : Int32))) (F_size : Fld Z h0 a1 "com/example/ripplematch/ripplematch/core/Agenda" "size" "I" (.int (1 : Int32))) (VH : Arv Z h0 HA kH (.object "com/example/ripplematch/ripplematch/core/Activation") (16 : Int32) [.null, .null, .null, .null, .null, .null, .null, .null, .null, .null, .null, .null, .null, .null, .null, .null] .null) (VF : Arv Z h0 FA kF (.object "com/example/ripplematch/ripplematch/core/Activation") (16 : Int32) [(.ref x), .null, .null, .null, .null, .null, .null, .null, .null, .null, .null, .null, .null, .null, .null, .null] .null) (E_x : Exa Z h0 x "com/example/ripplematch/ripplematch/core/Activation") (P_x : Fld Z h0 x "com/example/ripplematch/ripplematch/core/Activation" "place" "I" (.int (-2 : Int32))) (g_a1 : n0 ≤ a1) (g_HA : n0 ≤ HA) (g_FA : n0 ≤ FA) (g_x : n0 ≤ x) (n_a1_HA : a1 ≠ HA) (n_a1_FA : a1 ≠ FA) (n_a1_x : a1 ≠ x) (n_HA_FA : HA ≠ FA) (n_HA_x : HA ≠ x) (n_FA_x : FA ≠ x) (OH : Ovr Z kH "com/example/ripplematch/ripplematch/core/Activation") (OF : Ovr Z kF "com/example/ripplematch/ripplematch/core/Activation") :
    MetFree l (⟨"com/example/ripplematch/ripplematch/core/Agenda", "remove", "(Lcom/example/ripplematch/ripplematch/core/Activation;)V"⟩ : MethodName) (head1 (Jvm.Cond.code (⟨"com/example/ripplematch/ripplematch/core/Agenda", "remove", "(Lcom/example/ripplematch/ripplematch/core/Activation;)V"⟩ : MethodName) prog_13_method_5_code 5 none :: ws) ({ frames := 0, cells := 0, slots := 0, locals := 0 } : Room)) (fun a U => a = #[(.ref a1), (.ref x)] ∧ Z.Warmed39 U.vm ∧ U.heap = h0) (fun _ _ _ _ _ => True) (fun _ U o U' => ∃ v L, o = .returned v ∧ Q11 Z a1 x HA FA kH kF h0 n0 v U'.heap L ∧ FrameEnd U o U' L ({ frames := 0, cells := 0, slots := 0, locals := 0 } : Room).cells ({ frames := 0, cells := 0, slots := 0, locals := 0 } : Room).slots) := by
  refine MetFree.of_bodySF (plainFor_of_name pn_0) hisR ?_
  intro p e s m args below meth c s₁ Bd hml0 hP hK
  obtain ⟨rfl, hZ, hh⟩ := hP
  have hx := Bd.exec
  have hby := Bd.bytes
  have hml : c.maxLocals = 5 := hml0
  have hown : s.vm.findClass "com/example/ripplematch/ripplematch/core/Agenda" = some m.cls := findClass_of_methodNamed Bd.named
  have hnm := (name_of_methodNamed Bd.named Bd.method).1
  have hlocks : meth.locks = false := BodyLoose.notSynchronized Bd
  have X0 : Stand p l e ({ frames := 0, cells := 0, slots := 0, locals := 0 } : Room) s m #[(.ref a1), (.ref x)] below meth c s₁ [] 0 0 := Stand.of_body Bd
  have e0 : s₁.heap = h0 := by rw [← hh, Bd.state]; rfl
  have N0 := Fr.nil n0
  show Goes p e below (s₁.setTop (entryFrame m #[(.ref a1), (.ref x)] 5)) (Fin s (Q11 Z a1 x HA FA kH kF h0 n0) ({ frames := 0, cells := 0, slots := 0, locals := 0 } : Room).cells ({ frames := 0, cells := 0, slots := 0, locals := 0 } : Room).slots)
  refine Goes.of (fun t k => castTop (ef_11 m a1 x) k) ?_
  have K0 : Keep h0 h0 [a1, FA, x] := Keep.refl _ _
  show Goes p e below (s₁.setTop (mkF m 0 #[.val (.ref a1), .val (.ref x), .unset, .unset, .unset] [])) _
  refine Goes.of (fun t k => XS.aloadN X0.here hx rfl (hb hby d11_0) rfl rfl k) ?_
  obtain ⟨T461, X461, e461, st461⟩ := getF X0 hx hZ hown (host := "") (Or.inl (wd hw 84 rfl)) Via.refl e0 P_x (g := (mkF m 1 #[.val (.ref a1), .val (.ref x), .unset, .unset, .unset] [(.ref x)])) rfl rfl (hb hby d11_1)
  refine Goes.of st461 ?_
  show Goes p e below (T461.setTop (mkF m 4 #[.val (.ref a1), .val (.ref x), .unset, .unset, .unset] [(.int (-2 : Int32))])) _
  refine Goes.of (fun t k => XS.istoreN X461.here hx rfl (hb hby d11_4) rfl (l' := #[.val (.ref a1), .val (.ref x), .val (.int (-2 : Int32)), .unset, .unset]) rfl k) ?_
  obtain ⟨T462, X462, e462, st462⟩ := getS2 X461 hx hZ hown (host := "") (Or.inl (wd hw 80 rfl)) Via.refl e461 (SA.ext O0.2) (g := (mkF m 5 #[.val (.ref a1), .val (.ref x), .val (.int (-2 : Int32)), .unset, .unset] [])) rfl (hb hby d11_5)
  refine Goes.of st462 ?_
  show Goes p e below (T462.setTop (mkF m 8 #[.val (.ref a1), .val (.ref x), .val (.int (-2 : Int32)), .unset, .unset] [(.int (1 : Int32))])) _
  refine Goes.of (fun t k => XS.ifYes X462.here hx rfl (pc0 := 8) (pc' := 33) rfl (hb hby d11_8) rfl ((if0 _ _).trans (feq (by decide)).2) (by decide) (by decide) k) ?_
  show Goes p e below (T462.setTop (mkF m 33 #[.val (.ref a1), .val (.ref x), .val (.int (-2 : Int32)), .unset, .unset] [])) _
  refine Goes.of (fun t k => XS.iloadN X462.here hx rfl (hb hby d11_33) rfl k) ?_
  show Goes p e below (T462.setTop (mkF m 34 #[.val (.ref a1), .val (.ref x), .val (.int (-2 : Int32)), .unset, .unset] [(.int (-2 : Int32))])) _
  refine Goes.of (fun t k => XS.ifYes X462.here hx rfl (pc0 := 34) (pc' := 50) rfl (hb hby d11_34) rfl ((if0 _ _).trans (tlt (by decide)).1) (by decide) (by decide) k) ?_
  show Goes p e below (T462.setTop (mkF m 50 #[.val (.ref a1), .val (.ref x), .val (.int (-2 : Int32)), .unset, .unset] [])) _
  refine Goes.of (fun t k => XS.bipush X462.here hx rfl (hb hby d11_50) k) ?_
  show Goes p e below (T462.setTop (mkF m 52 #[.val (.ref a1), .val (.ref x), .val (.int (-2 : Int32)), .unset, .unset] [(.int (-2 : Int32))])) _
  refine Goes.of (fun t k => XS.iloadN X462.here hx rfl (hb hby d11_52) rfl k) ?_
  show Goes p e below (T462.setTop (mkF m 53 #[.val (.ref a1), .val (.ref x), .val (.int (-2 : Int32)), .unset, .unset] [(.int (-2 : Int32)), (.int (-2 : Int32))])) _
  refine Goes.of (fun t k => XS.isub X462.here hx rfl (hb hby d11_53) rfl k) ?_
  show Goes p e below (T462.setTop (mkF m 54 #[.val (.ref a1), .val (.ref x), .val (.int (-2 : Int32)), .unset, .unset] [(.int (0 : Int32))])) _
  refine Goes.of (fun t k => XS.istoreN X462.here hx rfl (hb hby d11_54) rfl (l' := #[.val (.ref a1), .val (.ref x), .val (.int (-2 : Int32)), .val (.int (0 : Int32)), .unset]) rfl k) ?_
  show Goes p e below (T462.setTop (mkF m 55 #[.val (.ref a1), .val (.ref x), .val (.int (-2 : Int32)), .val (.int (0 : Int32)), .unset] [])) _
  refine Goes.of (fun t k => XS.aloadN X462.here hx rfl (hb hby d11_55) rfl rfl k) ?_
  obtain ⟨T463, X463, e463, st463⟩ := getF X462 hx hZ hown (host := "") (Or.inl (wd hw 13 rfl)) Via.refl e462 F_fresh (g := (mkF m 56 #[.val (.ref a1), .val (.ref x), .val (.int (-2 : Int32)), .val (.int (0 : Int32)), .unset] [(.ref a1)])) rfl rfl (hb hby d11_56)
  refine Goes.of st463 ?_
  show Goes p e below (T463.setTop (mkF m 59 #[.val (.ref a1), .val (.ref x), .val (.int (-2 : Int32)), .val (.int (0 : Int32)), .unset] [(.ref FA)])) _
  refine Goes.of (fun t k => XS.aloadN X463.here hx rfl (hb hby d11_59) rfl rfl k) ?_
  show Goes p e below (T463.setTop (mkF m 60 #[.val (.ref a1), .val (.ref x), .val (.int (-2 : Int32)), .val (.int (0 : Int32)), .unset] [(.ref a1), (.ref FA)])) _
  refine Goes.of (fun t k => XS.dup X463.here hx rfl (hb hby d11_60) rfl rfl k) ?_
  obtain ⟨T464, X464, e464, st464⟩ := getF X463 hx hZ hown (host := "") (Or.inl (wd hw 82 rfl)) Via.refl e463 F_freshSize (g := (mkF m 61 #[.val (.ref a1), .val (.ref x), .val (.int (-2 : Int32)), .val (.int (0 : Int32)), .unset] [(.ref a1), (.ref a1), (.ref FA)])) rfl rfl (hb hby d11_61)
  refine Goes.of st464 ?_
  show Goes p e below (T464.setTop (mkF m 64 #[.val (.ref a1), .val (.ref x), .val (.int (-2 : Int32)), .val (.int (0 : Int32)), .unset] [(.int (1 : Int32)), (.ref a1), (.ref FA)])) _
  refine Goes.of (fun t k => XS.iconst X464.here hx rfl (hb hby d11_64) k) ?_
  show Goes p e below (T464.setTop (mkF m 65 #[.val (.ref a1), .val (.ref x), .val (.int (-2 : Int32)), .val (.int (0 : Int32)), .unset] [(.int (1 : Int32)), (.int (1 : Int32)), (.ref a1), (.ref FA)])) _
  refine Goes.of (fun t k => XS.isub X464.here hx rfl (hb hby d11_65) rfl k) ?_
  show Goes p e below (T464.setTop (mkF m 66 #[.val (.ref a1), .val (.ref x), .val (.int (-2 : Int32)), .val (.int (0 : Int32)), .unset] [(.int (0 : Int32)), (.ref a1), (.ref FA)])) _
  refine Goes.of (fun t k => XS.dupX1 X464.here hx rfl (hb hby d11_66) rfl rfl rfl k) ?_
  obtain ⟨T465, h465, X465, e465, W465, st465⟩ := putF X464 hx hZ hown (host := "") (Or.inl (wd hw 82 rfl)) Via.refl e464 F_freshSize E (Or.inl (wd hw 83 rfl)) (wd hw 1 rfl) (ty := .int) (by decide) rfl rfl (g := (mkF m 67 #[.val (.ref a1), .val (.ref x), .val (.int (-2 : Int32)), .val (.int (0 : Int32)), .unset] [(.int (0 : Int32)), (.ref a1), (.int (0 : Int32)), (.ref FA)])) rfl rfl (hb hby d11_67)
  have f466 := F_freshSize.same W465
  have K467 : Keep h0 h465 [a1, FA, x] := K0.wr W465 (Or.inl (List.mem_of_getElem? (i := 0) rfl))
  have z468 : n0 ≤ h465.size := Nat.le_trans Z0 (Keep.of_wr W465).1
  have f469 := E.wr W465
  have f470 := F_heap.other W465 (Or.inr (slot_ne (Or.inl (wd hw 12 rfl)) (Or.inl (wd hw 83 rfl)) (by decide) (t := (.array (.object "com/example/ripplematch/ripplematch/core/Activation"))) (t' := .int) (by decide) (by decide)))
  have f471 := F_heapSize.other W465 (Or.inr (slot_ne (Or.inl (wd hw 104 rfl)) (Or.inl (wd hw 83 rfl)) (by decide) (t := .int) (t' := .int) (by decide) (by decide)))
  have f472 := F_gone.other W465 (Or.inr (slot_ne (Or.inl (wd hw 102 rfl)) (Or.inl (wd hw 83 rfl)) (by decide) (t := .int) (t' := .int) (by decide) (by decide)))
  have f473 := F_disordered.other W465 (Or.inr (slot_ne (Or.inl (wd hw 100 rfl)) (Or.inl (wd hw 83 rfl)) (by decide) (t := .boolean) (t' := .int) (by decide) (by decide)))
  have f474 := F_fresh.other W465 (Or.inr (slot_ne (Or.inl (wd hw 14 rfl)) (Or.inl (wd hw 83 rfl)) (by decide) (t := (.array (.object "com/example/ripplematch/ripplematch/core/Activation"))) (t' := .int) (by decide) (by decide)))
  have f476 := F_size.other W465 (Or.inr (slot_ne (Or.inl (wd hw 70 rfl)) (Or.inl (wd hw 83 rfl)) (by decide) (t := .int) (t' := .int) (by decide) (by decide)))
  have f477 := VH.other W465 (Ne.symm n_a1_HA)
  have f478 := VF.other W465 (Ne.symm n_a1_FA)
  have f479 := E_x.wr W465
  have f480 := P_x.other W465 (Or.inl (Ne.symm n_a1_x))
  have f481 := O0.wr W465 g_a1
  have N465 := Fr.snoc X465 N0 g_a1
  refine Goes.of st465 ?_
  have Vc482 := f478
  obtain ⟨clc482, Arc482, qc482, Sc482, Nc482, Hc482, Gc482⟩ := Vc482
  have hin483 : ¬ ((0 : Int32) < 0 ∨ clc482.slots.size ≤ ((0 : Int32)).toNatClampNeg) := inb_of Sc482 ⟨by decide, by decide⟩
  have hat484 : clc482.slots[((0 : Int32)).toNatClampNeg]? = some (.ref x) := Hc482.at hin483 rfl
  refine Goes.of (fun t k => X465.aaload hx (j := (0 : Int32)) (v := (.ref x)) (by rw [e465]; exact Arc482.1) (State.isArrayOf_alike hZ.alike Arc482.2.1) rfl Arc482.2.2 hin483 hat484 (g := (mkF m 70 #[.val (.ref a1), .val (.ref x), .val (.int (-2 : Int32)), .val (.int (0 : Int32)), .unset] [(.int (0 : Int32)), (.ref FA)])) rfl rfl (hb hby d11_70) _ k) ?_
  show Goes p e below (T465.setTop (mkF m 71 #[.val (.ref a1), .val (.ref x), .val (.int (-2 : Int32)), .val (.int (0 : Int32)), .unset] [(.ref x)])) _
  refine Goes.of (fun t k => XS.astore X465.here hx rfl (hb hby d11_71) rfl rfl (l' := #[.val (.ref a1), .val (.ref x), .val (.int (-2 : Int32)), .val (.int (0 : Int32)), .val (.ref x)]) rfl k) ?_
  show Goes p e below (T465.setTop (mkF m 73 #[.val (.ref a1), .val (.ref x), .val (.int (-2 : Int32)), .val (.int (0 : Int32)), .val (.ref x)] [])) _
  refine Goes.of (fun t k => XS.aloadN X465.here hx rfl (hb hby d11_73) rfl rfl k) ?_
  obtain ⟨T485, X485, e485, st485⟩ := getF X465 hx hZ hown (host := "") (Or.inl (wd hw 13 rfl)) Via.refl e465 f474 (g := (mkF m 74 #[.val (.ref a1), .val (.ref x), .val (.int (-2 : Int32)), .val (.int (0 : Int32)), .val (.ref x)] [(.ref a1)])) rfl rfl (hb hby d11_74)
  refine Goes.of st485 ?_
  show Goes p e below (T485.setTop (mkF m 77 #[.val (.ref a1), .val (.ref x), .val (.int (-2 : Int32)), .val (.int (0 : Int32)), .val (.ref x)] [(.ref FA)])) _
  refine Goes.of (fun t k => XS.iloadN X485.here hx rfl (hb hby d11_77) rfl k) ?_
  show Goes p e below (T485.setTop (mkF m 78 #[.val (.ref a1), .val (.ref x), .val (.int (-2 : Int32)), .val (.int (0 : Int32)), .val (.ref x)] [(.int (0 : Int32)), (.ref FA)])) _
  refine Goes.of (fun t k => XS.aload X485.here hx rfl (hb hby d11_78) rfl rfl k) ?_
  have Vc486 := f478
  obtain ⟨clc486, Arc486, qc486, Sc486, Nc486, Hc486, Gc486⟩ := Vc486
  have hin487 : ¬ ((0 : Int32) < 0 ∨ clc486.slots.size ≤ ((0 : Int32)).toNatClampNeg) := inb_of Sc486 ⟨by decide, by decide⟩
  obtain ⟨T488, h488, X488, e488, W488, st488⟩ := stR X485 hx hZ e485 Arc486 (j := (0 : Int32)) hin487 rfl (Sto.ofV Arc486 qc486 OF (Ins.self f479)) (g := (mkF m 80 #[.val (.ref a1), .val (.ref x), .val (.int (-2 : Int32)), .val (.int (0 : Int32)), .val (.ref x)] [(.ref x), (.int (0 : Int32)), (.ref FA)])) rfl rfl (hb hby d11_80)
  have V488 : Arv Z h488 FA kF (.object "com/example/ripplematch/ripplematch/core/Activation") (16 : Int32) [(.ref x), .null, .null, .null, .null, .null, .null, .null, .null, .null, .null, .null, .null, .null, .null, .null] .null := Arv.set Arc486 qc486 Sc486 Nc486 Hc486 Gc486 rfl W488 0 rfl (Nat.le_of_ble_eq_true rfl)
  have K489 : Keep h0 h488 [a1, FA, x] := K467.wr W488 (Or.inl (List.mem_of_getElem? (i := 1) rfl))
  have z490 : n0 ≤ h488.size := Nat.le_trans z468 (Keep.of_wr W488).1
  have f491 := f469.wr W488
  have f492 := f470.other W488 (Or.inl n_a1_FA)
  have f493 := f471.other W488 (Or.inl n_a1_FA)
  have f494 := f472.other W488 (Or.inl n_a1_FA)
  have f495 := f473.other W488 (Or.inl n_a1_FA)
  have f496 := f474.other W488 (Or.inl n_a1_FA)
  have f497 := f466.other W488 (Or.inl n_a1_FA)
  have f498 := f476.other W488 (Or.inl n_a1_FA)
  have f499 := f477.other W488 n_HA_FA
  have f501 := f479.wr W488
  have f502 := f480.other W488 (Or.inl (Ne.symm n_FA_x))
  have f503 := f481.wr W488 g_FA
  have N488 := Fr.snoc X488 N465 g_FA
  refine Goes.of st488 ?_
  show Goes p e below (T488.setTop (mkF m 81 #[.val (.ref a1), .val (.ref x), .val (.int (-2 : Int32)), .val (.int (0 : Int32)), .val (.ref x)] [])) _
  refine Goes.of (fun t k => XS.aload X488.here hx rfl (hb hby d11_81) rfl rfl k) ?_
  show Goes p e below (T488.setTop (mkF m 83 #[.val (.ref a1), .val (.ref x), .val (.int (-2 : Int32)), .val (.int (0 : Int32)), .val (.ref x)] [(.ref x)])) _
  refine Goes.of (fun t k => XS.bipush X488.here hx rfl (hb hby d11_83) k) ?_
  show Goes p e below (T488.setTop (mkF m 85 #[.val (.ref a1), .val (.ref x), .val (.int (-2 : Int32)), .val (.int (0 : Int32)), .val (.ref x)] [(.int (-2 : Int32)), (.ref x)])) _
  refine Goes.of (fun t k => XS.iloadN X488.here hx rfl (hb hby d11_85) rfl k) ?_
  show Goes p e below (T488.setTop (mkF m 86 #[.val (.ref a1), .val (.ref x), .val (.int (-2 : Int32)), .val (.int (0 : Int32)), .val (.ref x)] [(.int (0 : Int32)), (.int (-2 : Int32)), (.ref x)])) _
  refine Goes.of (fun t k => XS.isub X488.here hx rfl (hb hby d11_86) rfl k) ?_
  obtain ⟨T504, h504, X504, e504, W504, st504⟩ := putF X488 hx hZ hown (host := "") (Or.inl (wd hw 84 rfl)) Via.refl e488 f502 f501 (Or.inl (wd hw 45 rfl)) (wd hw 38 rfl) (ty := .int) (by decide) rfl rfl (g := (mkF m 87 #[.val (.ref a1), .val (.ref x), .val (.int (-2 : Int32)), .val (.int (0 : Int32)), .val (.ref x)] [(.int (-2 : Int32)), (.ref x)])) rfl rfl (hb hby d11_87)
  have f505 := f502.same W504
  have K506 : Keep h0 h504 [a1, FA, x] := K489.wr W504 (Or.inl (List.mem_of_getElem? (i := 2) rfl))
  have z507 : n0 ≤ h504.size := Nat.le_trans z490 (Keep.of_wr W504).1
  have f508 := f491.wr W504
  have f509 := f492.other W504 (Or.inl n_a1_x)
  have f510 := f493.other W504 (Or.inl n_a1_x)
  have f511 := f494.other W504 (Or.inl n_a1_x)
  have f512 := f495.other W504 (Or.inl n_a1_x)
  have f513 := f496.other W504 (Or.inl n_a1_x)
  have f514 := f497.other W504 (Or.inl n_a1_x)
  have f515 := f498.other W504 (Or.inl n_a1_x)
  have f516 := f499.other W504 n_HA_x
  have f517 := V488.other W504 n_FA_x
  have f518 := f501.wr W504
  have f520 := f503.wr W504 g_x
  have N504 := Fr.snoc X504 N488 g_x
  refine Goes.of st504 ?_
  show Goes p e below (T504.setTop (mkF m 90 #[.val (.ref a1), .val (.ref x), .val (.int (-2 : Int32)), .val (.int (0 : Int32)), .val (.ref x)] [])) _
  refine Goes.of (fun t k => XS.aloadN X504.here hx rfl (hb hby d11_90) rfl rfl k) ?_
  obtain ⟨T521, X521, e521, st521⟩ := getF X504 hx hZ hown (host := "") (Or.inl (wd hw 13 rfl)) Via.refl e504 f513 (g := (mkF m 91 #[.val (.ref a1), .val (.ref x), .val (.int (-2 : Int32)), .val (.int (0 : Int32)), .val (.ref x)] [(.ref a1)])) rfl rfl (hb hby d11_91)
  refine Goes.of st521 ?_
  show Goes p e below (T521.setTop (mkF m 94 #[.val (.ref a1), .val (.ref x), .val (.int (-2 : Int32)), .val (.int (0 : Int32)), .val (.ref x)] [(.ref FA)])) _
  refine Goes.of (fun t k => XS.aloadN X521.here hx rfl (hb hby d11_94) rfl rfl k) ?_
  obtain ⟨T522, X522, e522, st522⟩ := getF X521 hx hZ hown (host := "") (Or.inl (wd hw 82 rfl)) Via.refl e521 f514 (g := (mkF m 95 #[.val (.ref a1), .val (.ref x), .val (.int (-2 : Int32)), .val (.int (0 : Int32)), .val (.ref x)] [(.ref a1), (.ref FA)])) rfl rfl (hb hby d11_95)
  refine Goes.of st522 ?_
  show Goes p e below (T522.setTop (mkF m 98 #[.val (.ref a1), .val (.ref x), .val (.int (-2 : Int32)), .val (.int (0 : Int32)), .val (.ref x)] [(.int (0 : Int32)), (.ref FA)])) _
  refine Goes.of (fun t k => XS.aconstNull X522.here hx rfl (hb hby d11_98) k) ?_
  have Vc523 := f517
  obtain ⟨clc523, Arc523, qc523, Sc523, Nc523, Hc523, Gc523⟩ := Vc523
  have hin524 : ¬ ((0 : Int32) < 0 ∨ clc523.slots.size ≤ ((0 : Int32)).toNatClampNeg) := inb_of Sc523 ⟨by decide, by decide⟩
  obtain ⟨T525, h525, X525, e525, W525, st525⟩ := stR X522 hx hZ e522 Arc523 (j := (0 : Int32)) hin524 rfl (Or.inl rfl) (g := (mkF m 99 #[.val (.ref a1), .val (.ref x), .val (.int (-2 : Int32)), .val (.int (0 : Int32)), .val (.ref x)] [.null, (.int (0 : Int32)), (.ref FA)])) rfl rfl (hb hby d11_99)
  have V525 : Arv Z h525 FA kF (.object "com/example/ripplematch/ripplematch/core/Activation") (16 : Int32) [.null, .null, .null, .null, .null, .null, .null, .null, .null, .null, .null, .null, .null, .null, .null, .null] .null := Arv.set Arc523 qc523 Sc523 Nc523 Hc523 Gc523 rfl W525 0 rfl (Nat.le_of_ble_eq_true rfl)
  have K526 : Keep h0 h525 [a1, FA, x] := K506.wr W525 (Or.inl (List.mem_of_getElem? (i := 1) rfl))
  have z527 : n0 ≤ h525.size := Nat.le_trans z507 (Keep.of_wr W525).1
  have f528 := f508.wr W525
  have f529 := f509.other W525 (Or.inl n_a1_FA)
  have f530 := f510.other W525 (Or.inl n_a1_FA)
  have f531 := f511.other W525 (Or.inl n_a1_FA)
  have f532 := f512.other W525 (Or.inl n_a1_FA)
  have f533 := f513.other W525 (Or.inl n_a1_FA)
  have f534 := f514.other W525 (Or.inl n_a1_FA)
  have f535 := f515.other W525 (Or.inl n_a1_FA)
  have f536 := f516.other W525 n_HA_FA
  have f538 := f518.wr W525
  have f539 := f505.other W525 (Or.inl (Ne.symm n_FA_x))
  have f540 := f520.wr W525 g_FA
  have N525 := Fr.snoc X525 N504 g_FA
  refine Goes.of st525 ?_
  show Goes p e below (T525.setTop (mkF m 100 #[.val (.ref a1), .val (.ref x), .val (.int (-2 : Int32)), .val (.int (0 : Int32)), .val (.ref x)] [])) _
  refine Goes.of (fun t k => XS.aloadN X525.here hx rfl (hb hby d11_100) rfl rfl k) ?_
  show Goes p e below (T525.setTop (mkF m 101 #[.val (.ref a1), .val (.ref x), .val (.int (-2 : Int32)), .val (.int (0 : Int32)), .val (.ref x)] [(.ref x)])) _
  refine Goes.of (fun t k => XS.iconst X525.here hx rfl (hb hby d11_101) k) ?_
  obtain ⟨T541, h541, X541, e541, W541, st541⟩ := putF X525 hx hZ hown (host := "") (Or.inl (wd hw 84 rfl)) Via.refl e525 f539 f538 (Or.inl (wd hw 45 rfl)) (wd hw 38 rfl) (ty := .int) (by decide) rfl rfl (g := (mkF m 102 #[.val (.ref a1), .val (.ref x), .val (.int (-2 : Int32)), .val (.int (0 : Int32)), .val (.ref x)] [(.int (-1 : Int32)), (.ref x)])) rfl rfl (hb hby d11_102)
  have f542 := f539.same W541
  have K543 : Keep h0 h541 [a1, FA, x] := K526.wr W541 (Or.inl (List.mem_of_getElem? (i := 2) rfl))
  have z544 : n0 ≤ h541.size := Nat.le_trans z527 (Keep.of_wr W541).1
  have f545 := f528.wr W541
  have f546 := f529.other W541 (Or.inl n_a1_x)
  have f547 := f530.other W541 (Or.inl n_a1_x)
  have f548 := f531.other W541 (Or.inl n_a1_x)
  have f549 := f532.other W541 (Or.inl n_a1_x)
  have f550 := f533.other W541 (Or.inl n_a1_x)
  have f551 := f534.other W541 (Or.inl n_a1_x)
  have f552 := f535.other W541 (Or.inl n_a1_x)
  have f553 := f536.other W541 n_HA_x
  have f554 := V525.other W541 n_FA_x
  have f555 := f538.wr W541
  have f557 := f540.wr W541 g_x
  have N541 := Fr.snoc X541 N525 g_x
  refine Goes.of st541 ?_
  show Goes p e below (T541.setTop (mkF m 105 #[.val (.ref a1), .val (.ref x), .val (.int (-2 : Int32)), .val (.int (0 : Int32)), .val (.ref x)] [])) _
  refine Goes.of (fun t k => XS.aloadN X541.here hx rfl (hb hby d11_105) rfl rfl k) ?_
  show Goes p e below (T541.setTop (mkF m 106 #[.val (.ref a1), .val (.ref x), .val (.int (-2 : Int32)), .val (.int (0 : Int32)), .val (.ref x)] [(.ref a1)])) _
  refine Goes.of (fun t k => XS.dup X541.here hx rfl (hb hby d11_106) rfl rfl k) ?_
  obtain ⟨T558, X558, e558, st558⟩ := getF X541 hx hZ hown (host := "") (Or.inl (wd hw 69 rfl)) Via.refl e541 f552 (g := (mkF m 107 #[.val (.ref a1), .val (.ref x), .val (.int (-2 : Int32)), .val (.int (0 : Int32)), .val (.ref x)] [(.ref a1), (.ref a1)])) rfl rfl (hb hby d11_107)
  refine Goes.of st558 ?_
  show Goes p e below (T558.setTop (mkF m 110 #[.val (.ref a1), .val (.ref x), .val (.int (-2 : Int32)), .val (.int (0 : Int32)), .val (.ref x)] [(.int (1 : Int32)), (.ref a1)])) _
  refine Goes.of (fun t k => XS.iconst X558.here hx rfl (hb hby d11_110) k) ?_
  show Goes p e below (T558.setTop (mkF m 111 #[.val (.ref a1), .val (.ref x), .val (.int (-2 : Int32)), .val (.int (0 : Int32)), .val (.ref x)] [(.int (1 : Int32)), (.int (1 : Int32)), (.ref a1)])) _
  refine Goes.of (fun t k => XS.isub X558.here hx rfl (hb hby d11_111) rfl k) ?_
  obtain ⟨T559, h559, X559, e559, W559, st559⟩ := putF X558 hx hZ hown (host := "") (Or.inl (wd hw 69 rfl)) Via.refl e558 f552 f545 (Or.inl (wd hw 70 rfl)) (wd hw 1 rfl) (ty := .int) (by decide) rfl rfl (g := (mkF m 112 #[.val (.ref a1), .val (.ref x), .val (.int (-2 : Int32)), .val (.int (0 : Int32)), .val (.ref x)] [(.int (0 : Int32)), (.ref a1)])) rfl rfl (hb hby d11_112)
  have f560 := f552.same W559
  have K561 : Keep h0 h559 [a1, FA, x] := K543.wr W559 (Or.inl (List.mem_of_getElem? (i := 0) rfl))
  have z562 : n0 ≤ h559.size := Nat.le_trans z544 (Keep.of_wr W559).1
  have f563 := f545.wr W559
  have f564 := f546.other W559 (Or.inr (slot_ne (Or.inl (wd hw 12 rfl)) (Or.inl (wd hw 70 rfl)) (by decide) (t := (.array (.object "com/example/ripplematch/ripplematch/core/Activation"))) (t' := .int) (by decide) (by decide)))
  have f565 := f547.other W559 (Or.inr (slot_ne (Or.inl (wd hw 104 rfl)) (Or.inl (wd hw 70 rfl)) (by decide) (t := .int) (t' := .int) (by decide) (by decide)))
  have f566 := f548.other W559 (Or.inr (slot_ne (Or.inl (wd hw 102 rfl)) (Or.inl (wd hw 70 rfl)) (by decide) (t := .int) (t' := .int) (by decide) (by decide)))
  have f567 := f549.other W559 (Or.inr (slot_ne (Or.inl (wd hw 100 rfl)) (Or.inl (wd hw 70 rfl)) (by decide) (t := .boolean) (t' := .int) (by decide) (by decide)))
  have f568 := f550.other W559 (Or.inr (slot_ne (Or.inl (wd hw 14 rfl)) (Or.inl (wd hw 70 rfl)) (by decide) (t := (.array (.object "com/example/ripplematch/ripplematch/core/Activation"))) (t' := .int) (by decide) (by decide)))
  have f569 := f551.other W559 (Or.inr (slot_ne (Or.inl (wd hw 83 rfl)) (Or.inl (wd hw 70 rfl)) (by decide) (t := .int) (t' := .int) (by decide) (by decide)))
  have f571 := f553.other W559 (Ne.symm n_a1_HA)
  have f572 := f554.other W559 (Ne.symm n_a1_FA)
  have f573 := f555.wr W559
  have f574 := f542.other W559 (Or.inl (Ne.symm n_a1_x))
  have f575 := f557.wr W559 g_a1
  have N559 := Fr.snoc X559 N541 g_a1
  refine Goes.of st559 ?_
  show Goes p e below (T559.setTop (mkF m 115 #[.val (.ref a1), .val (.ref x), .val (.int (-2 : Int32)), .val (.int (0 : Int32)), .val (.ref x)] [])) _
  have eh : T559.heap = h559 := e559
  exact Goes.retV X559 hx Bd.returns hlocks (hb hby d11_115) (⟨rfl, N559, by rw [eh]; exact K561, by rw [eh]; exact f563, by rw [eh]; exact f564, by rw [eh]; exact f565, by rw [eh]; exact f566, by rw [eh]; exact f567, by rw [eh]; exact f568, by rw [eh]; exact f569, by rw [eh]; exact f560, by rw [eh]; exact f571, by rw [eh]; exact f572, by rw [eh]; exact f573, by rw [eh]; exact f574⟩) (by decide) (by decide)
theorem ef_11_576 (m : MethodId) (x0 : Addr) (x1 : Addr) : entryFrame m #[(.ref x0), (.ref x1)] 5 = mkF m 0 #[.val (.ref x0), .val (.ref x1), .unset, .unset, .unset] [] := by first | (simp [entryFrame, mkF, argsToLocals, Value.category]; done) | rfl
def Q11_576 (Z : State) (a1 : Addr) (x : Addr) (HA : Addr) (FA : Addr) (y : Addr) (kH : ClassId) (kF : ClassId) (h0 : Heap) (n0 : Nat) (v : Option Value) (h : Heap) (L : List Loc) : Prop := v = none ∧ Fr n0 L ∧ Keep h0 h [a1, FA, x, y] ∧ Exa Z h a1 "com/example/ripplematch/ripplematch/core/Agenda" ∧ Fld Z h a1 "com/example/ripplematch/ripplematch/core/Agenda" "heap" "[Lcom/example/ripplematch/ripplematch/core/Activation;" (.ref HA) ∧ Fld Z h a1 "com/example/ripplematch/ripplematch/core/Agenda" "heapSize" "I" (.int (0 : Int32)) ∧ Fld Z h a1 "com/example/ripplematch/ripplematch/core/Agenda" "gone" "I" (.int (0 : Int32)) ∧ Fld Z h a1 "com/example/ripplematch/ripplematch/core/Agenda" "disordered" "Z" (.int (0 : Int32)) ∧ Fld Z h a1 "com/example/ripplematch/ripplematch/core/Agenda" "fresh" "[Lcom/example/ripplematch/ripplematch/core/Activation;" (.ref FA) ∧ Fld Z h a1 "com/example/ripplematch/ripplematch/core/Agenda" "freshSize" "I" (.int (1 : Int32)) ∧ Fld Z h a1 "com/example/ripplematch/ripplematch/core/Agenda" "size" "I" (.int (1 : Int32)) ∧ Arv Z h HA kH (.object "com/example/ripplematch/ripplematch/core/Activation") (16 : Int32) [.null, .null, .null, .null, .null, .null, .null, .null, .null, .null, .null, .null, .null, .null, .null, .null] .null ∧ Arv Z h FA kF (.object "com/example/ripplematch/ripplematch/core/Activation") (16 : Int32) [(.ref y), .null, .null, .null, .null, .null, .null, .null, .null, .null, .null, .null, .null, .null, .null, .null] .null ∧ Exa Z h x "com/example/ripplematch/ripplematch/core/Activation" ∧ Fld Z h x "com/example/ripplematch/ripplematch/core/Activation" "place" "I" (.int (-1 : Int32)) ∧ Exa Z h y "com/example/ripplematch/ripplematch/core/Activation" ∧ Fld Z h y "com/example/ripplematch/ripplematch/core/Activation" "place" "I" (.int (-2 : Int32))
set_option maxRecDepth 65536 in
set_option maxHeartbeats 40000000 in
theorem rm11_576 (l : Launch) (Z : State) (a0 : Array Value) (hw : ∀ d ∈ tables_1, d.before a0 Z = true) (ws : List Jvm.Cond) (a1 : Addr) (x : Addr) (HA : Addr) (FA : Addr) (y : Addr) (kH : ClassId) (kF : ClassId) (h0 : Heap) (n0 : Nat) (Z0 : n0 ≤ h0.size) (O0 : Old Z n0 h0) (SA : Sta Z Z.heap "com/example/ripplematch/ripplematch/core/Agenda" "$assertionsDisabled" "Z" (.int (1 : Int32))) (E : Exa Z h0 a1 "com/example/ripplematch/ripplematch/core/Agenda") (F_heap : Fld Z h0 a1 "com/example/ripplematch/ripplematch/core/Agenda" "heap" "[Lcom/example/ripplematch/ripplematch/core/Activation;" (.ref HA)) (F_heapSize : Fld Z h0 a1 "com/example/ripplematch/ripplematch/core/Agenda" "heapSize" "I" (.int (0 : Int32))) (F_gone : Fld Z h0 a1 "com/example/ripplematch/ripplematch/core/Agenda" "gone" "I" (.int (0 : Int32))) (F_disordered : Fld Z h0 a1 "com/example/ripplematch/ripplematch/core/Agenda" "disordered" "Z" (.int (0 : Int32))) (F_fresh : Fld Z h0 a1 "com/example/ripplematch/ripplematch/core/Agenda" "fresh" "[Lcom/example/ripplematch/ripplematch/core/Activation;" (.ref FA)) (F_freshSize : Fld Z h0 a1 "com/example/ripplematch/ripplematch/core/Agenda" "freshSize" "I" (.int (2 : Int32))) (F_size : Fld Z h0 a1 "com/example/ripplematch/ripplematch/core/Agenda" "size" "I" (.int (2 : Int32))) (VH : Arv Z h0 HA kH (.object "com/example/ripplematch/ripplematch/core/Activation") (16 : Int32) [.null, .null, .null, .null, .null, .null, .null, .null, .null, .null, .null, .null, .null, .null, .null, .null] .null) (VF : Arv Z h0 FA kF (.object "com/example/ripplematch/ripplematch/core/Activation") (16 : Int32) [(.ref x), (.ref y), .null, .null, .null, .null, .null, .null, .null, .null, .null, .null, .null, .null, .null, .null] .null) (E_x : Exa Z h0 x "com/example/ripplematch/ripplematch/core/Activation") (P_x : Fld Z h0 x "com/example/ripplematch/ripplematch/core/Activation" "place" "I" (.int (-2 : Int32))) (E_y : Exa Z h0 y "com/example/ripplematch/ripplematch/core/Activation") (P_y : Fld Z h0 y "com/example/ripplematch/ripplematch/core/Activation" "place" "I" (.int (-3 : Int32))) (g_a1 : n0 ≤ a1) (g_HA : n0 ≤ HA) (g_FA : n0 ≤ FA) (g_x : n0 ≤ x) (g_y : n0 ≤ y) (n_a1_HA : a1 ≠ HA) (n_a1_FA : a1 ≠ FA) (n_a1_x : a1 ≠ x) (n_a1_y : a1 ≠ y) (n_HA_FA : HA ≠ FA) (n_HA_x : HA ≠ x) (n_HA_y : HA ≠ y) (n_FA_x : FA ≠ x) (n_FA_y : FA ≠ y) (n_x_y : x ≠ y) (OH : Ovr Z kH "com/example/ripplematch/ripplematch/core/Activation") (OF : Ovr Z kF "com/example/ripplematch/ripplematch/core/Activation") :
    MetFree l (⟨"com/example/ripplematch/ripplematch/core/Agenda", "remove", "(Lcom/example/ripplematch/ripplematch/core/Activation;)V"⟩ : MethodName) (head1 (Jvm.Cond.code (⟨"com/example/ripplematch/ripplematch/core/Agenda", "remove", "(Lcom/example/ripplematch/ripplematch/core/Activation;)V"⟩ : MethodName) prog_13_method_5_code 5 none :: ws) ({ frames := 0, cells := 0, slots := 0, locals := 0 } : Room)) (fun a U => a = #[(.ref a1), (.ref x)] ∧ Z.Warmed39 U.vm ∧ U.heap = h0) (fun _ _ _ _ _ => True) (fun _ U o U' => ∃ v L, o = .returned v ∧ Q11_576 Z a1 x HA FA y kH kF h0 n0 v U'.heap L ∧ FrameEnd U o U' L ({ frames := 0, cells := 0, slots := 0, locals := 0 } : Room).cells ({ frames := 0, cells := 0, slots := 0, locals := 0 } : Room).slots) := by
  refine MetFree.of_bodySF (plainFor_of_name pn_0) hisR ?_
  intro p e s m args below meth c s₁ Bd hml0 hP hK
  obtain ⟨rfl, hZ, hh⟩ := hP
  have hx := Bd.exec
  have hby := Bd.bytes
  have hml : c.maxLocals = 5 := hml0
  have hown : s.vm.findClass "com/example/ripplematch/ripplematch/core/Agenda" = some m.cls := findClass_of_methodNamed Bd.named
  have hnm := (name_of_methodNamed Bd.named Bd.method).1
  have hlocks : meth.locks = false := BodyLoose.notSynchronized Bd
  have X0 : Stand p l e ({ frames := 0, cells := 0, slots := 0, locals := 0 } : Room) s m #[(.ref a1), (.ref x)] below meth c s₁ [] 0 0 := Stand.of_body Bd
  have e0 : s₁.heap = h0 := by rw [← hh, Bd.state]; rfl
  have N0 := Fr.nil n0
  show Goes p e below (s₁.setTop (entryFrame m #[(.ref a1), (.ref x)] 5)) (Fin s (Q11_576 Z a1 x HA FA y kH kF h0 n0) ({ frames := 0, cells := 0, slots := 0, locals := 0 } : Room).cells ({ frames := 0, cells := 0, slots := 0, locals := 0 } : Room).slots)
  refine Goes.of (fun t k => castTop (ef_11_576 m a1 x) k) ?_
  have K0 : Keep h0 h0 [a1, FA, x, y] := Keep.refl _ _
  show Goes p e below (s₁.setTop (mkF m 0 #[.val (.ref a1), .val (.ref x), .unset, .unset, .unset] [])) _
  refine Goes.of (fun t k => XS.aloadN X0.here hx rfl (hb hby d11_0) rfl rfl k) ?_
  obtain ⟨T577, X577, e577, st577⟩ := getF X0 hx hZ hown (host := "") (Or.inl (wd hw 84 rfl)) Via.refl e0 P_x (g := (mkF m 1 #[.val (.ref a1), .val (.ref x), .unset, .unset, .unset] [(.ref x)])) rfl rfl (hb hby d11_1)
  refine Goes.of st577 ?_
  show Goes p e below (T577.setTop (mkF m 4 #[.val (.ref a1), .val (.ref x), .unset, .unset, .unset] [(.int (-2 : Int32))])) _
  refine Goes.of (fun t k => XS.istoreN X577.here hx rfl (hb hby d11_4) rfl (l' := #[.val (.ref a1), .val (.ref x), .val (.int (-2 : Int32)), .unset, .unset]) rfl k) ?_
  obtain ⟨T578, X578, e578, st578⟩ := getS2 X577 hx hZ hown (host := "") (Or.inl (wd hw 80 rfl)) Via.refl e577 (SA.ext O0.2) (g := (mkF m 5 #[.val (.ref a1), .val (.ref x), .val (.int (-2 : Int32)), .unset, .unset] [])) rfl (hb hby d11_5)
  refine Goes.of st578 ?_
  show Goes p e below (T578.setTop (mkF m 8 #[.val (.ref a1), .val (.ref x), .val (.int (-2 : Int32)), .unset, .unset] [(.int (1 : Int32))])) _
  refine Goes.of (fun t k => XS.ifYes X578.here hx rfl (pc0 := 8) (pc' := 33) rfl (hb hby d11_8) rfl ((if0 _ _).trans (feq (by decide)).2) (by decide) (by decide) k) ?_
  show Goes p e below (T578.setTop (mkF m 33 #[.val (.ref a1), .val (.ref x), .val (.int (-2 : Int32)), .unset, .unset] [])) _
  refine Goes.of (fun t k => XS.iloadN X578.here hx rfl (hb hby d11_33) rfl k) ?_
  show Goes p e below (T578.setTop (mkF m 34 #[.val (.ref a1), .val (.ref x), .val (.int (-2 : Int32)), .unset, .unset] [(.int (-2 : Int32))])) _
  refine Goes.of (fun t k => XS.ifYes X578.here hx rfl (pc0 := 34) (pc' := 50) rfl (hb hby d11_34) rfl ((if0 _ _).trans (tlt (by decide)).1) (by decide) (by decide) k) ?_
  show Goes p e below (T578.setTop (mkF m 50 #[.val (.ref a1), .val (.ref x), .val (.int (-2 : Int32)), .unset, .unset] [])) _
  refine Goes.of (fun t k => XS.bipush X578.here hx rfl (hb hby d11_50) k) ?_
  show Goes p e below (T578.setTop (mkF m 52 #[.val (.ref a1), .val (.ref x), .val (.int (-2 : Int32)), .unset, .unset] [(.int (-2 : Int32))])) _
  refine Goes.of (fun t k => XS.iloadN X578.here hx rfl (hb hby d11_52) rfl k) ?_
  show Goes p e below (T578.setTop (mkF m 53 #[.val (.ref a1), .val (.ref x), .val (.int (-2 : Int32)), .unset, .unset] [(.int (-2 : Int32)), (.int (-2 : Int32))])) _
  refine Goes.of (fun t k => XS.isub X578.here hx rfl (hb hby d11_53) rfl k) ?_
  show Goes p e below (T578.setTop (mkF m 54 #[.val (.ref a1), .val (.ref x), .val (.int (-2 : Int32)), .unset, .unset] [(.int (0 : Int32))])) _
  refine Goes.of (fun t k => XS.istoreN X578.here hx rfl (hb hby d11_54) rfl (l' := #[.val (.ref a1), .val (.ref x), .val (.int (-2 : Int32)), .val (.int (0 : Int32)), .unset]) rfl k) ?_
  show Goes p e below (T578.setTop (mkF m 55 #[.val (.ref a1), .val (.ref x), .val (.int (-2 : Int32)), .val (.int (0 : Int32)), .unset] [])) _
  refine Goes.of (fun t k => XS.aloadN X578.here hx rfl (hb hby d11_55) rfl rfl k) ?_
  obtain ⟨T579, X579, e579, st579⟩ := getF X578 hx hZ hown (host := "") (Or.inl (wd hw 13 rfl)) Via.refl e578 F_fresh (g := (mkF m 56 #[.val (.ref a1), .val (.ref x), .val (.int (-2 : Int32)), .val (.int (0 : Int32)), .unset] [(.ref a1)])) rfl rfl (hb hby d11_56)
  refine Goes.of st579 ?_
  show Goes p e below (T579.setTop (mkF m 59 #[.val (.ref a1), .val (.ref x), .val (.int (-2 : Int32)), .val (.int (0 : Int32)), .unset] [(.ref FA)])) _
  refine Goes.of (fun t k => XS.aloadN X579.here hx rfl (hb hby d11_59) rfl rfl k) ?_
  show Goes p e below (T579.setTop (mkF m 60 #[.val (.ref a1), .val (.ref x), .val (.int (-2 : Int32)), .val (.int (0 : Int32)), .unset] [(.ref a1), (.ref FA)])) _
  refine Goes.of (fun t k => XS.dup X579.here hx rfl (hb hby d11_60) rfl rfl k) ?_
  obtain ⟨T580, X580, e580, st580⟩ := getF X579 hx hZ hown (host := "") (Or.inl (wd hw 82 rfl)) Via.refl e579 F_freshSize (g := (mkF m 61 #[.val (.ref a1), .val (.ref x), .val (.int (-2 : Int32)), .val (.int (0 : Int32)), .unset] [(.ref a1), (.ref a1), (.ref FA)])) rfl rfl (hb hby d11_61)
  refine Goes.of st580 ?_
  show Goes p e below (T580.setTop (mkF m 64 #[.val (.ref a1), .val (.ref x), .val (.int (-2 : Int32)), .val (.int (0 : Int32)), .unset] [(.int (2 : Int32)), (.ref a1), (.ref FA)])) _
  refine Goes.of (fun t k => XS.iconst X580.here hx rfl (hb hby d11_64) k) ?_
  show Goes p e below (T580.setTop (mkF m 65 #[.val (.ref a1), .val (.ref x), .val (.int (-2 : Int32)), .val (.int (0 : Int32)), .unset] [(.int (1 : Int32)), (.int (2 : Int32)), (.ref a1), (.ref FA)])) _
  refine Goes.of (fun t k => XS.isub X580.here hx rfl (hb hby d11_65) rfl k) ?_
  show Goes p e below (T580.setTop (mkF m 66 #[.val (.ref a1), .val (.ref x), .val (.int (-2 : Int32)), .val (.int (0 : Int32)), .unset] [(.int (1 : Int32)), (.ref a1), (.ref FA)])) _
  refine Goes.of (fun t k => XS.dupX1 X580.here hx rfl (hb hby d11_66) rfl rfl rfl k) ?_
  obtain ⟨T581, h581, X581, e581, W581, st581⟩ := putF X580 hx hZ hown (host := "") (Or.inl (wd hw 82 rfl)) Via.refl e580 F_freshSize E (Or.inl (wd hw 83 rfl)) (wd hw 1 rfl) (ty := .int) (by decide) rfl rfl (g := (mkF m 67 #[.val (.ref a1), .val (.ref x), .val (.int (-2 : Int32)), .val (.int (0 : Int32)), .unset] [(.int (1 : Int32)), (.ref a1), (.int (1 : Int32)), (.ref FA)])) rfl rfl (hb hby d11_67)
  have f582 := F_freshSize.same W581
  have K583 : Keep h0 h581 [a1, FA, x, y] := K0.wr W581 (Or.inl (List.mem_of_getElem? (i := 0) rfl))
  have z584 : n0 ≤ h581.size := Nat.le_trans Z0 (Keep.of_wr W581).1
  have f585 := E.wr W581
  have f586 := F_heap.other W581 (Or.inr (slot_ne (Or.inl (wd hw 12 rfl)) (Or.inl (wd hw 83 rfl)) (by decide) (t := (.array (.object "com/example/ripplematch/ripplematch/core/Activation"))) (t' := .int) (by decide) (by decide)))
  have f587 := F_heapSize.other W581 (Or.inr (slot_ne (Or.inl (wd hw 104 rfl)) (Or.inl (wd hw 83 rfl)) (by decide) (t := .int) (t' := .int) (by decide) (by decide)))
  have f588 := F_gone.other W581 (Or.inr (slot_ne (Or.inl (wd hw 102 rfl)) (Or.inl (wd hw 83 rfl)) (by decide) (t := .int) (t' := .int) (by decide) (by decide)))
  have f589 := F_disordered.other W581 (Or.inr (slot_ne (Or.inl (wd hw 100 rfl)) (Or.inl (wd hw 83 rfl)) (by decide) (t := .boolean) (t' := .int) (by decide) (by decide)))
  have f590 := F_fresh.other W581 (Or.inr (slot_ne (Or.inl (wd hw 14 rfl)) (Or.inl (wd hw 83 rfl)) (by decide) (t := (.array (.object "com/example/ripplematch/ripplematch/core/Activation"))) (t' := .int) (by decide) (by decide)))
  have f592 := F_size.other W581 (Or.inr (slot_ne (Or.inl (wd hw 70 rfl)) (Or.inl (wd hw 83 rfl)) (by decide) (t := .int) (t' := .int) (by decide) (by decide)))
  have f593 := VH.other W581 (Ne.symm n_a1_HA)
  have f594 := VF.other W581 (Ne.symm n_a1_FA)
  have f595 := E_x.wr W581
  have f596 := P_x.other W581 (Or.inl (Ne.symm n_a1_x))
  have f597 := E_y.wr W581
  have f598 := P_y.other W581 (Or.inl (Ne.symm n_a1_y))
  have f599 := O0.wr W581 g_a1
  have N581 := Fr.snoc X581 N0 g_a1
  refine Goes.of st581 ?_
  have Vc600 := f594
  obtain ⟨clc600, Arc600, qc600, Sc600, Nc600, Hc600, Gc600⟩ := Vc600
  have hin601 : ¬ ((1 : Int32) < 0 ∨ clc600.slots.size ≤ ((1 : Int32)).toNatClampNeg) := inb_of Sc600 ⟨by decide, by decide⟩
  have hat602 : clc600.slots[((1 : Int32)).toNatClampNeg]? = some (.ref y) := Hc600.at hin601 rfl
  refine Goes.of (fun t k => X581.aaload hx (j := (1 : Int32)) (v := (.ref y)) (by rw [e581]; exact Arc600.1) (State.isArrayOf_alike hZ.alike Arc600.2.1) rfl Arc600.2.2 hin601 hat602 (g := (mkF m 70 #[.val (.ref a1), .val (.ref x), .val (.int (-2 : Int32)), .val (.int (0 : Int32)), .unset] [(.int (1 : Int32)), (.ref FA)])) rfl rfl (hb hby d11_70) _ k) ?_
  show Goes p e below (T581.setTop (mkF m 71 #[.val (.ref a1), .val (.ref x), .val (.int (-2 : Int32)), .val (.int (0 : Int32)), .unset] [(.ref y)])) _
  refine Goes.of (fun t k => XS.astore X581.here hx rfl (hb hby d11_71) rfl rfl (l' := #[.val (.ref a1), .val (.ref x), .val (.int (-2 : Int32)), .val (.int (0 : Int32)), .val (.ref y)]) rfl k) ?_
  show Goes p e below (T581.setTop (mkF m 73 #[.val (.ref a1), .val (.ref x), .val (.int (-2 : Int32)), .val (.int (0 : Int32)), .val (.ref y)] [])) _
  refine Goes.of (fun t k => XS.aloadN X581.here hx rfl (hb hby d11_73) rfl rfl k) ?_
  obtain ⟨T603, X603, e603, st603⟩ := getF X581 hx hZ hown (host := "") (Or.inl (wd hw 13 rfl)) Via.refl e581 f590 (g := (mkF m 74 #[.val (.ref a1), .val (.ref x), .val (.int (-2 : Int32)), .val (.int (0 : Int32)), .val (.ref y)] [(.ref a1)])) rfl rfl (hb hby d11_74)
  refine Goes.of st603 ?_
  show Goes p e below (T603.setTop (mkF m 77 #[.val (.ref a1), .val (.ref x), .val (.int (-2 : Int32)), .val (.int (0 : Int32)), .val (.ref y)] [(.ref FA)])) _
  refine Goes.of (fun t k => XS.iloadN X603.here hx rfl (hb hby d11_77) rfl k) ?_
  show Goes p e below (T603.setTop (mkF m 78 #[.val (.ref a1), .val (.ref x), .val (.int (-2 : Int32)), .val (.int (0 : Int32)), .val (.ref y)] [(.int (0 : Int32)), (.ref FA)])) _
  refine Goes.of (fun t k => XS.aload X603.here hx rfl (hb hby d11_78) rfl rfl k) ?_
  have Vc604 := f594
  obtain ⟨clc604, Arc604, qc604, Sc604, Nc604, Hc604, Gc604⟩ := Vc604
  have hin605 : ¬ ((0 : Int32) < 0 ∨ clc604.slots.size ≤ ((0 : Int32)).toNatClampNeg) := inb_of Sc604 ⟨by decide, by decide⟩
  obtain ⟨T606, h606, X606, e606, W606, st606⟩ := stR X603 hx hZ e603 Arc604 (j := (0 : Int32)) hin605 rfl (Sto.ofV Arc604 qc604 OF (Ins.self f597)) (g := (mkF m 80 #[.val (.ref a1), .val (.ref x), .val (.int (-2 : Int32)), .val (.int (0 : Int32)), .val (.ref y)] [(.ref y), (.int (0 : Int32)), (.ref FA)])) rfl rfl (hb hby d11_80)
  have V606 : Arv Z h606 FA kF (.object "com/example/ripplematch/ripplematch/core/Activation") (16 : Int32) [(.ref y), (.ref y), .null, .null, .null, .null, .null, .null, .null, .null, .null, .null, .null, .null, .null, .null] .null := Arv.set Arc604 qc604 Sc604 Nc604 Hc604 Gc604 rfl W606 0 rfl (Nat.le_of_ble_eq_true rfl)
  have K607 : Keep h0 h606 [a1, FA, x, y] := K583.wr W606 (Or.inl (List.mem_of_getElem? (i := 1) rfl))
  have z608 : n0 ≤ h606.size := Nat.le_trans z584 (Keep.of_wr W606).1
  have f609 := f585.wr W606
  have f610 := f586.other W606 (Or.inl n_a1_FA)
  have f611 := f587.other W606 (Or.inl n_a1_FA)
  have f612 := f588.other W606 (Or.inl n_a1_FA)
  have f613 := f589.other W606 (Or.inl n_a1_FA)
  have f614 := f590.other W606 (Or.inl n_a1_FA)
  have f615 := f582.other W606 (Or.inl n_a1_FA)
  have f616 := f592.other W606 (Or.inl n_a1_FA)
  have f617 := f593.other W606 n_HA_FA
  have f619 := f595.wr W606
  have f620 := f596.other W606 (Or.inl (Ne.symm n_FA_x))
  have f621 := f597.wr W606
  have f622 := f598.other W606 (Or.inl (Ne.symm n_FA_y))
  have f623 := f599.wr W606 g_FA
  have N606 := Fr.snoc X606 N581 g_FA
  refine Goes.of st606 ?_
  show Goes p e below (T606.setTop (mkF m 81 #[.val (.ref a1), .val (.ref x), .val (.int (-2 : Int32)), .val (.int (0 : Int32)), .val (.ref y)] [])) _
  refine Goes.of (fun t k => XS.aload X606.here hx rfl (hb hby d11_81) rfl rfl k) ?_
  show Goes p e below (T606.setTop (mkF m 83 #[.val (.ref a1), .val (.ref x), .val (.int (-2 : Int32)), .val (.int (0 : Int32)), .val (.ref y)] [(.ref y)])) _
  refine Goes.of (fun t k => XS.bipush X606.here hx rfl (hb hby d11_83) k) ?_
  show Goes p e below (T606.setTop (mkF m 85 #[.val (.ref a1), .val (.ref x), .val (.int (-2 : Int32)), .val (.int (0 : Int32)), .val (.ref y)] [(.int (-2 : Int32)), (.ref y)])) _
  refine Goes.of (fun t k => XS.iloadN X606.here hx rfl (hb hby d11_85) rfl k) ?_
  show Goes p e below (T606.setTop (mkF m 86 #[.val (.ref a1), .val (.ref x), .val (.int (-2 : Int32)), .val (.int (0 : Int32)), .val (.ref y)] [(.int (0 : Int32)), (.int (-2 : Int32)), (.ref y)])) _
  refine Goes.of (fun t k => XS.isub X606.here hx rfl (hb hby d11_86) rfl k) ?_
  obtain ⟨T624, h624, X624, e624, W624, st624⟩ := putF X606 hx hZ hown (host := "") (Or.inl (wd hw 84 rfl)) Via.refl e606 f622 f621 (Or.inl (wd hw 45 rfl)) (wd hw 38 rfl) (ty := .int) (by decide) rfl rfl (g := (mkF m 87 #[.val (.ref a1), .val (.ref x), .val (.int (-2 : Int32)), .val (.int (0 : Int32)), .val (.ref y)] [(.int (-2 : Int32)), (.ref y)])) rfl rfl (hb hby d11_87)
  have f625 := f622.same W624
  have K626 : Keep h0 h624 [a1, FA, x, y] := K607.wr W624 (Or.inl (List.mem_of_getElem? (i := 3) rfl))
  have z627 : n0 ≤ h624.size := Nat.le_trans z608 (Keep.of_wr W624).1
  have f628 := f609.wr W624
  have f629 := f610.other W624 (Or.inl n_a1_y)
  have f630 := f611.other W624 (Or.inl n_a1_y)
  have f631 := f612.other W624 (Or.inl n_a1_y)
  have f632 := f613.other W624 (Or.inl n_a1_y)
  have f633 := f614.other W624 (Or.inl n_a1_y)
  have f634 := f615.other W624 (Or.inl n_a1_y)
  have f635 := f616.other W624 (Or.inl n_a1_y)
  have f636 := f617.other W624 n_HA_y
  have f637 := V606.other W624 n_FA_y
  have f638 := f619.wr W624
  have f639 := f620.other W624 (Or.inl n_x_y)
  have f640 := f621.wr W624
  have f642 := f623.wr W624 g_y
  have N624 := Fr.snoc X624 N606 g_y
  refine Goes.of st624 ?_
  show Goes p e below (T624.setTop (mkF m 90 #[.val (.ref a1), .val (.ref x), .val (.int (-2 : Int32)), .val (.int (0 : Int32)), .val (.ref y)] [])) _
  refine Goes.of (fun t k => XS.aloadN X624.here hx rfl (hb hby d11_90) rfl rfl k) ?_
  obtain ⟨T643, X643, e643, st643⟩ := getF X624 hx hZ hown (host := "") (Or.inl (wd hw 13 rfl)) Via.refl e624 f633 (g := (mkF m 91 #[.val (.ref a1), .val (.ref x), .val (.int (-2 : Int32)), .val (.int (0 : Int32)), .val (.ref y)] [(.ref a1)])) rfl rfl (hb hby d11_91)
  refine Goes.of st643 ?_
  show Goes p e below (T643.setTop (mkF m 94 #[.val (.ref a1), .val (.ref x), .val (.int (-2 : Int32)), .val (.int (0 : Int32)), .val (.ref y)] [(.ref FA)])) _
  refine Goes.of (fun t k => XS.aloadN X643.here hx rfl (hb hby d11_94) rfl rfl k) ?_
  obtain ⟨T644, X644, e644, st644⟩ := getF X643 hx hZ hown (host := "") (Or.inl (wd hw 82 rfl)) Via.refl e643 f634 (g := (mkF m 95 #[.val (.ref a1), .val (.ref x), .val (.int (-2 : Int32)), .val (.int (0 : Int32)), .val (.ref y)] [(.ref a1), (.ref FA)])) rfl rfl (hb hby d11_95)
  refine Goes.of st644 ?_
  show Goes p e below (T644.setTop (mkF m 98 #[.val (.ref a1), .val (.ref x), .val (.int (-2 : Int32)), .val (.int (0 : Int32)), .val (.ref y)] [(.int (1 : Int32)), (.ref FA)])) _
  refine Goes.of (fun t k => XS.aconstNull X644.here hx rfl (hb hby d11_98) k) ?_
  have Vc645 := f637
  obtain ⟨clc645, Arc645, qc645, Sc645, Nc645, Hc645, Gc645⟩ := Vc645
  have hin646 : ¬ ((1 : Int32) < 0 ∨ clc645.slots.size ≤ ((1 : Int32)).toNatClampNeg) := inb_of Sc645 ⟨by decide, by decide⟩
  obtain ⟨T647, h647, X647, e647, W647, st647⟩ := stR X644 hx hZ e644 Arc645 (j := (1 : Int32)) hin646 rfl (Or.inl rfl) (g := (mkF m 99 #[.val (.ref a1), .val (.ref x), .val (.int (-2 : Int32)), .val (.int (0 : Int32)), .val (.ref y)] [.null, (.int (1 : Int32)), (.ref FA)])) rfl rfl (hb hby d11_99)
  have V647 : Arv Z h647 FA kF (.object "com/example/ripplematch/ripplematch/core/Activation") (16 : Int32) [(.ref y), .null, .null, .null, .null, .null, .null, .null, .null, .null, .null, .null, .null, .null, .null, .null] .null := Arv.set Arc645 qc645 Sc645 Nc645 Hc645 Gc645 rfl W647 1 rfl (Nat.le_of_ble_eq_true rfl)
  have K648 : Keep h0 h647 [a1, FA, x, y] := K626.wr W647 (Or.inl (List.mem_of_getElem? (i := 1) rfl))
  have z649 : n0 ≤ h647.size := Nat.le_trans z627 (Keep.of_wr W647).1
  have f650 := f628.wr W647
  have f651 := f629.other W647 (Or.inl n_a1_FA)
  have f652 := f630.other W647 (Or.inl n_a1_FA)
  have f653 := f631.other W647 (Or.inl n_a1_FA)
  have f654 := f632.other W647 (Or.inl n_a1_FA)
  have f655 := f633.other W647 (Or.inl n_a1_FA)
  have f656 := f634.other W647 (Or.inl n_a1_FA)
  have f657 := f635.other W647 (Or.inl n_a1_FA)
  have f658 := f636.other W647 n_HA_FA
  have f660 := f638.wr W647
  have f661 := f639.other W647 (Or.inl (Ne.symm n_FA_x))
  have f662 := f640.wr W647
  have f663 := f625.other W647 (Or.inl (Ne.symm n_FA_y))
  have f664 := f642.wr W647 g_FA
  have N647 := Fr.snoc X647 N624 g_FA
  refine Goes.of st647 ?_
  show Goes p e below (T647.setTop (mkF m 100 #[.val (.ref a1), .val (.ref x), .val (.int (-2 : Int32)), .val (.int (0 : Int32)), .val (.ref y)] [])) _
  refine Goes.of (fun t k => XS.aloadN X647.here hx rfl (hb hby d11_100) rfl rfl k) ?_
  show Goes p e below (T647.setTop (mkF m 101 #[.val (.ref a1), .val (.ref x), .val (.int (-2 : Int32)), .val (.int (0 : Int32)), .val (.ref y)] [(.ref x)])) _
  refine Goes.of (fun t k => XS.iconst X647.here hx rfl (hb hby d11_101) k) ?_
  obtain ⟨T665, h665, X665, e665, W665, st665⟩ := putF X647 hx hZ hown (host := "") (Or.inl (wd hw 84 rfl)) Via.refl e647 f661 f660 (Or.inl (wd hw 45 rfl)) (wd hw 38 rfl) (ty := .int) (by decide) rfl rfl (g := (mkF m 102 #[.val (.ref a1), .val (.ref x), .val (.int (-2 : Int32)), .val (.int (0 : Int32)), .val (.ref y)] [(.int (-1 : Int32)), (.ref x)])) rfl rfl (hb hby d11_102)
  have f666 := f661.same W665
  have K667 : Keep h0 h665 [a1, FA, x, y] := K648.wr W665 (Or.inl (List.mem_of_getElem? (i := 2) rfl))
  have z668 : n0 ≤ h665.size := Nat.le_trans z649 (Keep.of_wr W665).1
  have f669 := f650.wr W665
  have f670 := f651.other W665 (Or.inl n_a1_x)
  have f671 := f652.other W665 (Or.inl n_a1_x)
  have f672 := f653.other W665 (Or.inl n_a1_x)
  have f673 := f654.other W665 (Or.inl n_a1_x)
  have f674 := f655.other W665 (Or.inl n_a1_x)
  have f675 := f656.other W665 (Or.inl n_a1_x)
  have f676 := f657.other W665 (Or.inl n_a1_x)
  have f677 := f658.other W665 n_HA_x
  have f678 := V647.other W665 n_FA_x
  have f679 := f660.wr W665
  have f681 := f662.wr W665
  have f682 := f663.other W665 (Or.inl (Ne.symm n_x_y))
  have f683 := f664.wr W665 g_x
  have N665 := Fr.snoc X665 N647 g_x
  refine Goes.of st665 ?_
  show Goes p e below (T665.setTop (mkF m 105 #[.val (.ref a1), .val (.ref x), .val (.int (-2 : Int32)), .val (.int (0 : Int32)), .val (.ref y)] [])) _
  refine Goes.of (fun t k => XS.aloadN X665.here hx rfl (hb hby d11_105) rfl rfl k) ?_
  show Goes p e below (T665.setTop (mkF m 106 #[.val (.ref a1), .val (.ref x), .val (.int (-2 : Int32)), .val (.int (0 : Int32)), .val (.ref y)] [(.ref a1)])) _
  refine Goes.of (fun t k => XS.dup X665.here hx rfl (hb hby d11_106) rfl rfl k) ?_
  obtain ⟨T684, X684, e684, st684⟩ := getF X665 hx hZ hown (host := "") (Or.inl (wd hw 69 rfl)) Via.refl e665 f676 (g := (mkF m 107 #[.val (.ref a1), .val (.ref x), .val (.int (-2 : Int32)), .val (.int (0 : Int32)), .val (.ref y)] [(.ref a1), (.ref a1)])) rfl rfl (hb hby d11_107)
  refine Goes.of st684 ?_
  show Goes p e below (T684.setTop (mkF m 110 #[.val (.ref a1), .val (.ref x), .val (.int (-2 : Int32)), .val (.int (0 : Int32)), .val (.ref y)] [(.int (2 : Int32)), (.ref a1)])) _
  refine Goes.of (fun t k => XS.iconst X684.here hx rfl (hb hby d11_110) k) ?_
  show Goes p e below (T684.setTop (mkF m 111 #[.val (.ref a1), .val (.ref x), .val (.int (-2 : Int32)), .val (.int (0 : Int32)), .val (.ref y)] [(.int (1 : Int32)), (.int (2 : Int32)), (.ref a1)])) _
  refine Goes.of (fun t k => XS.isub X684.here hx rfl (hb hby d11_111) rfl k) ?_
  obtain ⟨T685, h685, X685, e685, W685, st685⟩ := putF X684 hx hZ hown (host := "") (Or.inl (wd hw 69 rfl)) Via.refl e684 f676 f669 (Or.inl (wd hw 70 rfl)) (wd hw 1 rfl) (ty := .int) (by decide) rfl rfl (g := (mkF m 112 #[.val (.ref a1), .val (.ref x), .val (.int (-2 : Int32)), .val (.int (0 : Int32)), .val (.ref y)] [(.int (1 : Int32)), (.ref a1)])) rfl rfl (hb hby d11_112)
  have f686 := f676.same W685
  have K687 : Keep h0 h685 [a1, FA, x, y] := K667.wr W685 (Or.inl (List.mem_of_getElem? (i := 0) rfl))
  have z688 : n0 ≤ h685.size := Nat.le_trans z668 (Keep.of_wr W685).1
  have f689 := f669.wr W685
  have f690 := f670.other W685 (Or.inr (slot_ne (Or.inl (wd hw 12 rfl)) (Or.inl (wd hw 70 rfl)) (by decide) (t := (.array (.object "com/example/ripplematch/ripplematch/core/Activation"))) (t' := .int) (by decide) (by decide)))
  have f691 := f671.other W685 (Or.inr (slot_ne (Or.inl (wd hw 104 rfl)) (Or.inl (wd hw 70 rfl)) (by decide) (t := .int) (t' := .int) (by decide) (by decide)))
  have f692 := f672.other W685 (Or.inr (slot_ne (Or.inl (wd hw 102 rfl)) (Or.inl (wd hw 70 rfl)) (by decide) (t := .int) (t' := .int) (by decide) (by decide)))
  have f693 := f673.other W685 (Or.inr (slot_ne (Or.inl (wd hw 100 rfl)) (Or.inl (wd hw 70 rfl)) (by decide) (t := .boolean) (t' := .int) (by decide) (by decide)))
  have f694 := f674.other W685 (Or.inr (slot_ne (Or.inl (wd hw 14 rfl)) (Or.inl (wd hw 70 rfl)) (by decide) (t := (.array (.object "com/example/ripplematch/ripplematch/core/Activation"))) (t' := .int) (by decide) (by decide)))
  have f695 := f675.other W685 (Or.inr (slot_ne (Or.inl (wd hw 83 rfl)) (Or.inl (wd hw 70 rfl)) (by decide) (t := .int) (t' := .int) (by decide) (by decide)))
  have f697 := f677.other W685 (Ne.symm n_a1_HA)
  have f698 := f678.other W685 (Ne.symm n_a1_FA)
  have f699 := f679.wr W685
  have f700 := f666.other W685 (Or.inl (Ne.symm n_a1_x))
  have f701 := f681.wr W685
  have f702 := f682.other W685 (Or.inl (Ne.symm n_a1_y))
  have f703 := f683.wr W685 g_a1
  have N685 := Fr.snoc X685 N665 g_a1
  refine Goes.of st685 ?_
  show Goes p e below (T685.setTop (mkF m 115 #[.val (.ref a1), .val (.ref x), .val (.int (-2 : Int32)), .val (.int (0 : Int32)), .val (.ref y)] [])) _
  have eh : T685.heap = h685 := e685
  exact Goes.retV X685 hx Bd.returns hlocks (hb hby d11_115) (⟨rfl, N685, by rw [eh]; exact K687, by rw [eh]; exact f689, by rw [eh]; exact f690, by rw [eh]; exact f691, by rw [eh]; exact f692, by rw [eh]; exact f693, by rw [eh]; exact f694, by rw [eh]; exact f695, by rw [eh]; exact f686, by rw [eh]; exact f697, by rw [eh]; exact f698, by rw [eh]; exact f699, by rw [eh]; exact f700, by rw [eh]; exact f701, by rw [eh]; exact f702⟩) (by decide) (by decide)
theorem ef_11_704 (m : MethodId) (x0 : Addr) (x1 : Addr) : entryFrame m #[(.ref x0), (.ref x1)] 5 = mkF m 0 #[.val (.ref x0), .val (.ref x1), .unset, .unset, .unset] [] := by first | (simp [entryFrame, mkF, argsToLocals, Value.category]; done) | rfl
def Q11_704 (Z : State) (a1 : Addr) (y : Addr) (HA : Addr) (FA : Addr) (x : Addr) (kH : ClassId) (kF : ClassId) (h0 : Heap) (n0 : Nat) (v : Option Value) (h : Heap) (L : List Loc) : Prop := v = none ∧ Fr n0 L ∧ Keep h0 h [a1, FA, x, y] ∧ Exa Z h a1 "com/example/ripplematch/ripplematch/core/Agenda" ∧ Fld Z h a1 "com/example/ripplematch/ripplematch/core/Agenda" "heap" "[Lcom/example/ripplematch/ripplematch/core/Activation;" (.ref HA) ∧ Fld Z h a1 "com/example/ripplematch/ripplematch/core/Agenda" "heapSize" "I" (.int (0 : Int32)) ∧ Fld Z h a1 "com/example/ripplematch/ripplematch/core/Agenda" "gone" "I" (.int (0 : Int32)) ∧ Fld Z h a1 "com/example/ripplematch/ripplematch/core/Agenda" "disordered" "Z" (.int (0 : Int32)) ∧ Fld Z h a1 "com/example/ripplematch/ripplematch/core/Agenda" "fresh" "[Lcom/example/ripplematch/ripplematch/core/Activation;" (.ref FA) ∧ Fld Z h a1 "com/example/ripplematch/ripplematch/core/Agenda" "freshSize" "I" (.int (1 : Int32)) ∧ Fld Z h a1 "com/example/ripplematch/ripplematch/core/Agenda" "size" "I" (.int (1 : Int32)) ∧ Arv Z h HA kH (.object "com/example/ripplematch/ripplematch/core/Activation") (16 : Int32) [.null, .null, .null, .null, .null, .null, .null, .null, .null, .null, .null, .null, .null, .null, .null, .null] .null ∧ Arv Z h FA kF (.object "com/example/ripplematch/ripplematch/core/Activation") (16 : Int32) [(.ref x), .null, .null, .null, .null, .null, .null, .null, .null, .null, .null, .null, .null, .null, .null, .null] .null ∧ Exa Z h x "com/example/ripplematch/ripplematch/core/Activation" ∧ Fld Z h x "com/example/ripplematch/ripplematch/core/Activation" "place" "I" (.int (-2 : Int32)) ∧ Exa Z h y "com/example/ripplematch/ripplematch/core/Activation" ∧ Fld Z h y "com/example/ripplematch/ripplematch/core/Activation" "place" "I" (.int (-1 : Int32))
set_option maxRecDepth 65536 in
set_option maxHeartbeats 40000000 in
theorem rm11_704 (l : Launch) (Z : State) (a0 : Array Value) (hw : ∀ d ∈ tables_1, d.before a0 Z = true) (ws : List Jvm.Cond) (a1 : Addr) (y : Addr) (HA : Addr) (FA : Addr) (x : Addr) (kH : ClassId) (kF : ClassId) (h0 : Heap) (n0 : Nat) (Z0 : n0 ≤ h0.size) (O0 : Old Z n0 h0) (SA : Sta Z Z.heap "com/example/ripplematch/ripplematch/core/Agenda" "$assertionsDisabled" "Z" (.int (1 : Int32))) (E : Exa Z h0 a1 "com/example/ripplematch/ripplematch/core/Agenda") (F_heap : Fld Z h0 a1 "com/example/ripplematch/ripplematch/core/Agenda" "heap" "[Lcom/example/ripplematch/ripplematch/core/Activation;" (.ref HA)) (F_heapSize : Fld Z h0 a1 "com/example/ripplematch/ripplematch/core/Agenda" "heapSize" "I" (.int (0 : Int32))) (F_gone : Fld Z h0 a1 "com/example/ripplematch/ripplematch/core/Agenda" "gone" "I" (.int (0 : Int32))) (F_disordered : Fld Z h0 a1 "com/example/ripplematch/ripplematch/core/Agenda" "disordered" "Z" (.int (0 : Int32))) (F_fresh : Fld Z h0 a1 "com/example/ripplematch/ripplematch/core/Agenda" "fresh" "[Lcom/example/ripplematch/ripplematch/core/Activation;" (.ref FA)) (F_freshSize : Fld Z h0 a1 "com/example/ripplematch/ripplematch/core/Agenda" "freshSize" "I" (.int (2 : Int32))) (F_size : Fld Z h0 a1 "com/example/ripplematch/ripplematch/core/Agenda" "size" "I" (.int (2 : Int32))) (VH : Arv Z h0 HA kH (.object "com/example/ripplematch/ripplematch/core/Activation") (16 : Int32) [.null, .null, .null, .null, .null, .null, .null, .null, .null, .null, .null, .null, .null, .null, .null, .null] .null) (VF : Arv Z h0 FA kF (.object "com/example/ripplematch/ripplematch/core/Activation") (16 : Int32) [(.ref x), (.ref y), .null, .null, .null, .null, .null, .null, .null, .null, .null, .null, .null, .null, .null, .null] .null) (E_x : Exa Z h0 x "com/example/ripplematch/ripplematch/core/Activation") (P_x : Fld Z h0 x "com/example/ripplematch/ripplematch/core/Activation" "place" "I" (.int (-2 : Int32))) (E_y : Exa Z h0 y "com/example/ripplematch/ripplematch/core/Activation") (P_y : Fld Z h0 y "com/example/ripplematch/ripplematch/core/Activation" "place" "I" (.int (-3 : Int32))) (g_a1 : n0 ≤ a1) (g_HA : n0 ≤ HA) (g_FA : n0 ≤ FA) (g_x : n0 ≤ x) (g_y : n0 ≤ y) (n_a1_HA : a1 ≠ HA) (n_a1_FA : a1 ≠ FA) (n_a1_x : a1 ≠ x) (n_a1_y : a1 ≠ y) (n_HA_FA : HA ≠ FA) (n_HA_x : HA ≠ x) (n_HA_y : HA ≠ y) (n_FA_x : FA ≠ x) (n_FA_y : FA ≠ y) (n_x_y : x ≠ y) (OH : Ovr Z kH "com/example/ripplematch/ripplematch/core/Activation") (OF : Ovr Z kF "com/example/ripplematch/ripplematch/core/Activation") :
    MetFree l (⟨"com/example/ripplematch/ripplematch/core/Agenda", "remove", "(Lcom/example/ripplematch/ripplematch/core/Activation;)V"⟩ : MethodName) (head1 (Jvm.Cond.code (⟨"com/example/ripplematch/ripplematch/core/Agenda", "remove", "(Lcom/example/ripplematch/ripplematch/core/Activation;)V"⟩ : MethodName) prog_13_method_5_code 5 none :: ws) ({ frames := 0, cells := 0, slots := 0, locals := 0 } : Room)) (fun a U => a = #[(.ref a1), (.ref y)] ∧ Z.Warmed39 U.vm ∧ U.heap = h0) (fun _ _ _ _ _ => True) (fun _ U o U' => ∃ v L, o = .returned v ∧ Q11_704 Z a1 y HA FA x kH kF h0 n0 v U'.heap L ∧ FrameEnd U o U' L ({ frames := 0, cells := 0, slots := 0, locals := 0 } : Room).cells ({ frames := 0, cells := 0, slots := 0, locals := 0 } : Room).slots) := by
  refine MetFree.of_bodySF (plainFor_of_name pn_0) hisR ?_
  intro p e s m args below meth c s₁ Bd hml0 hP hK
  obtain ⟨rfl, hZ, hh⟩ := hP
  have hx := Bd.exec
  have hby := Bd.bytes
  have hml : c.maxLocals = 5 := hml0
  have hown : s.vm.findClass "com/example/ripplematch/ripplematch/core/Agenda" = some m.cls := findClass_of_methodNamed Bd.named
  have hnm := (name_of_methodNamed Bd.named Bd.method).1
  have hlocks : meth.locks = false := BodyLoose.notSynchronized Bd
  have X0 : Stand p l e ({ frames := 0, cells := 0, slots := 0, locals := 0 } : Room) s m #[(.ref a1), (.ref y)] below meth c s₁ [] 0 0 := Stand.of_body Bd
  have e0 : s₁.heap = h0 := by rw [← hh, Bd.state]; rfl
  have N0 := Fr.nil n0
  show Goes p e below (s₁.setTop (entryFrame m #[(.ref a1), (.ref y)] 5)) (Fin s (Q11_704 Z a1 y HA FA x kH kF h0 n0) ({ frames := 0, cells := 0, slots := 0, locals := 0 } : Room).cells ({ frames := 0, cells := 0, slots := 0, locals := 0 } : Room).slots)
  refine Goes.of (fun t k => castTop (ef_11_704 m a1 y) k) ?_
  have K0 : Keep h0 h0 [a1, FA, x, y] := Keep.refl _ _
  show Goes p e below (s₁.setTop (mkF m 0 #[.val (.ref a1), .val (.ref y), .unset, .unset, .unset] [])) _
  refine Goes.of (fun t k => XS.aloadN X0.here hx rfl (hb hby d11_0) rfl rfl k) ?_
  obtain ⟨T705, X705, e705, st705⟩ := getF X0 hx hZ hown (host := "") (Or.inl (wd hw 84 rfl)) Via.refl e0 P_y (g := (mkF m 1 #[.val (.ref a1), .val (.ref y), .unset, .unset, .unset] [(.ref y)])) rfl rfl (hb hby d11_1)
  refine Goes.of st705 ?_
  show Goes p e below (T705.setTop (mkF m 4 #[.val (.ref a1), .val (.ref y), .unset, .unset, .unset] [(.int (-3 : Int32))])) _
  refine Goes.of (fun t k => XS.istoreN X705.here hx rfl (hb hby d11_4) rfl (l' := #[.val (.ref a1), .val (.ref y), .val (.int (-3 : Int32)), .unset, .unset]) rfl k) ?_
  obtain ⟨T706, X706, e706, st706⟩ := getS2 X705 hx hZ hown (host := "") (Or.inl (wd hw 80 rfl)) Via.refl e705 (SA.ext O0.2) (g := (mkF m 5 #[.val (.ref a1), .val (.ref y), .val (.int (-3 : Int32)), .unset, .unset] [])) rfl (hb hby d11_5)
  refine Goes.of st706 ?_
  show Goes p e below (T706.setTop (mkF m 8 #[.val (.ref a1), .val (.ref y), .val (.int (-3 : Int32)), .unset, .unset] [(.int (1 : Int32))])) _
  refine Goes.of (fun t k => XS.ifYes X706.here hx rfl (pc0 := 8) (pc' := 33) rfl (hb hby d11_8) rfl ((if0 _ _).trans (feq (by decide)).2) (by decide) (by decide) k) ?_
  show Goes p e below (T706.setTop (mkF m 33 #[.val (.ref a1), .val (.ref y), .val (.int (-3 : Int32)), .unset, .unset] [])) _
  refine Goes.of (fun t k => XS.iloadN X706.here hx rfl (hb hby d11_33) rfl k) ?_
  show Goes p e below (T706.setTop (mkF m 34 #[.val (.ref a1), .val (.ref y), .val (.int (-3 : Int32)), .unset, .unset] [(.int (-3 : Int32))])) _
  refine Goes.of (fun t k => XS.ifYes X706.here hx rfl (pc0 := 34) (pc' := 50) rfl (hb hby d11_34) rfl ((if0 _ _).trans (tlt (by decide)).1) (by decide) (by decide) k) ?_
  show Goes p e below (T706.setTop (mkF m 50 #[.val (.ref a1), .val (.ref y), .val (.int (-3 : Int32)), .unset, .unset] [])) _
  refine Goes.of (fun t k => XS.bipush X706.here hx rfl (hb hby d11_50) k) ?_
  show Goes p e below (T706.setTop (mkF m 52 #[.val (.ref a1), .val (.ref y), .val (.int (-3 : Int32)), .unset, .unset] [(.int (-2 : Int32))])) _
  refine Goes.of (fun t k => XS.iloadN X706.here hx rfl (hb hby d11_52) rfl k) ?_
  show Goes p e below (T706.setTop (mkF m 53 #[.val (.ref a1), .val (.ref y), .val (.int (-3 : Int32)), .unset, .unset] [(.int (-3 : Int32)), (.int (-2 : Int32))])) _
  refine Goes.of (fun t k => XS.isub X706.here hx rfl (hb hby d11_53) rfl k) ?_
  show Goes p e below (T706.setTop (mkF m 54 #[.val (.ref a1), .val (.ref y), .val (.int (-3 : Int32)), .unset, .unset] [(.int (1 : Int32))])) _
  refine Goes.of (fun t k => XS.istoreN X706.here hx rfl (hb hby d11_54) rfl (l' := #[.val (.ref a1), .val (.ref y), .val (.int (-3 : Int32)), .val (.int (1 : Int32)), .unset]) rfl k) ?_
  show Goes p e below (T706.setTop (mkF m 55 #[.val (.ref a1), .val (.ref y), .val (.int (-3 : Int32)), .val (.int (1 : Int32)), .unset] [])) _
  refine Goes.of (fun t k => XS.aloadN X706.here hx rfl (hb hby d11_55) rfl rfl k) ?_
  obtain ⟨T707, X707, e707, st707⟩ := getF X706 hx hZ hown (host := "") (Or.inl (wd hw 13 rfl)) Via.refl e706 F_fresh (g := (mkF m 56 #[.val (.ref a1), .val (.ref y), .val (.int (-3 : Int32)), .val (.int (1 : Int32)), .unset] [(.ref a1)])) rfl rfl (hb hby d11_56)
  refine Goes.of st707 ?_
  show Goes p e below (T707.setTop (mkF m 59 #[.val (.ref a1), .val (.ref y), .val (.int (-3 : Int32)), .val (.int (1 : Int32)), .unset] [(.ref FA)])) _
  refine Goes.of (fun t k => XS.aloadN X707.here hx rfl (hb hby d11_59) rfl rfl k) ?_
  show Goes p e below (T707.setTop (mkF m 60 #[.val (.ref a1), .val (.ref y), .val (.int (-3 : Int32)), .val (.int (1 : Int32)), .unset] [(.ref a1), (.ref FA)])) _
  refine Goes.of (fun t k => XS.dup X707.here hx rfl (hb hby d11_60) rfl rfl k) ?_
  obtain ⟨T708, X708, e708, st708⟩ := getF X707 hx hZ hown (host := "") (Or.inl (wd hw 82 rfl)) Via.refl e707 F_freshSize (g := (mkF m 61 #[.val (.ref a1), .val (.ref y), .val (.int (-3 : Int32)), .val (.int (1 : Int32)), .unset] [(.ref a1), (.ref a1), (.ref FA)])) rfl rfl (hb hby d11_61)
  refine Goes.of st708 ?_
  show Goes p e below (T708.setTop (mkF m 64 #[.val (.ref a1), .val (.ref y), .val (.int (-3 : Int32)), .val (.int (1 : Int32)), .unset] [(.int (2 : Int32)), (.ref a1), (.ref FA)])) _
  refine Goes.of (fun t k => XS.iconst X708.here hx rfl (hb hby d11_64) k) ?_
  show Goes p e below (T708.setTop (mkF m 65 #[.val (.ref a1), .val (.ref y), .val (.int (-3 : Int32)), .val (.int (1 : Int32)), .unset] [(.int (1 : Int32)), (.int (2 : Int32)), (.ref a1), (.ref FA)])) _
  refine Goes.of (fun t k => XS.isub X708.here hx rfl (hb hby d11_65) rfl k) ?_
  show Goes p e below (T708.setTop (mkF m 66 #[.val (.ref a1), .val (.ref y), .val (.int (-3 : Int32)), .val (.int (1 : Int32)), .unset] [(.int (1 : Int32)), (.ref a1), (.ref FA)])) _
  refine Goes.of (fun t k => XS.dupX1 X708.here hx rfl (hb hby d11_66) rfl rfl rfl k) ?_
  obtain ⟨T709, h709, X709, e709, W709, st709⟩ := putF X708 hx hZ hown (host := "") (Or.inl (wd hw 82 rfl)) Via.refl e708 F_freshSize E (Or.inl (wd hw 83 rfl)) (wd hw 1 rfl) (ty := .int) (by decide) rfl rfl (g := (mkF m 67 #[.val (.ref a1), .val (.ref y), .val (.int (-3 : Int32)), .val (.int (1 : Int32)), .unset] [(.int (1 : Int32)), (.ref a1), (.int (1 : Int32)), (.ref FA)])) rfl rfl (hb hby d11_67)
  have f710 := F_freshSize.same W709
  have K711 : Keep h0 h709 [a1, FA, x, y] := K0.wr W709 (Or.inl (List.mem_of_getElem? (i := 0) rfl))
  have z712 : n0 ≤ h709.size := Nat.le_trans Z0 (Keep.of_wr W709).1
  have f713 := E.wr W709
  have f714 := F_heap.other W709 (Or.inr (slot_ne (Or.inl (wd hw 12 rfl)) (Or.inl (wd hw 83 rfl)) (by decide) (t := (.array (.object "com/example/ripplematch/ripplematch/core/Activation"))) (t' := .int) (by decide) (by decide)))
  have f715 := F_heapSize.other W709 (Or.inr (slot_ne (Or.inl (wd hw 104 rfl)) (Or.inl (wd hw 83 rfl)) (by decide) (t := .int) (t' := .int) (by decide) (by decide)))
  have f716 := F_gone.other W709 (Or.inr (slot_ne (Or.inl (wd hw 102 rfl)) (Or.inl (wd hw 83 rfl)) (by decide) (t := .int) (t' := .int) (by decide) (by decide)))
  have f717 := F_disordered.other W709 (Or.inr (slot_ne (Or.inl (wd hw 100 rfl)) (Or.inl (wd hw 83 rfl)) (by decide) (t := .boolean) (t' := .int) (by decide) (by decide)))
  have f718 := F_fresh.other W709 (Or.inr (slot_ne (Or.inl (wd hw 14 rfl)) (Or.inl (wd hw 83 rfl)) (by decide) (t := (.array (.object "com/example/ripplematch/ripplematch/core/Activation"))) (t' := .int) (by decide) (by decide)))
  have f720 := F_size.other W709 (Or.inr (slot_ne (Or.inl (wd hw 70 rfl)) (Or.inl (wd hw 83 rfl)) (by decide) (t := .int) (t' := .int) (by decide) (by decide)))
  have f721 := VH.other W709 (Ne.symm n_a1_HA)
  have f722 := VF.other W709 (Ne.symm n_a1_FA)
  have f723 := E_x.wr W709
  have f724 := P_x.other W709 (Or.inl (Ne.symm n_a1_x))
  have f725 := E_y.wr W709
  have f726 := P_y.other W709 (Or.inl (Ne.symm n_a1_y))
  have f727 := O0.wr W709 g_a1
  have N709 := Fr.snoc X709 N0 g_a1
  refine Goes.of st709 ?_
  have Vc728 := f722
  obtain ⟨clc728, Arc728, qc728, Sc728, Nc728, Hc728, Gc728⟩ := Vc728
  have hin729 : ¬ ((1 : Int32) < 0 ∨ clc728.slots.size ≤ ((1 : Int32)).toNatClampNeg) := inb_of Sc728 ⟨by decide, by decide⟩
  have hat730 : clc728.slots[((1 : Int32)).toNatClampNeg]? = some (.ref y) := Hc728.at hin729 rfl
  refine Goes.of (fun t k => X709.aaload hx (j := (1 : Int32)) (v := (.ref y)) (by rw [e709]; exact Arc728.1) (State.isArrayOf_alike hZ.alike Arc728.2.1) rfl Arc728.2.2 hin729 hat730 (g := (mkF m 70 #[.val (.ref a1), .val (.ref y), .val (.int (-3 : Int32)), .val (.int (1 : Int32)), .unset] [(.int (1 : Int32)), (.ref FA)])) rfl rfl (hb hby d11_70) _ k) ?_
  show Goes p e below (T709.setTop (mkF m 71 #[.val (.ref a1), .val (.ref y), .val (.int (-3 : Int32)), .val (.int (1 : Int32)), .unset] [(.ref y)])) _
  refine Goes.of (fun t k => XS.astore X709.here hx rfl (hb hby d11_71) rfl rfl (l' := #[.val (.ref a1), .val (.ref y), .val (.int (-3 : Int32)), .val (.int (1 : Int32)), .val (.ref y)]) rfl k) ?_
  show Goes p e below (T709.setTop (mkF m 73 #[.val (.ref a1), .val (.ref y), .val (.int (-3 : Int32)), .val (.int (1 : Int32)), .val (.ref y)] [])) _
  refine Goes.of (fun t k => XS.aloadN X709.here hx rfl (hb hby d11_73) rfl rfl k) ?_
  obtain ⟨T731, X731, e731, st731⟩ := getF X709 hx hZ hown (host := "") (Or.inl (wd hw 13 rfl)) Via.refl e709 f718 (g := (mkF m 74 #[.val (.ref a1), .val (.ref y), .val (.int (-3 : Int32)), .val (.int (1 : Int32)), .val (.ref y)] [(.ref a1)])) rfl rfl (hb hby d11_74)
  refine Goes.of st731 ?_
  show Goes p e below (T731.setTop (mkF m 77 #[.val (.ref a1), .val (.ref y), .val (.int (-3 : Int32)), .val (.int (1 : Int32)), .val (.ref y)] [(.ref FA)])) _
  refine Goes.of (fun t k => XS.iloadN X731.here hx rfl (hb hby d11_77) rfl k) ?_
  show Goes p e below (T731.setTop (mkF m 78 #[.val (.ref a1), .val (.ref y), .val (.int (-3 : Int32)), .val (.int (1 : Int32)), .val (.ref y)] [(.int (1 : Int32)), (.ref FA)])) _
  refine Goes.of (fun t k => XS.aload X731.here hx rfl (hb hby d11_78) rfl rfl k) ?_
  have Vc732 := f722
  obtain ⟨clc732, Arc732, qc732, Sc732, Nc732, Hc732, Gc732⟩ := Vc732
  have hin733 : ¬ ((1 : Int32) < 0 ∨ clc732.slots.size ≤ ((1 : Int32)).toNatClampNeg) := inb_of Sc732 ⟨by decide, by decide⟩
  obtain ⟨T734, h734, X734, e734, W734, st734⟩ := stR X731 hx hZ e731 Arc732 (j := (1 : Int32)) hin733 rfl (Sto.ofV Arc732 qc732 OF (Ins.self f725)) (g := (mkF m 80 #[.val (.ref a1), .val (.ref y), .val (.int (-3 : Int32)), .val (.int (1 : Int32)), .val (.ref y)] [(.ref y), (.int (1 : Int32)), (.ref FA)])) rfl rfl (hb hby d11_80)
  have V734 : Arv Z h734 FA kF (.object "com/example/ripplematch/ripplematch/core/Activation") (16 : Int32) [(.ref x), (.ref y), .null, .null, .null, .null, .null, .null, .null, .null, .null, .null, .null, .null, .null, .null] .null := Arv.set Arc732 qc732 Sc732 Nc732 Hc732 Gc732 rfl W734 1 rfl (Nat.le_of_ble_eq_true rfl)
  have K735 : Keep h0 h734 [a1, FA, x, y] := K711.wr W734 (Or.inl (List.mem_of_getElem? (i := 1) rfl))
  have z736 : n0 ≤ h734.size := Nat.le_trans z712 (Keep.of_wr W734).1
  have f737 := f713.wr W734
  have f738 := f714.other W734 (Or.inl n_a1_FA)
  have f739 := f715.other W734 (Or.inl n_a1_FA)
  have f740 := f716.other W734 (Or.inl n_a1_FA)
  have f741 := f717.other W734 (Or.inl n_a1_FA)
  have f742 := f718.other W734 (Or.inl n_a1_FA)
  have f743 := f710.other W734 (Or.inl n_a1_FA)
  have f744 := f720.other W734 (Or.inl n_a1_FA)
  have f745 := f721.other W734 n_HA_FA
  have f747 := f723.wr W734
  have f748 := f724.other W734 (Or.inl (Ne.symm n_FA_x))
  have f749 := f725.wr W734
  have f750 := f726.other W734 (Or.inl (Ne.symm n_FA_y))
  have f751 := f727.wr W734 g_FA
  have N734 := Fr.snoc X734 N709 g_FA
  refine Goes.of st734 ?_
  show Goes p e below (T734.setTop (mkF m 81 #[.val (.ref a1), .val (.ref y), .val (.int (-3 : Int32)), .val (.int (1 : Int32)), .val (.ref y)] [])) _
  refine Goes.of (fun t k => XS.aload X734.here hx rfl (hb hby d11_81) rfl rfl k) ?_
  show Goes p e below (T734.setTop (mkF m 83 #[.val (.ref a1), .val (.ref y), .val (.int (-3 : Int32)), .val (.int (1 : Int32)), .val (.ref y)] [(.ref y)])) _
  refine Goes.of (fun t k => XS.bipush X734.here hx rfl (hb hby d11_83) k) ?_
  show Goes p e below (T734.setTop (mkF m 85 #[.val (.ref a1), .val (.ref y), .val (.int (-3 : Int32)), .val (.int (1 : Int32)), .val (.ref y)] [(.int (-2 : Int32)), (.ref y)])) _
  refine Goes.of (fun t k => XS.iloadN X734.here hx rfl (hb hby d11_85) rfl k) ?_
  show Goes p e below (T734.setTop (mkF m 86 #[.val (.ref a1), .val (.ref y), .val (.int (-3 : Int32)), .val (.int (1 : Int32)), .val (.ref y)] [(.int (1 : Int32)), (.int (-2 : Int32)), (.ref y)])) _
  refine Goes.of (fun t k => XS.isub X734.here hx rfl (hb hby d11_86) rfl k) ?_
  obtain ⟨T752, h752, X752, e752, W752, st752⟩ := putF X734 hx hZ hown (host := "") (Or.inl (wd hw 84 rfl)) Via.refl e734 f750 f749 (Or.inl (wd hw 45 rfl)) (wd hw 38 rfl) (ty := .int) (by decide) rfl rfl (g := (mkF m 87 #[.val (.ref a1), .val (.ref y), .val (.int (-3 : Int32)), .val (.int (1 : Int32)), .val (.ref y)] [(.int (-3 : Int32)), (.ref y)])) rfl rfl (hb hby d11_87)
  have f753 := f750.same W752
  have K754 : Keep h0 h752 [a1, FA, x, y] := K735.wr W752 (Or.inl (List.mem_of_getElem? (i := 3) rfl))
  have z755 : n0 ≤ h752.size := Nat.le_trans z736 (Keep.of_wr W752).1
  have f756 := f737.wr W752
  have f757 := f738.other W752 (Or.inl n_a1_y)
  have f758 := f739.other W752 (Or.inl n_a1_y)
  have f759 := f740.other W752 (Or.inl n_a1_y)
  have f760 := f741.other W752 (Or.inl n_a1_y)
  have f761 := f742.other W752 (Or.inl n_a1_y)
  have f762 := f743.other W752 (Or.inl n_a1_y)
  have f763 := f744.other W752 (Or.inl n_a1_y)
  have f764 := f745.other W752 n_HA_y
  have f765 := V734.other W752 n_FA_y
  have f766 := f747.wr W752
  have f767 := f748.other W752 (Or.inl n_x_y)
  have f768 := f749.wr W752
  have f770 := f751.wr W752 g_y
  have N752 := Fr.snoc X752 N734 g_y
  refine Goes.of st752 ?_
  show Goes p e below (T752.setTop (mkF m 90 #[.val (.ref a1), .val (.ref y), .val (.int (-3 : Int32)), .val (.int (1 : Int32)), .val (.ref y)] [])) _
  refine Goes.of (fun t k => XS.aloadN X752.here hx rfl (hb hby d11_90) rfl rfl k) ?_
  obtain ⟨T771, X771, e771, st771⟩ := getF X752 hx hZ hown (host := "") (Or.inl (wd hw 13 rfl)) Via.refl e752 f761 (g := (mkF m 91 #[.val (.ref a1), .val (.ref y), .val (.int (-3 : Int32)), .val (.int (1 : Int32)), .val (.ref y)] [(.ref a1)])) rfl rfl (hb hby d11_91)
  refine Goes.of st771 ?_
  show Goes p e below (T771.setTop (mkF m 94 #[.val (.ref a1), .val (.ref y), .val (.int (-3 : Int32)), .val (.int (1 : Int32)), .val (.ref y)] [(.ref FA)])) _
  refine Goes.of (fun t k => XS.aloadN X771.here hx rfl (hb hby d11_94) rfl rfl k) ?_
  obtain ⟨T772, X772, e772, st772⟩ := getF X771 hx hZ hown (host := "") (Or.inl (wd hw 82 rfl)) Via.refl e771 f762 (g := (mkF m 95 #[.val (.ref a1), .val (.ref y), .val (.int (-3 : Int32)), .val (.int (1 : Int32)), .val (.ref y)] [(.ref a1), (.ref FA)])) rfl rfl (hb hby d11_95)
  refine Goes.of st772 ?_
  show Goes p e below (T772.setTop (mkF m 98 #[.val (.ref a1), .val (.ref y), .val (.int (-3 : Int32)), .val (.int (1 : Int32)), .val (.ref y)] [(.int (1 : Int32)), (.ref FA)])) _
  refine Goes.of (fun t k => XS.aconstNull X772.here hx rfl (hb hby d11_98) k) ?_
  have Vc773 := f765
  obtain ⟨clc773, Arc773, qc773, Sc773, Nc773, Hc773, Gc773⟩ := Vc773
  have hin774 : ¬ ((1 : Int32) < 0 ∨ clc773.slots.size ≤ ((1 : Int32)).toNatClampNeg) := inb_of Sc773 ⟨by decide, by decide⟩
  obtain ⟨T775, h775, X775, e775, W775, st775⟩ := stR X772 hx hZ e772 Arc773 (j := (1 : Int32)) hin774 rfl (Or.inl rfl) (g := (mkF m 99 #[.val (.ref a1), .val (.ref y), .val (.int (-3 : Int32)), .val (.int (1 : Int32)), .val (.ref y)] [.null, (.int (1 : Int32)), (.ref FA)])) rfl rfl (hb hby d11_99)
  have V775 : Arv Z h775 FA kF (.object "com/example/ripplematch/ripplematch/core/Activation") (16 : Int32) [(.ref x), .null, .null, .null, .null, .null, .null, .null, .null, .null, .null, .null, .null, .null, .null, .null] .null := Arv.set Arc773 qc773 Sc773 Nc773 Hc773 Gc773 rfl W775 1 rfl (Nat.le_of_ble_eq_true rfl)
  have K776 : Keep h0 h775 [a1, FA, x, y] := K754.wr W775 (Or.inl (List.mem_of_getElem? (i := 1) rfl))
  have z777 : n0 ≤ h775.size := Nat.le_trans z755 (Keep.of_wr W775).1
  have f778 := f756.wr W775
  have f779 := f757.other W775 (Or.inl n_a1_FA)
  have f780 := f758.other W775 (Or.inl n_a1_FA)
  have f781 := f759.other W775 (Or.inl n_a1_FA)
  have f782 := f760.other W775 (Or.inl n_a1_FA)
  have f783 := f761.other W775 (Or.inl n_a1_FA)
  have f784 := f762.other W775 (Or.inl n_a1_FA)
  have f785 := f763.other W775 (Or.inl n_a1_FA)
  have f786 := f764.other W775 n_HA_FA
  have f788 := f766.wr W775
  have f789 := f767.other W775 (Or.inl (Ne.symm n_FA_x))
  have f790 := f768.wr W775
  have f791 := f753.other W775 (Or.inl (Ne.symm n_FA_y))
  have f792 := f770.wr W775 g_FA
  have N775 := Fr.snoc X775 N752 g_FA
  refine Goes.of st775 ?_
  show Goes p e below (T775.setTop (mkF m 100 #[.val (.ref a1), .val (.ref y), .val (.int (-3 : Int32)), .val (.int (1 : Int32)), .val (.ref y)] [])) _
  refine Goes.of (fun t k => XS.aloadN X775.here hx rfl (hb hby d11_100) rfl rfl k) ?_
  show Goes p e below (T775.setTop (mkF m 101 #[.val (.ref a1), .val (.ref y), .val (.int (-3 : Int32)), .val (.int (1 : Int32)), .val (.ref y)] [(.ref y)])) _
  refine Goes.of (fun t k => XS.iconst X775.here hx rfl (hb hby d11_101) k) ?_
  obtain ⟨T793, h793, X793, e793, W793, st793⟩ := putF X775 hx hZ hown (host := "") (Or.inl (wd hw 84 rfl)) Via.refl e775 f791 f790 (Or.inl (wd hw 45 rfl)) (wd hw 38 rfl) (ty := .int) (by decide) rfl rfl (g := (mkF m 102 #[.val (.ref a1), .val (.ref y), .val (.int (-3 : Int32)), .val (.int (1 : Int32)), .val (.ref y)] [(.int (-1 : Int32)), (.ref y)])) rfl rfl (hb hby d11_102)
  have f794 := f791.same W793
  have K795 : Keep h0 h793 [a1, FA, x, y] := K776.wr W793 (Or.inl (List.mem_of_getElem? (i := 3) rfl))
  have z796 : n0 ≤ h793.size := Nat.le_trans z777 (Keep.of_wr W793).1
  have f797 := f778.wr W793
  have f798 := f779.other W793 (Or.inl n_a1_y)
  have f799 := f780.other W793 (Or.inl n_a1_y)
  have f800 := f781.other W793 (Or.inl n_a1_y)
  have f801 := f782.other W793 (Or.inl n_a1_y)
  have f802 := f783.other W793 (Or.inl n_a1_y)
  have f803 := f784.other W793 (Or.inl n_a1_y)
  have f804 := f785.other W793 (Or.inl n_a1_y)
  have f805 := f786.other W793 n_HA_y
  have f806 := V775.other W793 n_FA_y
  have f807 := f788.wr W793
  have f808 := f789.other W793 (Or.inl n_x_y)
  have f809 := f790.wr W793
  have f811 := f792.wr W793 g_y
  have N793 := Fr.snoc X793 N775 g_y
  refine Goes.of st793 ?_
  show Goes p e below (T793.setTop (mkF m 105 #[.val (.ref a1), .val (.ref y), .val (.int (-3 : Int32)), .val (.int (1 : Int32)), .val (.ref y)] [])) _
  refine Goes.of (fun t k => XS.aloadN X793.here hx rfl (hb hby d11_105) rfl rfl k) ?_
  show Goes p e below (T793.setTop (mkF m 106 #[.val (.ref a1), .val (.ref y), .val (.int (-3 : Int32)), .val (.int (1 : Int32)), .val (.ref y)] [(.ref a1)])) _
  refine Goes.of (fun t k => XS.dup X793.here hx rfl (hb hby d11_106) rfl rfl k) ?_
  obtain ⟨T812, X812, e812, st812⟩ := getF X793 hx hZ hown (host := "") (Or.inl (wd hw 69 rfl)) Via.refl e793 f804 (g := (mkF m 107 #[.val (.ref a1), .val (.ref y), .val (.int (-3 : Int32)), .val (.int (1 : Int32)), .val (.ref y)] [(.ref a1), (.ref a1)])) rfl rfl (hb hby d11_107)
  refine Goes.of st812 ?_
  show Goes p e below (T812.setTop (mkF m 110 #[.val (.ref a1), .val (.ref y), .val (.int (-3 : Int32)), .val (.int (1 : Int32)), .val (.ref y)] [(.int (2 : Int32)), (.ref a1)])) _
  refine Goes.of (fun t k => XS.iconst X812.here hx rfl (hb hby d11_110) k) ?_
  show Goes p e below (T812.setTop (mkF m 111 #[.val (.ref a1), .val (.ref y), .val (.int (-3 : Int32)), .val (.int (1 : Int32)), .val (.ref y)] [(.int (1 : Int32)), (.int (2 : Int32)), (.ref a1)])) _
  refine Goes.of (fun t k => XS.isub X812.here hx rfl (hb hby d11_111) rfl k) ?_
  obtain ⟨T813, h813, X813, e813, W813, st813⟩ := putF X812 hx hZ hown (host := "") (Or.inl (wd hw 69 rfl)) Via.refl e812 f804 f797 (Or.inl (wd hw 70 rfl)) (wd hw 1 rfl) (ty := .int) (by decide) rfl rfl (g := (mkF m 112 #[.val (.ref a1), .val (.ref y), .val (.int (-3 : Int32)), .val (.int (1 : Int32)), .val (.ref y)] [(.int (1 : Int32)), (.ref a1)])) rfl rfl (hb hby d11_112)
  have f814 := f804.same W813
  have K815 : Keep h0 h813 [a1, FA, x, y] := K795.wr W813 (Or.inl (List.mem_of_getElem? (i := 0) rfl))
  have z816 : n0 ≤ h813.size := Nat.le_trans z796 (Keep.of_wr W813).1
  have f817 := f797.wr W813
  have f818 := f798.other W813 (Or.inr (slot_ne (Or.inl (wd hw 12 rfl)) (Or.inl (wd hw 70 rfl)) (by decide) (t := (.array (.object "com/example/ripplematch/ripplematch/core/Activation"))) (t' := .int) (by decide) (by decide)))
  have f819 := f799.other W813 (Or.inr (slot_ne (Or.inl (wd hw 104 rfl)) (Or.inl (wd hw 70 rfl)) (by decide) (t := .int) (t' := .int) (by decide) (by decide)))
  have f820 := f800.other W813 (Or.inr (slot_ne (Or.inl (wd hw 102 rfl)) (Or.inl (wd hw 70 rfl)) (by decide) (t := .int) (t' := .int) (by decide) (by decide)))
  have f821 := f801.other W813 (Or.inr (slot_ne (Or.inl (wd hw 100 rfl)) (Or.inl (wd hw 70 rfl)) (by decide) (t := .boolean) (t' := .int) (by decide) (by decide)))
  have f822 := f802.other W813 (Or.inr (slot_ne (Or.inl (wd hw 14 rfl)) (Or.inl (wd hw 70 rfl)) (by decide) (t := (.array (.object "com/example/ripplematch/ripplematch/core/Activation"))) (t' := .int) (by decide) (by decide)))
  have f823 := f803.other W813 (Or.inr (slot_ne (Or.inl (wd hw 83 rfl)) (Or.inl (wd hw 70 rfl)) (by decide) (t := .int) (t' := .int) (by decide) (by decide)))
  have f825 := f805.other W813 (Ne.symm n_a1_HA)
  have f826 := f806.other W813 (Ne.symm n_a1_FA)
  have f827 := f807.wr W813
  have f828 := f808.other W813 (Or.inl (Ne.symm n_a1_x))
  have f829 := f809.wr W813
  have f830 := f794.other W813 (Or.inl (Ne.symm n_a1_y))
  have f831 := f811.wr W813 g_a1
  have N813 := Fr.snoc X813 N793 g_a1
  refine Goes.of st813 ?_
  show Goes p e below (T813.setTop (mkF m 115 #[.val (.ref a1), .val (.ref y), .val (.int (-3 : Int32)), .val (.int (1 : Int32)), .val (.ref y)] [])) _
  have eh : T813.heap = h813 := e813
  exact Goes.retV X813 hx Bd.returns hlocks (hb hby d11_115) (⟨rfl, N813, by rw [eh]; exact K815, by rw [eh]; exact f817, by rw [eh]; exact f818, by rw [eh]; exact f819, by rw [eh]; exact f820, by rw [eh]; exact f821, by rw [eh]; exact f822, by rw [eh]; exact f823, by rw [eh]; exact f814, by rw [eh]; exact f825, by rw [eh]; exact f826, by rw [eh]; exact f827, by rw [eh]; exact f828, by rw [eh]; exact f829, by rw [eh]; exact f830⟩) (by decide) (by decide)
theorem ef_8 (m : MethodId) (x0 : Addr) : entryFrame m #[(.ref x0)] 1 = mkF m 0 #[.val (.ref x0)] [] := by first | (simp [entryFrame, mkF, argsToLocals, Value.category]; done) | rfl
def Q8 (Z : State) (a1 : Addr) (sz : Int32) (h0 : Heap) (n0 : Nat) (v : Option Value) (h : Heap) (L : List Loc) : Prop := v = some (.int (if sz = 0 then 1 else 0)) ∧ Fr n0 L ∧ h = h0
set_option maxRecDepth 65536 in
set_option maxHeartbeats 40000000 in
theorem rm8 (l : Launch) (Z : State) (a0 : Array Value) (hw : ∀ d ∈ tables_1, d.before a0 Z = true) (ws : List Jvm.Cond) (a1 : Addr) (sz : Int32) (h0 : Heap) (n0 : Nat) (Z0 : n0 ≤ h0.size) (F : Fld Z h0 a1 "com/example/ripplematch/ripplematch/core/Agenda" "size" "I" (.int sz)) :
    MetFree l (⟨"com/example/ripplematch/ripplematch/core/Agenda", "isEmpty", "()Z"⟩ : MethodName) (head1 (Jvm.Cond.code (⟨"com/example/ripplematch/ripplematch/core/Agenda", "isEmpty", "()Z"⟩ : MethodName) prog_13_method_3_code 1 (some .boolean) :: ws) ({ frames := 0, cells := 0, slots := 0, locals := 0 } : Room)) (fun a U => a = #[(.ref a1)] ∧ Z.Warmed39 U.vm ∧ U.heap = h0) (fun _ _ _ _ _ => True) (fun _ U o U' => ∃ v L, o = .returned v ∧ Q8 Z a1 sz h0 n0 v U'.heap L ∧ FrameEnd U o U' L ({ frames := 0, cells := 0, slots := 0, locals := 0 } : Room).cells ({ frames := 0, cells := 0, slots := 0, locals := 0 } : Room).slots) := by
  refine MetFree.of_bodySF (plainFor_of_name pn_0) hisR ?_
  intro p e s m args below meth c s₁ Bd hml0 hP hK
  obtain ⟨rfl, hZ, hh⟩ := hP
  have hx := Bd.exec
  have hby := Bd.bytes
  have hml : c.maxLocals = 1 := hml0
  have hown : s.vm.findClass "com/example/ripplematch/ripplematch/core/Agenda" = some m.cls := findClass_of_methodNamed Bd.named
  have hnm := (name_of_methodNamed Bd.named Bd.method).1
  have hlocks : meth.locks = false := BodyLoose.notSynchronized Bd
  have X0 : Stand p l e ({ frames := 0, cells := 0, slots := 0, locals := 0 } : Room) s m #[(.ref a1)] below meth c s₁ [] 0 0 := Stand.of_body Bd
  have e0 : s₁.heap = h0 := by rw [← hh, Bd.state]; rfl
  have N0 := Fr.nil n0
  show Goes p e below (s₁.setTop (entryFrame m #[(.ref a1)] 1)) (Fin s (Q8 Z a1 sz h0 n0) ({ frames := 0, cells := 0, slots := 0, locals := 0 } : Room).cells ({ frames := 0, cells := 0, slots := 0, locals := 0 } : Room).slots)
  refine Goes.of (fun t k => castTop (ef_8 m a1) k) ?_
  show Goes p e below (s₁.setTop (mkF m 0 #[.val (.ref a1)] [])) _
  refine Goes.of (fun t k => XS.aloadN X0.here hx rfl (hb hby d8_0) rfl rfl k) ?_
  obtain ⟨T832, X832, e832, st832⟩ := getF X0 hx hZ hown (host := "") (Or.inl (wd hw 69 rfl)) Via.refl e0 F (g := (mkF m 1 #[.val (.ref a1)] [(.ref a1)])) rfl rfl (hb hby d8_1)
  refine Goes.of st832 ?_
  show Goes p e below (T832.setTop (mkF m 4 #[.val (.ref a1)] [(.int sz)])) _
  obtain ⟨v833, hv833⟩ : ∃ z : Int32, z = (if sz = (0 : Int32) then (1 : Int32) else (0 : Int32)) := ⟨_, rfl⟩
  refine Goes.of (S' := T832.setTop (mkF m 12 #[.val (.ref a1)] [(.int v833)])) (fun t k => ?_) ?_
  · by_cases hb834 : sz = (0 : Int32)
    · refine XS.ifNo X832.here hx rfl (hb hby d8_4) rfl ((if0 _ _).trans (teq hb834).2) ?_
      show Steps p.tables e below (T832.setTop (mkF m 7 #[.val (.ref a1)] [])) _
      refine XS.iconst X832.here hx rfl (hb hby d8_7) ?_
      show Steps p.tables e below (T832.setTop (mkF m 8 #[.val (.ref a1)] [(.int (1 : Int32))])) _
      refine XS.goto X832.here hx rfl (pc0 := 8) (pc' := 12) rfl (hb hby d8_8) (by decide) (by decide) ?_
      show Steps p.tables e below (T832.setTop (mkF m 12 #[.val (.ref a1)] [(.int (1 : Int32))])) _
      simp only [if_pos hb834] at hv833; subst hv833
      exact k
    · refine XS.ifYes X832.here hx rfl (pc0 := 4) (pc' := 11) rfl (hb hby d8_4) rfl ((if0 _ _).trans (feq hb834).2) (by decide) (by decide) ?_
      show Steps p.tables e below (T832.setTop (mkF m 11 #[.val (.ref a1)] [])) _
      refine XS.iconst X832.here hx rfl (hb hby d8_11) ?_
      show Steps p.tables e below (T832.setTop (mkF m 12 #[.val (.ref a1)] [(.int (0 : Int32))])) _
      simp only [if_neg hb834] at hv833; subst hv833
      exact k
  show Goes p e below (T832.setTop (mkF m 12 #[.val (.ref a1)] [(.int v833)])) _
  exact Goes.retN (t := .boolean) X832 hx Bd.returns (by simp) hlocks (hb hby d8_12) (⟨by rw [hv833]; split <;> rfl, N0, e832⟩) (by decide) (by decide)
def own_st (Z : State) (h : Heap) (a1 a2 a3 a4 HA FA x0 x1 : Addr) (kH kF kO kC : ClassId) : Prop := (Exa Z h a1 "com/example/ripplematch/ripplematch/core/Agenda" ∧ Fld Z h a1 "com/example/ripplematch/ripplematch/core/Agenda" "heap" "[Lcom/example/ripplematch/ripplematch/core/Activation;" (.ref HA) ∧ Fld Z h a1 "com/example/ripplematch/ripplematch/core/Agenda" "heapSize" "I" (.int (0 : Int32)) ∧ Fld Z h a1 "com/example/ripplematch/ripplematch/core/Agenda" "gone" "I" (.int (0 : Int32)) ∧ Fld Z h a1 "com/example/ripplematch/ripplematch/core/Agenda" "disordered" "Z" (.int (0 : Int32)) ∧ Fld Z h a1 "com/example/ripplematch/ripplematch/core/Agenda" "fresh" "[Lcom/example/ripplematch/ripplematch/core/Activation;" (.ref FA) ∧ Fld Z h a1 "com/example/ripplematch/ripplematch/core/Agenda" "freshSize" "I" (.int (0 : Int32)) ∧ Fld Z h a1 "com/example/ripplematch/ripplematch/core/Agenda" "size" "I" (.int (0 : Int32)) ∧ Arv Z h HA kH (.object "com/example/ripplematch/ripplematch/core/Activation") (16 : Int32) [.null, .null, .null, .null, .null, .null, .null, .null, .null, .null, .null, .null, .null, .null, .null, .null] .null ∧ Arv Z h FA kF (.object "com/example/ripplematch/ripplematch/core/Activation") (16 : Int32) [.null, .null, .null, .null, .null, .null, .null, .null, .null, .null, .null, .null, .null, .null, .null, .null] .null ∧ Exa Z h x0 "com/example/ripplematch/ripplematch/core/Activation" ∧ Fld Z h x0 "com/example/ripplematch/ripplematch/core/Activation" "place" "I" (.int (-1 : Int32)) ∧ Exa Z h x1 "com/example/ripplematch/ripplematch/core/Activation" ∧ Fld Z h x1 "com/example/ripplematch/ripplematch/core/Activation" "place" "I" (.int (-1 : Int32)) ∧ Arv Z h a3 kO .boolean (2 : Int32) [(.int (0 : Int32)), (.int (0 : Int32))] (.int (0 : Int32)) ∧ Arv Z h a4 kC .int (1 : Int32) [(.int (0 : Int32))] (.int (0 : Int32))) ∨ (Exa Z h a1 "com/example/ripplematch/ripplematch/core/Agenda" ∧ Fld Z h a1 "com/example/ripplematch/ripplematch/core/Agenda" "heap" "[Lcom/example/ripplematch/ripplematch/core/Activation;" (.ref HA) ∧ Fld Z h a1 "com/example/ripplematch/ripplematch/core/Agenda" "heapSize" "I" (.int (0 : Int32)) ∧ Fld Z h a1 "com/example/ripplematch/ripplematch/core/Agenda" "gone" "I" (.int (0 : Int32)) ∧ Fld Z h a1 "com/example/ripplematch/ripplematch/core/Agenda" "disordered" "Z" (.int (0 : Int32)) ∧ Fld Z h a1 "com/example/ripplematch/ripplematch/core/Agenda" "fresh" "[Lcom/example/ripplematch/ripplematch/core/Activation;" (.ref FA) ∧ Fld Z h a1 "com/example/ripplematch/ripplematch/core/Agenda" "freshSize" "I" (.int (1 : Int32)) ∧ Fld Z h a1 "com/example/ripplematch/ripplematch/core/Agenda" "size" "I" (.int (1 : Int32)) ∧ Arv Z h HA kH (.object "com/example/ripplematch/ripplematch/core/Activation") (16 : Int32) [.null, .null, .null, .null, .null, .null, .null, .null, .null, .null, .null, .null, .null, .null, .null, .null] .null ∧ Arv Z h FA kF (.object "com/example/ripplematch/ripplematch/core/Activation") (16 : Int32) [(.ref x0), .null, .null, .null, .null, .null, .null, .null, .null, .null, .null, .null, .null, .null, .null, .null] .null ∧ Exa Z h x0 "com/example/ripplematch/ripplematch/core/Activation" ∧ Fld Z h x0 "com/example/ripplematch/ripplematch/core/Activation" "place" "I" (.int (-2 : Int32)) ∧ Exa Z h x1 "com/example/ripplematch/ripplematch/core/Activation" ∧ Fld Z h x1 "com/example/ripplematch/ripplematch/core/Activation" "place" "I" (.int (-1 : Int32)) ∧ Arv Z h a3 kO .boolean (2 : Int32) [(.int (1 : Int32)), (.int (0 : Int32))] (.int (0 : Int32)) ∧ Arv Z h a4 kC .int (1 : Int32) [(.int (1 : Int32))] (.int (0 : Int32))) ∨ (Exa Z h a1 "com/example/ripplematch/ripplematch/core/Agenda" ∧ Fld Z h a1 "com/example/ripplematch/ripplematch/core/Agenda" "heap" "[Lcom/example/ripplematch/ripplematch/core/Activation;" (.ref HA) ∧ Fld Z h a1 "com/example/ripplematch/ripplematch/core/Agenda" "heapSize" "I" (.int (0 : Int32)) ∧ Fld Z h a1 "com/example/ripplematch/ripplematch/core/Agenda" "gone" "I" (.int (0 : Int32)) ∧ Fld Z h a1 "com/example/ripplematch/ripplematch/core/Agenda" "disordered" "Z" (.int (0 : Int32)) ∧ Fld Z h a1 "com/example/ripplematch/ripplematch/core/Agenda" "fresh" "[Lcom/example/ripplematch/ripplematch/core/Activation;" (.ref FA) ∧ Fld Z h a1 "com/example/ripplematch/ripplematch/core/Agenda" "freshSize" "I" (.int (1 : Int32)) ∧ Fld Z h a1 "com/example/ripplematch/ripplematch/core/Agenda" "size" "I" (.int (1 : Int32)) ∧ Arv Z h HA kH (.object "com/example/ripplematch/ripplematch/core/Activation") (16 : Int32) [.null, .null, .null, .null, .null, .null, .null, .null, .null, .null, .null, .null, .null, .null, .null, .null] .null ∧ Arv Z h FA kF (.object "com/example/ripplematch/ripplematch/core/Activation") (16 : Int32) [(.ref x1), .null, .null, .null, .null, .null, .null, .null, .null, .null, .null, .null, .null, .null, .null, .null] .null ∧ Exa Z h x0 "com/example/ripplematch/ripplematch/core/Activation" ∧ Fld Z h x0 "com/example/ripplematch/ripplematch/core/Activation" "place" "I" (.int (-1 : Int32)) ∧ Exa Z h x1 "com/example/ripplematch/ripplematch/core/Activation" ∧ Fld Z h x1 "com/example/ripplematch/ripplematch/core/Activation" "place" "I" (.int (-2 : Int32)) ∧ Arv Z h a3 kO .boolean (2 : Int32) [(.int (0 : Int32)), (.int (1 : Int32))] (.int (0 : Int32)) ∧ Arv Z h a4 kC .int (1 : Int32) [(.int (1 : Int32))] (.int (0 : Int32))) ∨ (Exa Z h a1 "com/example/ripplematch/ripplematch/core/Agenda" ∧ Fld Z h a1 "com/example/ripplematch/ripplematch/core/Agenda" "heap" "[Lcom/example/ripplematch/ripplematch/core/Activation;" (.ref HA) ∧ Fld Z h a1 "com/example/ripplematch/ripplematch/core/Agenda" "heapSize" "I" (.int (0 : Int32)) ∧ Fld Z h a1 "com/example/ripplematch/ripplematch/core/Agenda" "gone" "I" (.int (0 : Int32)) ∧ Fld Z h a1 "com/example/ripplematch/ripplematch/core/Agenda" "disordered" "Z" (.int (0 : Int32)) ∧ Fld Z h a1 "com/example/ripplematch/ripplematch/core/Agenda" "fresh" "[Lcom/example/ripplematch/ripplematch/core/Activation;" (.ref FA) ∧ Fld Z h a1 "com/example/ripplematch/ripplematch/core/Agenda" "freshSize" "I" (.int (2 : Int32)) ∧ Fld Z h a1 "com/example/ripplematch/ripplematch/core/Agenda" "size" "I" (.int (2 : Int32)) ∧ Arv Z h HA kH (.object "com/example/ripplematch/ripplematch/core/Activation") (16 : Int32) [.null, .null, .null, .null, .null, .null, .null, .null, .null, .null, .null, .null, .null, .null, .null, .null] .null ∧ Arv Z h FA kF (.object "com/example/ripplematch/ripplematch/core/Activation") (16 : Int32) [(.ref x0), (.ref x1), .null, .null, .null, .null, .null, .null, .null, .null, .null, .null, .null, .null, .null, .null] .null ∧ Exa Z h x0 "com/example/ripplematch/ripplematch/core/Activation" ∧ Fld Z h x0 "com/example/ripplematch/ripplematch/core/Activation" "place" "I" (.int (-2 : Int32)) ∧ Exa Z h x1 "com/example/ripplematch/ripplematch/core/Activation" ∧ Fld Z h x1 "com/example/ripplematch/ripplematch/core/Activation" "place" "I" (.int (-3 : Int32)) ∧ Arv Z h a3 kO .boolean (2 : Int32) [(.int (1 : Int32)), (.int (1 : Int32))] (.int (0 : Int32)) ∧ Arv Z h a4 kC .int (1 : Int32) [(.int (2 : Int32))] (.int (0 : Int32))) ∨ (Exa Z h a1 "com/example/ripplematch/ripplematch/core/Agenda" ∧ Fld Z h a1 "com/example/ripplematch/ripplematch/core/Agenda" "heap" "[Lcom/example/ripplematch/ripplematch/core/Activation;" (.ref HA) ∧ Fld Z h a1 "com/example/ripplematch/ripplematch/core/Agenda" "heapSize" "I" (.int (0 : Int32)) ∧ Fld Z h a1 "com/example/ripplematch/ripplematch/core/Agenda" "gone" "I" (.int (0 : Int32)) ∧ Fld Z h a1 "com/example/ripplematch/ripplematch/core/Agenda" "disordered" "Z" (.int (0 : Int32)) ∧ Fld Z h a1 "com/example/ripplematch/ripplematch/core/Agenda" "fresh" "[Lcom/example/ripplematch/ripplematch/core/Activation;" (.ref FA) ∧ Fld Z h a1 "com/example/ripplematch/ripplematch/core/Agenda" "freshSize" "I" (.int (2 : Int32)) ∧ Fld Z h a1 "com/example/ripplematch/ripplematch/core/Agenda" "size" "I" (.int (2 : Int32)) ∧ Arv Z h HA kH (.object "com/example/ripplematch/ripplematch/core/Activation") (16 : Int32) [.null, .null, .null, .null, .null, .null, .null, .null, .null, .null, .null, .null, .null, .null, .null, .null] .null ∧ Arv Z h FA kF (.object "com/example/ripplematch/ripplematch/core/Activation") (16 : Int32) [(.ref x1), (.ref x0), .null, .null, .null, .null, .null, .null, .null, .null, .null, .null, .null, .null, .null, .null] .null ∧ Exa Z h x0 "com/example/ripplematch/ripplematch/core/Activation" ∧ Fld Z h x0 "com/example/ripplematch/ripplematch/core/Activation" "place" "I" (.int (-3 : Int32)) ∧ Exa Z h x1 "com/example/ripplematch/ripplematch/core/Activation" ∧ Fld Z h x1 "com/example/ripplematch/ripplematch/core/Activation" "place" "I" (.int (-2 : Int32)) ∧ Arv Z h a3 kO .boolean (2 : Int32) [(.int (1 : Int32)), (.int (1 : Int32))] (.int (0 : Int32)) ∧ Arv Z h a4 kC .int (1 : Int32) [(.int (2 : Int32))] (.int (0 : Int32)))
theorem own_and1 (z : Int32) : z &&& 1 = 0 ∨ z &&& 1 = 1 := by
  have e1 : (z &&& 1).toInt = z.toInt % 2 ^ 1 := Jvm.Kit.i32_mask z 1 (k := 1) (by decide) (by decide)
  generalize z &&& 1 = y at *
  have : y.toInt = 0 ∨ y.toInt = 1 := by omega
  rcases this with h | h
  · left; apply Int32.toInt_inj.mp; rw [h]; decide
  · right; apply Int32.toInt_inj.mp; rw [h]; decide
theorem ef_9 (m : MethodId) (x0 : Addr) (x1 : Addr) (x2 : Addr) (x3 : Addr) (x4 : Int32) : entryFrame m #[(.ref x0), (.ref x1), (.ref x2), (.ref x3), (.int x4)] 9 = mkF m 0 #[.val (.ref x0), .val (.ref x1), .val (.ref x2), .val (.ref x3), .val (.int x4), .unset, .unset, .unset, .unset] [] := by first | (simp [entryFrame, mkF, argsToLocals, Value.category]; done) | rfl
def Q9 (Z : State) (a1 : Addr) (a2 : Addr) (a3 : Addr) (a4 : Addr) (p5 : Int32) (HA : Addr) (FA : Addr) (x0 : Addr) (x1 : Addr) (kH : ClassId) (kF : ClassId) (kO : ClassId) (kC : ClassId) (kT : ClassId) (h0 : Heap) (n0 : Nat) (v : Option Value) (h : Heap) (L : List Loc) : Prop := v = some (.int 1) ∧ Fr n0 L ∧ Keep h0 h [a1, a3, a4, HA, FA, x0, x1] ∧ own_st Z h a1 a2 a3 a4 HA FA x0 x1 kH kF kO kC
set_option maxRecDepth 65536 in
set_option maxHeartbeats 40000000 in
theorem rm9 (l : Launch) (Z : State) (a0 : Array Value) (hw : ∀ d ∈ tables_1, d.before a0 Z = true) (ws : List Jvm.Cond) (a1 : Addr) (a2 : Addr) (a3 : Addr) (a4 : Addr) (p5 : Int32) (HA : Addr) (FA : Addr) (x0 : Addr) (x1 : Addr) (kH : ClassId) (kF : ClassId) (kO : ClassId) (kC : ClassId) (kT : ClassId) (h0 : Heap) (n0 : Nat) (Z0 : n0 ≤ h0.size) (O0 : Old Z n0 h0) (SA : Sta Z Z.heap "com/example/ripplematch/ripplematch/core/Agenda" "$assertionsDisabled" "Z" (.int (1 : Int32))) (E : Exa Z h0 a1 "com/example/ripplematch/ripplematch/core/Agenda") (F_heap : Fld Z h0 a1 "com/example/ripplematch/ripplematch/core/Agenda" "heap" "[Lcom/example/ripplematch/ripplematch/core/Activation;" (.ref HA)) (F_heapSize : Fld Z h0 a1 "com/example/ripplematch/ripplematch/core/Agenda" "heapSize" "I" (.int (0 : Int32))) (F_gone : Fld Z h0 a1 "com/example/ripplematch/ripplematch/core/Agenda" "gone" "I" (.int (0 : Int32))) (F_disordered : Fld Z h0 a1 "com/example/ripplematch/ripplematch/core/Agenda" "disordered" "Z" (.int (0 : Int32))) (F_fresh : Fld Z h0 a1 "com/example/ripplematch/ripplematch/core/Agenda" "fresh" "[Lcom/example/ripplematch/ripplematch/core/Activation;" (.ref FA)) (F_freshSize : Fld Z h0 a1 "com/example/ripplematch/ripplematch/core/Agenda" "freshSize" "I" (.int (0 : Int32))) (F_size : Fld Z h0 a1 "com/example/ripplematch/ripplematch/core/Agenda" "size" "I" (.int (0 : Int32))) (VH : Arv Z h0 HA kH (.object "com/example/ripplematch/ripplematch/core/Activation") (16 : Int32) [.null, .null, .null, .null, .null, .null, .null, .null, .null, .null, .null, .null, .null, .null, .null, .null] .null) (VF : Arv Z h0 FA kF (.object "com/example/ripplematch/ripplematch/core/Activation") (16 : Int32) [.null, .null, .null, .null, .null, .null, .null, .null, .null, .null, .null, .null, .null, .null, .null, .null] .null) (E_x0 : Exa Z h0 x0 "com/example/ripplematch/ripplematch/core/Activation") (P_x0 : Fld Z h0 x0 "com/example/ripplematch/ripplematch/core/Activation" "place" "I" (.int (-1 : Int32))) (E_x1 : Exa Z h0 x1 "com/example/ripplematch/ripplematch/core/Activation") (P_x1 : Fld Z h0 x1 "com/example/ripplematch/ripplematch/core/Activation" "place" "I" (.int (-1 : Int32))) (VO : Arv Z h0 a3 kO .boolean (2 : Int32) [(.int (0 : Int32)), (.int (0 : Int32))] (.int (0 : Int32))) (VC : Arv Z h0 a4 kC .int (1 : Int32) [(.int (0 : Int32))] (.int (0 : Int32))) (VT : Arv Z h0 a2 kT (.object "com/example/ripplematch/ripplematch/core/Activation") (2 : Int32) [(.ref x0), (.ref x1)] .null) (g_a1 : n0 ≤ a1) (g_a3 : n0 ≤ a3) (g_a4 : n0 ≤ a4) (g_HA : n0 ≤ HA) (g_FA : n0 ≤ FA) (g_x0 : n0 ≤ x0) (g_x1 : n0 ≤ x1) (n_a1_a2 : a1 ≠ a2) (n_a1_a3 : a1 ≠ a3) (n_a1_a4 : a1 ≠ a4) (n_a1_HA : a1 ≠ HA) (n_a1_FA : a1 ≠ FA) (n_a1_x0 : a1 ≠ x0) (n_a1_x1 : a1 ≠ x1) (n_a2_a3 : a2 ≠ a3) (n_a2_a4 : a2 ≠ a4) (n_a2_HA : a2 ≠ HA) (n_a2_FA : a2 ≠ FA) (n_a2_x0 : a2 ≠ x0) (n_a2_x1 : a2 ≠ x1) (n_a3_a4 : a3 ≠ a4) (n_a3_HA : a3 ≠ HA) (n_a3_FA : a3 ≠ FA) (n_a3_x0 : a3 ≠ x0) (n_a3_x1 : a3 ≠ x1) (n_a4_HA : a4 ≠ HA) (n_a4_FA : a4 ≠ FA) (n_a4_x0 : a4 ≠ x0) (n_a4_x1 : a4 ≠ x1) (n_HA_FA : HA ≠ FA) (n_HA_x0 : HA ≠ x0) (n_HA_x1 : HA ≠ x1) (n_FA_x0 : FA ≠ x0) (n_FA_x1 : FA ≠ x1) (n_x0_x1 : x0 ≠ x1) (OH : Ovr Z kH "com/example/ripplematch/ripplematch/core/Activation") (OF : Ovr Z kF "com/example/ripplematch/ripplematch/core/Activation") :
    MetFree l (⟨"com/example/ripplematch/ripplematch/core/AgendaIsEmptyPinLaw", "step", "(Lcom/example/ripplematch/ripplematch/core/Agenda;[Lcom/example/ripplematch/ripplematch/core/Activation;[Z[II)Z"⟩ : MethodName) (head1 (Jvm.Cond.code (⟨"com/example/ripplematch/ripplematch/core/AgendaIsEmptyPinLaw", "step", "(Lcom/example/ripplematch/ripplematch/core/Agenda;[Lcom/example/ripplematch/ripplematch/core/Activation;[Z[II)Z"⟩ : MethodName) method_3_code 9 (some .boolean) :: ws) ({ frames := 4, cells := 0, slots := 0, locals := 60 } : Room)) (fun a U => a = #[(.ref a1), (.ref a2), (.ref a3), (.ref a4), (.int p5)] ∧ Z.Warmed39 U.vm ∧ U.heap = h0) (fun _ _ _ _ _ => True) (fun _ U o U' => ∃ v L, o = .returned v ∧ Q9 Z a1 a2 a3 a4 p5 HA FA x0 x1 kH kF kO kC kT h0 n0 v U'.heap L ∧ FrameEnd U o U' L ({ frames := 4, cells := 0, slots := 0, locals := 60 } : Room).cells ({ frames := 4, cells := 0, slots := 0, locals := 60 } : Room).slots) := by
  refine MetFree.of_bodySF (plainFor_of_name pn_4) hisR ?_
  intro p e s m args below meth c s₁ Bd hml0 hP hK
  obtain ⟨rfl, hZ, hh⟩ := hP
  have hx := Bd.exec
  have hby := Bd.bytes
  have hml : c.maxLocals = 9 := hml0
  have hown : s.vm.findClass "com/example/ripplematch/ripplematch/core/AgendaIsEmptyPinLaw" = some m.cls := findClass_of_methodNamed Bd.named
  have hnm := (name_of_methodNamed Bd.named Bd.method).1
  have hlocks : meth.locks = false := BodyLoose.notSynchronized Bd
  have X0 : Stand p l e ({ frames := 4, cells := 0, slots := 0, locals := 60 } : Room) s m #[(.ref a1), (.ref a2), (.ref a3), (.ref a4), (.int p5)] below meth c s₁ [] 0 0 := Stand.of_body Bd
  have e0 : s₁.heap = h0 := by rw [← hh, Bd.state]; rfl
  have N0 := Fr.nil n0
  show Goes p e below (s₁.setTop (entryFrame m #[(.ref a1), (.ref a2), (.ref a3), (.ref a4), (.int p5)] 9)) (Fin s (Q9 Z a1 a2 a3 a4 p5 HA FA x0 x1 kH kF kO kC kT h0 n0) ({ frames := 4, cells := 0, slots := 0, locals := 60 } : Room).cells ({ frames := 4, cells := 0, slots := 0, locals := 60 } : Room).slots)
  refine Goes.of (fun t k => castTop (ef_9 m a1 a2 a3 a4 p5) k) ?_
  have K0 : Keep h0 h0 [a1, a3, a4, HA, FA, x0, x1] := Keep.refl _ _
  show Goes p e below (s₁.setTop (mkF m 0 #[.val (.ref a1), .val (.ref a2), .val (.ref a3), .val (.ref a4), .val (.int p5), .unset, .unset, .unset, .unset] [])) _
  refine Goes.of (fun t k => XS.iload X0.here hx rfl (hb hby d9_0) rfl k) ?_
  show Goes p e below (s₁.setTop (mkF m 2 #[.val (.ref a1), .val (.ref a2), .val (.ref a3), .val (.ref a4), .val (.int p5), .unset, .unset, .unset, .unset] [(.int p5)])) _
  refine Goes.of (fun t k => XS.iconst X0.here hx rfl (hb hby d9_2) k) ?_
  show Goes p e below (s₁.setTop (mkF m 3 #[.val (.ref a1), .val (.ref a2), .val (.ref a3), .val (.ref a4), .val (.int p5), .unset, .unset, .unset, .unset] [(.int (1 : Int32)), (.int p5)])) _
  refine Goes.of (fun t k => XS.iand X0.here hx rfl (hb hby d9_3) rfl k) ?_
  show Goes p e below (s₁.setTop (mkF m 4 #[.val (.ref a1), .val (.ref a2), .val (.ref a3), .val (.ref a4), .val (.int p5), .unset, .unset, .unset, .unset] [(.int (p5 &&& (1 : Int32)))])) _
  refine Goes.of (fun t k => XS.istore X0.here hx rfl (hb hby d9_4) rfl (l' := #[.val (.ref a1), .val (.ref a2), .val (.ref a3), .val (.ref a4), .val (.int p5), .val (.int (p5 &&& (1 : Int32))), .unset, .unset, .unset]) rfl k) ?_
  show Goes p e below (s₁.setTop (mkF m 6 #[.val (.ref a1), .val (.ref a2), .val (.ref a3), .val (.ref a4), .val (.int p5), .val (.int (p5 &&& (1 : Int32))), .unset, .unset, .unset] [])) _
  rcases own_and1 p5 with hi | hi
  · rw [hi]
    show Goes p e below (s₁.setTop (mkF m 6 #[.val (.ref a1), .val (.ref a2), .val (.ref a3), .val (.ref a4), .val (.int p5), .val (.int (0 : Int32)), .unset, .unset, .unset] [])) _
    refine Goes.of (fun t k => XS.iload X0.here hx rfl (hb hby d9_6) rfl k) ?_
    show Goes p e below (s₁.setTop (mkF m 8 #[.val (.ref a1), .val (.ref a2), .val (.ref a3), .val (.ref a4), .val (.int p5), .val (.int (0 : Int32)), .unset, .unset, .unset] [(.int p5)])) _
    refine Goes.of (fun t k => XS.iconst X0.here hx rfl (hb hby d9_8) k) ?_
    show Goes p e below (s₁.setTop (mkF m 9 #[.val (.ref a1), .val (.ref a2), .val (.ref a3), .val (.ref a4), .val (.int p5), .val (.int (0 : Int32)), .unset, .unset, .unset] [(.int (2 : Int32)), (.int p5)])) _
    refine Goes.of (fun t k => XS.iand X0.here hx rfl (hb hby d9_9) rfl k) ?_
    show Goes p e below (s₁.setTop (mkF m 10 #[.val (.ref a1), .val (.ref a2), .val (.ref a3), .val (.ref a4), .val (.int p5), .val (.int (0 : Int32)), .unset, .unset, .unset] [(.int (p5 &&& (2 : Int32)))])) _
    by_cases hc10_835 : (p5 &&& (2 : Int32)) = (0 : Int32)
    · refine Goes.of (fun t k => XS.ifYes X0.here hx rfl (pc0 := 10) (pc' := 82) rfl (hb hby d9_10) rfl ((if0 _ _).trans (teq hc10_835).1) (by decide) (by decide) k) ?_
      show Goes p e below (s₁.setTop (mkF m 82 #[.val (.ref a1), .val (.ref a2), .val (.ref a3), .val (.ref a4), .val (.int p5), .val (.int (0 : Int32)), .unset, .unset, .unset] [])) _
      refine Goes.of (fun t k => XS.aloadN X0.here hx rfl (hb hby d9_82) rfl rfl k) ?_
      show Goes p e below (s₁.setTop (mkF m 83 #[.val (.ref a1), .val (.ref a2), .val (.ref a3), .val (.ref a4), .val (.int p5), .val (.int (0 : Int32)), .unset, .unset, .unset] [(.ref a3)])) _
      refine Goes.of (fun t k => XS.iload X0.here hx rfl (hb hby d9_83) rfl k) ?_
      have Vc836 := VO
      obtain ⟨clc836, Arc836, qc836, Sc836, Nc836, Hc836, Gc836⟩ := Vc836
      have hin837 : ¬ ((0 : Int32) < 0 ∨ clc836.slots.size ≤ ((0 : Int32)).toNatClampNeg) := inb_of Sc836 ⟨by decide, by decide⟩
      have hat838 : clc836.slots[((0 : Int32)).toNatClampNeg]? = some (.int (0 : Int32)) := Hc836.at hin837 rfl
      refine Goes.of (fun t k => X0.baloadBooleans hx (j := (0 : Int32)) (v := (.int (0 : Int32))) (by rw [e0]; exact Arc836.1) (State.isArrayOf_alike hZ.alike Arc836.2.1) Arc836.2.2 hin837 hat838 (g := (mkF m 85 #[.val (.ref a1), .val (.ref a2), .val (.ref a3), .val (.ref a4), .val (.int p5), .val (.int (0 : Int32)), .unset, .unset, .unset] [(.int (0 : Int32)), (.ref a3)])) rfl rfl (hb hby d9_85) _ k) ?_
      show Goes p e below (s₁.setTop (mkF m 86 #[.val (.ref a1), .val (.ref a2), .val (.ref a3), .val (.ref a4), .val (.int p5), .val (.int (0 : Int32)), .unset, .unset, .unset] [(.int (0 : Int32))])) _
      refine Goes.of (fun t k => XS.ifYes X0.here hx rfl (pc0 := 86) (pc' := 113) rfl (hb hby d9_86) rfl ((if0 _ _).trans (teq (by decide)).1) (by decide) (by decide) k) ?_
      show Goes p e below (s₁.setTop (mkF m 113 #[.val (.ref a1), .val (.ref a2), .val (.ref a3), .val (.ref a4), .val (.int p5), .val (.int (0 : Int32)), .unset, .unset, .unset] [])) _
      refine Goes.of (fun t k => XS.aloadN X0.here hx rfl (hb hby d9_113) rfl rfl k) ?_
      show Goes p e below (s₁.setTop (mkF m 114 #[.val (.ref a1), .val (.ref a2), .val (.ref a3), .val (.ref a4), .val (.int p5), .val (.int (0 : Int32)), .unset, .unset, .unset] [(.ref a1)])) _
      refine Goes.of (fun t k => XS.aloadN X0.here hx rfl (hb hby d9_114) rfl rfl k) ?_
      show Goes p e below (s₁.setTop (mkF m 115 #[.val (.ref a1), .val (.ref a2), .val (.ref a3), .val (.ref a4), .val (.int p5), .val (.int (0 : Int32)), .unset, .unset, .unset] [(.ref a2), (.ref a1)])) _
      refine Goes.of (fun t k => XS.iload X0.here hx rfl (hb hby d9_115) rfl k) ?_
      have Vc839 := VT
      obtain ⟨clc839, Arc839, qc839, Sc839, Nc839, Hc839, Gc839⟩ := Vc839
      have hin840 : ¬ ((0 : Int32) < 0 ∨ clc839.slots.size ≤ ((0 : Int32)).toNatClampNeg) := inb_of Sc839 ⟨by decide, by decide⟩
      have hat841 : clc839.slots[((0 : Int32)).toNatClampNeg]? = some (.ref x0) := Hc839.at hin840 rfl
      refine Goes.of (fun t k => X0.aaload hx (j := (0 : Int32)) (v := (.ref x0)) (by rw [e0]; exact Arc839.1) (State.isArrayOf_alike hZ.alike Arc839.2.1) rfl Arc839.2.2 hin840 hat841 (g := (mkF m 117 #[.val (.ref a1), .val (.ref a2), .val (.ref a3), .val (.ref a4), .val (.int p5), .val (.int (0 : Int32)), .unset, .unset, .unset] [(.int (0 : Int32)), (.ref a2), (.ref a1)])) rfl rfl (hb hby d9_117) _ k) ?_
      obtain ⟨cq842, kq842, q842a, q842b, q842c⟩ := isOf hZ e0 E
      obtain ⟨_, _, ⟨T842, L842, k842, n842⟩, -, X842, ⟨Lc842, hQ842, l842, y842, z842⟩, st842⟩ := X0.virtualBack hx (y := (⟨"com/example/ripplematch/ripplematch/core/Agenda", "add", "(Lcom/example/ripplematch/ripplematch/core/Activation;)V"⟩ : MethodName)) (z := (⟨"com/example/ripplematch/ripplematch/core/Agenda", "add", "(Lcom/example/ripplematch/ripplematch/core/Activation;)V"⟩ : MethodName)) hown (mvT hZ (wd hw 75 rfl)) (mvT hZ (wd hw 76 rfl)) (notFace_of_selects (args := #[]) (mvT hZ (wd hw 78 rfl))) (mvT hZ (wd hw 78 rfl)) (mvT hZ (wd hw 77 rfl)) (by decide) (backOf (W := 0) (rm10 l Z a0 hw [] a1 x0 HA FA _ _ h0 n0 Z0 O0 SA E F_heap F_heapSize F_gone F_disordered F_fresh F_freshSize F_size VH VF E_x0 P_x0 g_a1 g_HA g_FA g_x0 n_a1_HA n_a1_FA n_a1_x0 n_HA_FA n_HA_x0 n_FA_x0 OH OF) hZ (wd hw 79 rfl) (wd hw 2 rfl) (by decide) (by decide)) q842a q842c (g := (mkF m 118 #[.val (.ref a1), .val (.ref a2), .val (.ref a3), .val (.ref a4), .val (.int p5), .val (.int (0 : Int32)), .unset, .unset, .unset] [(.ref x0), (.ref a1)])) rfl (by rw [hml]; rfl) (Steps.refl _) (argsL := [(.ref x0)]) (rest := []) (lenOf pd_5 rfl) rfl (by show 2 * 0 + _ ≤ _; exact Nat.le_of_eq rfl) (hb hby d9_118) (fun _ _ => ⟨rfl, e0, (by decide : 0 + 0 ≤ _), (by decide : 0 + 0 ≤ _)⟩)
      dsimp only [Pt.U, Pt.locs, Pt.cells, Pt.slots] at X842 l842 y842 z842 st842 hQ842
      subst l842 y842 z842
      obtain ⟨rfl, N842q, K842, E_842, F_heap_842, F_heapSize_842, F_gone_842, F_disordered_842, F_fresh_842, F_freshSize_842, F_size_842, VH_842, VF_842, E_x0_842, P_x0_842⟩ := hQ842
      have N842 := Fr.app N0 N842q
      have K843 : Keep h0 T842.heap [a1, a3, a4, HA, FA, x0, x1] := K0.trans K842 (allS (Or.inl (List.mem_of_getElem? (i := 0) rfl)) (allS (Or.inl (List.mem_of_getElem? (i := 4) rfl)) (allS (Or.inl (List.mem_of_getElem? (i := 5) rfl)) all0)))
      have z844 : n0 ≤ T842.heap.size := Nat.le_trans Z0 K842.1
      have f845 := E.keep K842
      have f853 := VH.keep K842 (ninS (Ne.symm n_a1_HA) (ninS n_HA_FA (ninS n_HA_x0 nin0)))
      have f855 := E_x0.keep K842
      have f857 := E_x1.keep K842
      have f858 := P_x1.keep K842 (ninS (Ne.symm n_a1_x1) (ninS (Ne.symm n_FA_x1) (ninS (Ne.symm n_x0_x1) nin0)))
      have f859 := VO.keep K842 (ninS (Ne.symm n_a1_a3) (ninS n_a3_FA (ninS n_a3_x0 nin0)))
      have f860 := VC.keep K842 (ninS (Ne.symm n_a1_a4) (ninS n_a4_FA (ninS n_a4_x0 nin0)))
      have f861 := O0.keep K842 (allS g_a1 (allS g_FA (allS g_x0 all0)))
      have f862 := VT.keep K842 (ninS (Ne.symm n_a1_a2) (ninS n_a2_FA (ninS n_a2_x0 nin0)))
      refine Goes.of (fun t k => st842.trans k) ?_
      show Goes p e below (T842.setTop (mkF m 121 #[.val (.ref a1), .val (.ref a2), .val (.ref a3), .val (.ref a4), .val (.int p5), .val (.int (0 : Int32)), .unset, .unset, .unset] [])) _
      refine Goes.of (fun t k => XS.aloadN X842.here hx rfl (hb hby d9_121) rfl rfl k) ?_
      show Goes p e below (T842.setTop (mkF m 122 #[.val (.ref a1), .val (.ref a2), .val (.ref a3), .val (.ref a4), .val (.int p5), .val (.int (0 : Int32)), .unset, .unset, .unset] [(.ref a3)])) _
      refine Goes.of (fun t k => XS.iload X842.here hx rfl (hb hby d9_122) rfl k) ?_
      show Goes p e below (T842.setTop (mkF m 124 #[.val (.ref a1), .val (.ref a2), .val (.ref a3), .val (.ref a4), .val (.int p5), .val (.int (0 : Int32)), .unset, .unset, .unset] [(.int (0 : Int32)), (.ref a3)])) _
      refine Goes.of (fun t k => XS.iconst X842.here hx rfl (hb hby d9_124) k) ?_
      have Vc863 := f859
      obtain ⟨clc863, Arc863, qc863, Sc863, Nc863, Hc863, Gc863⟩ := Vc863
      have hin864 : ¬ ((0 : Int32) < 0 ∨ clc863.slots.size ≤ ((0 : Int32)).toNatClampNeg) := inb_of Sc863 ⟨by decide, by decide⟩
      obtain ⟨T865, h865, X865, e865, W865, st865⟩ := stZ X842 hx hZ rfl Arc863 (j := (0 : Int32)) hin864 (g := (mkF m 125 #[.val (.ref a1), .val (.ref a2), .val (.ref a3), .val (.ref a4), .val (.int p5), .val (.int (0 : Int32)), .unset, .unset, .unset] [(.int (1 : Int32)), (.int (0 : Int32)), (.ref a3)])) rfl rfl (hb hby d9_125)
      have V865 : Arv Z h865 a3 kO .boolean (2 : Int32) [(.int (nar .boolean (1 : Int32))), (.int (0 : Int32))] (.int (0 : Int32)) := Arv.set Arc863 qc863 Sc863 Nc863 Hc863 Gc863 (fits_nar_bool _) W865 0 rfl (Nat.le_of_ble_eq_true rfl)
      have K866 : Keep h0 h865 [a1, a3, a4, HA, FA, x0, x1] := K843.wr W865 (Or.inl (List.mem_of_getElem? (i := 1) rfl))
      have z867 : n0 ≤ h865.size := Nat.le_trans z844 (Keep.of_wr W865).1
      have f868 := E_842.wr W865
      have f869 := VH_842.other W865 (Ne.symm n_a3_HA)
      have f870 := E_x0_842.wr W865
      have f871 := f857.wr W865
      have f872 := f858.other W865 (Or.inl (Ne.symm n_a3_x1))
      have f874 := f860.other W865 (Ne.symm n_a3_a4)
      have f875 := f861.wr W865 g_a3
      have f876 := f862.other W865 n_a2_a3
      have f877 := F_heap_842.other W865 (Or.inl n_a1_a3)
      have f878 := F_heapSize_842.other W865 (Or.inl n_a1_a3)
      have f879 := F_gone_842.other W865 (Or.inl n_a1_a3)
      have f880 := F_disordered_842.other W865 (Or.inl n_a1_a3)
      have f881 := F_fresh_842.other W865 (Or.inl n_a1_a3)
      have f882 := F_freshSize_842.other W865 (Or.inl n_a1_a3)
      have f883 := F_size_842.other W865 (Or.inl n_a1_a3)
      have f884 := VF_842.other W865 (Ne.symm n_a3_FA)
      have f885 := P_x0_842.other W865 (Or.inl (Ne.symm n_a3_x0))
      have N865 := Fr.snoc X865 N842 g_a3
      refine Goes.of st865 ?_
      show Goes p e below (T865.setTop (mkF m 126 #[.val (.ref a1), .val (.ref a2), .val (.ref a3), .val (.ref a4), .val (.int p5), .val (.int (0 : Int32)), .unset, .unset, .unset] [])) _
      refine Goes.of (fun t k => XS.aloadN X865.here hx rfl (hb hby d9_126) rfl rfl k) ?_
      show Goes p e below (T865.setTop (mkF m 127 #[.val (.ref a1), .val (.ref a2), .val (.ref a3), .val (.ref a4), .val (.int p5), .val (.int (0 : Int32)), .unset, .unset, .unset] [(.ref a4)])) _
      refine Goes.of (fun t k => XS.iconst X865.here hx rfl (hb hby d9_127) k) ?_
      show Goes p e below (T865.setTop (mkF m 128 #[.val (.ref a1), .val (.ref a2), .val (.ref a3), .val (.ref a4), .val (.int p5), .val (.int (0 : Int32)), .unset, .unset, .unset] [(.int (0 : Int32)), (.ref a4)])) _
      refine Goes.of (fun t k => XS.aloadN X865.here hx rfl (hb hby d9_128) rfl rfl k) ?_
      show Goes p e below (T865.setTop (mkF m 129 #[.val (.ref a1), .val (.ref a2), .val (.ref a3), .val (.ref a4), .val (.int p5), .val (.int (0 : Int32)), .unset, .unset, .unset] [(.ref a4), (.int (0 : Int32)), (.ref a4)])) _
      refine Goes.of (fun t k => XS.iconst X865.here hx rfl (hb hby d9_129) k) ?_
      have Vc886 := f874
      obtain ⟨clc886, Arc886, qc886, Sc886, Nc886, Hc886, Gc886⟩ := Vc886
      have hin887 : ¬ ((0 : Int32) < 0 ∨ clc886.slots.size ≤ ((0 : Int32)).toNatClampNeg) := inb_of Sc886 ⟨by decide, by decide⟩
      have hat888 : clc886.slots[((0 : Int32)).toNatClampNeg]? = some (.int (0 : Int32)) := Hc886.at hin887 rfl
      refine Goes.of (fun t k => X865.iaload hx (j := (0 : Int32)) (v := (.int (0 : Int32))) (by rw [e865]; exact Arc886.1) (State.isArrayOf_alike hZ.alike Arc886.2.1) Arc886.2.2 hin887 hat888 (g := (mkF m 130 #[.val (.ref a1), .val (.ref a2), .val (.ref a3), .val (.ref a4), .val (.int p5), .val (.int (0 : Int32)), .unset, .unset, .unset] [(.int (0 : Int32)), (.ref a4), (.int (0 : Int32)), (.ref a4)])) rfl rfl (hb hby d9_130) _ k) ?_
      show Goes p e below (T865.setTop (mkF m 131 #[.val (.ref a1), .val (.ref a2), .val (.ref a3), .val (.ref a4), .val (.int p5), .val (.int (0 : Int32)), .unset, .unset, .unset] [(.int (0 : Int32)), (.int (0 : Int32)), (.ref a4)])) _
      refine Goes.of (fun t k => XS.iconst X865.here hx rfl (hb hby d9_131) k) ?_
      show Goes p e below (T865.setTop (mkF m 132 #[.val (.ref a1), .val (.ref a2), .val (.ref a3), .val (.ref a4), .val (.int p5), .val (.int (0 : Int32)), .unset, .unset, .unset] [(.int (1 : Int32)), (.int (0 : Int32)), (.int (0 : Int32)), (.ref a4)])) _
      refine Goes.of (fun t k => XS.iadd X865.here hx rfl (hb hby d9_132) rfl k) ?_
      have Vc889 := f874
      obtain ⟨clc889, Arc889, qc889, Sc889, Nc889, Hc889, Gc889⟩ := Vc889
      have hin890 : ¬ ((0 : Int32) < 0 ∨ clc889.slots.size ≤ ((0 : Int32)).toNatClampNeg) := inb_of Sc889 ⟨by decide, by decide⟩
      obtain ⟨T891, h891, X891, e891, W891, st891⟩ := stI X865 hx hZ e865 Arc889 (j := (0 : Int32)) hin890 (g := (mkF m 133 #[.val (.ref a1), .val (.ref a2), .val (.ref a3), .val (.ref a4), .val (.int p5), .val (.int (0 : Int32)), .unset, .unset, .unset] [(.int (1 : Int32)), (.int (0 : Int32)), (.ref a4)])) rfl rfl (hb hby d9_133)
      have V891 : Arv Z h891 a4 kC .int (1 : Int32) [(.int (1 : Int32))] (.int (0 : Int32)) := Arv.set Arc889 qc889 Sc889 Nc889 Hc889 Gc889 rfl W891 0 rfl (Nat.le_of_ble_eq_true rfl)
      have K892 : Keep h0 h891 [a1, a3, a4, HA, FA, x0, x1] := K866.wr W891 (Or.inl (List.mem_of_getElem? (i := 2) rfl))
      have z893 : n0 ≤ h891.size := Nat.le_trans z867 (Keep.of_wr W891).1
      have f894 := f868.wr W891
      have f895 := f869.other W891 (Ne.symm n_a4_HA)
      have f896 := f870.wr W891
      have f897 := f871.wr W891
      have f898 := f872.other W891 (Or.inl (Ne.symm n_a4_x1))
      have f899 := V865.other W891 n_a3_a4
      have f901 := f875.wr W891 g_a4
      have f902 := f876.other W891 n_a2_a4
      have f903 := f877.other W891 (Or.inl n_a1_a4)
      have f904 := f878.other W891 (Or.inl n_a1_a4)
      have f905 := f879.other W891 (Or.inl n_a1_a4)
      have f906 := f880.other W891 (Or.inl n_a1_a4)
      have f907 := f881.other W891 (Or.inl n_a1_a4)
      have f908 := f882.other W891 (Or.inl n_a1_a4)
      have f909 := f883.other W891 (Or.inl n_a1_a4)
      have f910 := f884.other W891 (Ne.symm n_a4_FA)
      have f911 := f885.other W891 (Or.inl (Ne.symm n_a4_x0))
      have N891 := Fr.snoc X891 N865 g_a4
      refine Goes.of st891 ?_
      show Goes p e below (T891.setTop (mkF m 134 #[.val (.ref a1), .val (.ref a2), .val (.ref a3), .val (.ref a4), .val (.int p5), .val (.int (0 : Int32)), .unset, .unset, .unset] [])) _
      refine Goes.of (fun t k => XS.aloadN X891.here hx rfl (hb hby d9_134) rfl rfl k) ?_
      obtain ⟨cq912, kq912, q912a, q912b, q912c⟩ := isOf hZ e891 f894
      obtain ⟨_, _, ⟨T912, L912, k912, n912⟩, -, X912, ⟨Lc912, hQ912, l912, y912, z912⟩, st912⟩ := X891.virtualBack hx (y := (⟨"com/example/ripplematch/ripplematch/core/Agenda", "isEmpty", "()Z"⟩ : MethodName)) (z := (⟨"com/example/ripplematch/ripplematch/core/Agenda", "isEmpty", "()Z"⟩ : MethodName)) hown (mvT hZ (wd hw 64 rfl)) (mvT hZ (wd hw 65 rfl)) (notFace_of_selects (args := #[]) (mvT hZ (wd hw 67 rfl))) (mvT hZ (wd hw 67 rfl)) (mvT hZ (wd hw 66 rfl)) (by decide) (backOf (W := 0) (rm8 l Z a0 hw [] a1 (1 : Int32) h891 n0 z893 f909) hZ (wd hw 68 rfl) (wd hw 2 rfl) (by decide) (by decide)) q912a q912c (g := (mkF m 135 #[.val (.ref a1), .val (.ref a2), .val (.ref a3), .val (.ref a4), .val (.int p5), .val (.int (0 : Int32)), .unset, .unset, .unset] [(.ref a1)])) rfl (by rw [hml]; rfl) (Steps.refl _) (argsL := []) (rest := []) (lenOf pd_6 rfl) rfl (by show 2 * 0 + _ ≤ _; exact Nat.le_of_eq rfl) (hb hby d9_135) (fun _ _ => ⟨rfl, e891, (by decide : 0 + 0 ≤ _), (by decide : 0 + 0 ≤ _)⟩)
      dsimp only [Pt.U, Pt.locs, Pt.cells, Pt.slots] at X912 l912 y912 z912 st912 hQ912
      subst l912 y912 z912
      obtain ⟨rfl, N912q, e912⟩ := hQ912
      have N912 := Fr.app N891 N912q
      refine Goes.of (fun t k => st912.trans k) ?_
      show Goes p e below (T912.setTop (mkF m 138 #[.val (.ref a1), .val (.ref a2), .val (.ref a3), .val (.ref a4), .val (.int p5), .val (.int (0 : Int32)), .unset, .unset, .unset] [(.int (0 : Int32))])) _
      refine Goes.of (fun t k => XS.aloadN X912.here hx rfl (hb hby d9_138) rfl rfl k) ?_
      show Goes p e below (T912.setTop (mkF m 139 #[.val (.ref a1), .val (.ref a2), .val (.ref a3), .val (.ref a4), .val (.int p5), .val (.int (0 : Int32)), .unset, .unset, .unset] [(.ref a4), (.int (0 : Int32))])) _
      refine Goes.of (fun t k => XS.iconst X912.here hx rfl (hb hby d9_139) k) ?_
      have Vc913 := V891
      obtain ⟨clc913, Arc913, qc913, Sc913, Nc913, Hc913, Gc913⟩ := Vc913
      have hin914 : ¬ ((0 : Int32) < 0 ∨ clc913.slots.size ≤ ((0 : Int32)).toNatClampNeg) := inb_of Sc913 ⟨by decide, by decide⟩
      have hat915 : clc913.slots[((0 : Int32)).toNatClampNeg]? = some (.int (1 : Int32)) := Hc913.at hin914 rfl
      refine Goes.of (fun t k => X912.iaload hx (j := (0 : Int32)) (v := (.int (1 : Int32))) (by rw [e912]; exact Arc913.1) (State.isArrayOf_alike hZ.alike Arc913.2.1) Arc913.2.2 hin914 hat915 (g := (mkF m 140 #[.val (.ref a1), .val (.ref a2), .val (.ref a3), .val (.ref a4), .val (.int p5), .val (.int (0 : Int32)), .unset, .unset, .unset] [(.int (0 : Int32)), (.ref a4), (.int (0 : Int32))])) rfl rfl (hb hby d9_140) _ k) ?_
      show Goes p e below (T912.setTop (mkF m 141 #[.val (.ref a1), .val (.ref a2), .val (.ref a3), .val (.ref a4), .val (.int p5), .val (.int (0 : Int32)), .unset, .unset, .unset] [(.int (1 : Int32)), (.int (0 : Int32))])) _
      refine Goes.of (fun t k => XS.ifYes X912.here hx rfl (pc0 := 141) (pc' := 148) rfl (hb hby d9_141) rfl ((if0 _ _).trans (feq (by decide)).2) (by decide) (by decide) k) ?_
      show Goes p e below (T912.setTop (mkF m 148 #[.val (.ref a1), .val (.ref a2), .val (.ref a3), .val (.ref a4), .val (.int p5), .val (.int (0 : Int32)), .unset, .unset, .unset] [(.int (0 : Int32))])) _
      refine Goes.of (fun t k => XS.iconst X912.here hx rfl (hb hby d9_148) k) ?_
      show Goes p e below (T912.setTop (mkF m 149 #[.val (.ref a1), .val (.ref a2), .val (.ref a3), .val (.ref a4), .val (.int p5), .val (.int (0 : Int32)), .unset, .unset, .unset] [(.int (0 : Int32)), (.int (0 : Int32))])) _
      refine Goes.of (fun t k => XS.icmpNo X912.here hx rfl (hb hby d9_149) rfl (teq (by decide)).2 k) ?_
      show Goes p e below (T912.setTop (mkF m 152 #[.val (.ref a1), .val (.ref a2), .val (.ref a3), .val (.ref a4), .val (.int p5), .val (.int (0 : Int32)), .unset, .unset, .unset] [])) _
      refine Goes.of (fun t k => XS.iconst X912.here hx rfl (hb hby d9_152) k) ?_
      show Goes p e below (T912.setTop (mkF m 153 #[.val (.ref a1), .val (.ref a2), .val (.ref a3), .val (.ref a4), .val (.int p5), .val (.int (0 : Int32)), .unset, .unset, .unset] [(.int (1 : Int32))])) _
      refine Goes.of (fun t k => XS.goto X912.here hx rfl (pc0 := 153) (pc' := 157) rfl (hb hby d9_153) (by decide) (by decide) k) ?_
      show Goes p e below (T912.setTop (mkF m 157 #[.val (.ref a1), .val (.ref a2), .val (.ref a3), .val (.ref a4), .val (.int p5), .val (.int (0 : Int32)), .unset, .unset, .unset] [(.int (1 : Int32))])) _
      have eh : T912.heap = h891 := e912
      exact Goes.retN (t := .boolean) X912 hx Bd.returns (by simp) hlocks (hb hby d9_157) (⟨rfl, N912, by rw [eh]; exact K892, Or.inr (Or.inl ⟨by rw [eh]; exact f894, by rw [eh]; exact f903, by rw [eh]; exact f904, by rw [eh]; exact f905, by rw [eh]; exact f906, by rw [eh]; exact f907, by rw [eh]; exact f908, by rw [eh]; exact f909, by rw [eh]; exact f895, by rw [eh]; exact f910, by rw [eh]; exact f896, by rw [eh]; exact f911, by rw [eh]; exact f897, by rw [eh]; exact f898, by rw [eh]; exact f899, by rw [eh]; exact V891⟩)⟩) (by decide) (by decide)
    · refine Goes.of (fun t k => XS.ifNo X0.here hx rfl (hb hby d9_10) rfl ((if0 _ _).trans (feq hc10_835).1) k) ?_
      show Goes p e below (s₁.setTop (mkF m 13 #[.val (.ref a1), .val (.ref a2), .val (.ref a3), .val (.ref a4), .val (.int p5), .val (.int (0 : Int32)), .unset, .unset, .unset] [])) _
      refine Goes.of (fun t k => XS.aloadN X0.here hx rfl (hb hby d9_13) rfl rfl k) ?_
      show Goes p e below (s₁.setTop (mkF m 14 #[.val (.ref a1), .val (.ref a2), .val (.ref a3), .val (.ref a4), .val (.int p5), .val (.int (0 : Int32)), .unset, .unset, .unset] [(.ref a4)])) _
      refine Goes.of (fun t k => XS.iconst X0.here hx rfl (hb hby d9_14) k) ?_
      have Vc916 := VC
      obtain ⟨clc916, Arc916, qc916, Sc916, Nc916, Hc916, Gc916⟩ := Vc916
      have hin917 : ¬ ((0 : Int32) < 0 ∨ clc916.slots.size ≤ ((0 : Int32)).toNatClampNeg) := inb_of Sc916 ⟨by decide, by decide⟩
      have hat918 : clc916.slots[((0 : Int32)).toNatClampNeg]? = some (.int (0 : Int32)) := Hc916.at hin917 rfl
      refine Goes.of (fun t k => X0.iaload hx (j := (0 : Int32)) (v := (.int (0 : Int32))) (by rw [e0]; exact Arc916.1) (State.isArrayOf_alike hZ.alike Arc916.2.1) Arc916.2.2 hin917 hat918 (g := (mkF m 15 #[.val (.ref a1), .val (.ref a2), .val (.ref a3), .val (.ref a4), .val (.int p5), .val (.int (0 : Int32)), .unset, .unset, .unset] [(.int (0 : Int32)), (.ref a4)])) rfl rfl (hb hby d9_15) _ k) ?_
      show Goes p e below (s₁.setTop (mkF m 16 #[.val (.ref a1), .val (.ref a2), .val (.ref a3), .val (.ref a4), .val (.int p5), .val (.int (0 : Int32)), .unset, .unset, .unset] [(.int (0 : Int32))])) _
      refine Goes.of (fun t k => XS.iconst X0.here hx rfl (hb hby d9_16) k) ?_
      show Goes p e below (s₁.setTop (mkF m 17 #[.val (.ref a1), .val (.ref a2), .val (.ref a3), .val (.ref a4), .val (.int p5), .val (.int (0 : Int32)), .unset, .unset, .unset] [(.int (1 : Int32)), (.int (0 : Int32))])) _
      refine Goes.of (fun t k => XS.icmpYes X0.here hx rfl (pc0 := 17) (pc' := 82) rfl (hb hby d9_17) rfl (feq (by decide)).2 (by decide) (by decide) k) ?_
      show Goes p e below (s₁.setTop (mkF m 82 #[.val (.ref a1), .val (.ref a2), .val (.ref a3), .val (.ref a4), .val (.int p5), .val (.int (0 : Int32)), .unset, .unset, .unset] [])) _
      refine Goes.of (fun t k => XS.aloadN X0.here hx rfl (hb hby d9_82) rfl rfl k) ?_
      show Goes p e below (s₁.setTop (mkF m 83 #[.val (.ref a1), .val (.ref a2), .val (.ref a3), .val (.ref a4), .val (.int p5), .val (.int (0 : Int32)), .unset, .unset, .unset] [(.ref a3)])) _
      refine Goes.of (fun t k => XS.iload X0.here hx rfl (hb hby d9_83) rfl k) ?_
      have Vc919 := VO
      obtain ⟨clc919, Arc919, qc919, Sc919, Nc919, Hc919, Gc919⟩ := Vc919
      have hin920 : ¬ ((0 : Int32) < 0 ∨ clc919.slots.size ≤ ((0 : Int32)).toNatClampNeg) := inb_of Sc919 ⟨by decide, by decide⟩
      have hat921 : clc919.slots[((0 : Int32)).toNatClampNeg]? = some (.int (0 : Int32)) := Hc919.at hin920 rfl
      refine Goes.of (fun t k => X0.baloadBooleans hx (j := (0 : Int32)) (v := (.int (0 : Int32))) (by rw [e0]; exact Arc919.1) (State.isArrayOf_alike hZ.alike Arc919.2.1) Arc919.2.2 hin920 hat921 (g := (mkF m 85 #[.val (.ref a1), .val (.ref a2), .val (.ref a3), .val (.ref a4), .val (.int p5), .val (.int (0 : Int32)), .unset, .unset, .unset] [(.int (0 : Int32)), (.ref a3)])) rfl rfl (hb hby d9_85) _ k) ?_
      show Goes p e below (s₁.setTop (mkF m 86 #[.val (.ref a1), .val (.ref a2), .val (.ref a3), .val (.ref a4), .val (.int p5), .val (.int (0 : Int32)), .unset, .unset, .unset] [(.int (0 : Int32))])) _
      refine Goes.of (fun t k => XS.ifYes X0.here hx rfl (pc0 := 86) (pc' := 113) rfl (hb hby d9_86) rfl ((if0 _ _).trans (teq (by decide)).1) (by decide) (by decide) k) ?_
      show Goes p e below (s₁.setTop (mkF m 113 #[.val (.ref a1), .val (.ref a2), .val (.ref a3), .val (.ref a4), .val (.int p5), .val (.int (0 : Int32)), .unset, .unset, .unset] [])) _
      refine Goes.of (fun t k => XS.aloadN X0.here hx rfl (hb hby d9_113) rfl rfl k) ?_
      show Goes p e below (s₁.setTop (mkF m 114 #[.val (.ref a1), .val (.ref a2), .val (.ref a3), .val (.ref a4), .val (.int p5), .val (.int (0 : Int32)), .unset, .unset, .unset] [(.ref a1)])) _
      refine Goes.of (fun t k => XS.aloadN X0.here hx rfl (hb hby d9_114) rfl rfl k) ?_
      show Goes p e below (s₁.setTop (mkF m 115 #[.val (.ref a1), .val (.ref a2), .val (.ref a3), .val (.ref a4), .val (.int p5), .val (.int (0 : Int32)), .unset, .unset, .unset] [(.ref a2), (.ref a1)])) _
      refine Goes.of (fun t k => XS.iload X0.here hx rfl (hb hby d9_115) rfl k) ?_
      have Vc922 := VT
      obtain ⟨clc922, Arc922, qc922, Sc922, Nc922, Hc922, Gc922⟩ := Vc922
      have hin923 : ¬ ((0 : Int32) < 0 ∨ clc922.slots.size ≤ ((0 : Int32)).toNatClampNeg) := inb_of Sc922 ⟨by decide, by decide⟩
      have hat924 : clc922.slots[((0 : Int32)).toNatClampNeg]? = some (.ref x0) := Hc922.at hin923 rfl
      refine Goes.of (fun t k => X0.aaload hx (j := (0 : Int32)) (v := (.ref x0)) (by rw [e0]; exact Arc922.1) (State.isArrayOf_alike hZ.alike Arc922.2.1) rfl Arc922.2.2 hin923 hat924 (g := (mkF m 117 #[.val (.ref a1), .val (.ref a2), .val (.ref a3), .val (.ref a4), .val (.int p5), .val (.int (0 : Int32)), .unset, .unset, .unset] [(.int (0 : Int32)), (.ref a2), (.ref a1)])) rfl rfl (hb hby d9_117) _ k) ?_
      obtain ⟨cq925, kq925, q925a, q925b, q925c⟩ := isOf hZ e0 E
      obtain ⟨_, _, ⟨T925, L925, k925, n925⟩, -, X925, ⟨Lc925, hQ925, l925, y925, z925⟩, st925⟩ := X0.virtualBack hx (y := (⟨"com/example/ripplematch/ripplematch/core/Agenda", "add", "(Lcom/example/ripplematch/ripplematch/core/Activation;)V"⟩ : MethodName)) (z := (⟨"com/example/ripplematch/ripplematch/core/Agenda", "add", "(Lcom/example/ripplematch/ripplematch/core/Activation;)V"⟩ : MethodName)) hown (mvT hZ (wd hw 75 rfl)) (mvT hZ (wd hw 76 rfl)) (notFace_of_selects (args := #[]) (mvT hZ (wd hw 78 rfl))) (mvT hZ (wd hw 78 rfl)) (mvT hZ (wd hw 77 rfl)) (by decide) (backOf (W := 0) (rm10 l Z a0 hw [] a1 x0 HA FA _ _ h0 n0 Z0 O0 SA E F_heap F_heapSize F_gone F_disordered F_fresh F_freshSize F_size VH VF E_x0 P_x0 g_a1 g_HA g_FA g_x0 n_a1_HA n_a1_FA n_a1_x0 n_HA_FA n_HA_x0 n_FA_x0 OH OF) hZ (wd hw 79 rfl) (wd hw 2 rfl) (by decide) (by decide)) q925a q925c (g := (mkF m 118 #[.val (.ref a1), .val (.ref a2), .val (.ref a3), .val (.ref a4), .val (.int p5), .val (.int (0 : Int32)), .unset, .unset, .unset] [(.ref x0), (.ref a1)])) rfl (by rw [hml]; rfl) (Steps.refl _) (argsL := [(.ref x0)]) (rest := []) (lenOf pd_5 rfl) rfl (by show 2 * 0 + _ ≤ _; exact Nat.le_of_eq rfl) (hb hby d9_118) (fun _ _ => ⟨rfl, e0, (by decide : 0 + 0 ≤ _), (by decide : 0 + 0 ≤ _)⟩)
      dsimp only [Pt.U, Pt.locs, Pt.cells, Pt.slots] at X925 l925 y925 z925 st925 hQ925
      subst l925 y925 z925
      obtain ⟨rfl, N925q, K925, E_925, F_heap_925, F_heapSize_925, F_gone_925, F_disordered_925, F_fresh_925, F_freshSize_925, F_size_925, VH_925, VF_925, E_x0_925, P_x0_925⟩ := hQ925
      have N925 := Fr.app N0 N925q
      have K926 : Keep h0 T925.heap [a1, a3, a4, HA, FA, x0, x1] := K0.trans K925 (allS (Or.inl (List.mem_of_getElem? (i := 0) rfl)) (allS (Or.inl (List.mem_of_getElem? (i := 4) rfl)) (allS (Or.inl (List.mem_of_getElem? (i := 5) rfl)) all0)))
      have z927 : n0 ≤ T925.heap.size := Nat.le_trans Z0 K925.1
      have f928 := E.keep K925
      have f936 := VH.keep K925 (ninS (Ne.symm n_a1_HA) (ninS n_HA_FA (ninS n_HA_x0 nin0)))
      have f938 := E_x0.keep K925
      have f940 := E_x1.keep K925
      have f941 := P_x1.keep K925 (ninS (Ne.symm n_a1_x1) (ninS (Ne.symm n_FA_x1) (ninS (Ne.symm n_x0_x1) nin0)))
      have f942 := VO.keep K925 (ninS (Ne.symm n_a1_a3) (ninS n_a3_FA (ninS n_a3_x0 nin0)))
      have f943 := VC.keep K925 (ninS (Ne.symm n_a1_a4) (ninS n_a4_FA (ninS n_a4_x0 nin0)))
      have f944 := O0.keep K925 (allS g_a1 (allS g_FA (allS g_x0 all0)))
      have f945 := VT.keep K925 (ninS (Ne.symm n_a1_a2) (ninS n_a2_FA (ninS n_a2_x0 nin0)))
      refine Goes.of (fun t k => st925.trans k) ?_
      show Goes p e below (T925.setTop (mkF m 121 #[.val (.ref a1), .val (.ref a2), .val (.ref a3), .val (.ref a4), .val (.int p5), .val (.int (0 : Int32)), .unset, .unset, .unset] [])) _
      refine Goes.of (fun t k => XS.aloadN X925.here hx rfl (hb hby d9_121) rfl rfl k) ?_
      show Goes p e below (T925.setTop (mkF m 122 #[.val (.ref a1), .val (.ref a2), .val (.ref a3), .val (.ref a4), .val (.int p5), .val (.int (0 : Int32)), .unset, .unset, .unset] [(.ref a3)])) _
      refine Goes.of (fun t k => XS.iload X925.here hx rfl (hb hby d9_122) rfl k) ?_
      show Goes p e below (T925.setTop (mkF m 124 #[.val (.ref a1), .val (.ref a2), .val (.ref a3), .val (.ref a4), .val (.int p5), .val (.int (0 : Int32)), .unset, .unset, .unset] [(.int (0 : Int32)), (.ref a3)])) _
      refine Goes.of (fun t k => XS.iconst X925.here hx rfl (hb hby d9_124) k) ?_
      have Vc946 := f942
      obtain ⟨clc946, Arc946, qc946, Sc946, Nc946, Hc946, Gc946⟩ := Vc946
      have hin947 : ¬ ((0 : Int32) < 0 ∨ clc946.slots.size ≤ ((0 : Int32)).toNatClampNeg) := inb_of Sc946 ⟨by decide, by decide⟩
      obtain ⟨T948, h948, X948, e948, W948, st948⟩ := stZ X925 hx hZ rfl Arc946 (j := (0 : Int32)) hin947 (g := (mkF m 125 #[.val (.ref a1), .val (.ref a2), .val (.ref a3), .val (.ref a4), .val (.int p5), .val (.int (0 : Int32)), .unset, .unset, .unset] [(.int (1 : Int32)), (.int (0 : Int32)), (.ref a3)])) rfl rfl (hb hby d9_125)
      have V948 : Arv Z h948 a3 kO .boolean (2 : Int32) [(.int (nar .boolean (1 : Int32))), (.int (0 : Int32))] (.int (0 : Int32)) := Arv.set Arc946 qc946 Sc946 Nc946 Hc946 Gc946 (fits_nar_bool _) W948 0 rfl (Nat.le_of_ble_eq_true rfl)
      have K949 : Keep h0 h948 [a1, a3, a4, HA, FA, x0, x1] := K926.wr W948 (Or.inl (List.mem_of_getElem? (i := 1) rfl))
      have z950 : n0 ≤ h948.size := Nat.le_trans z927 (Keep.of_wr W948).1
      have f951 := E_925.wr W948
      have f952 := VH_925.other W948 (Ne.symm n_a3_HA)
      have f953 := E_x0_925.wr W948
      have f954 := f940.wr W948
      have f955 := f941.other W948 (Or.inl (Ne.symm n_a3_x1))
      have f957 := f943.other W948 (Ne.symm n_a3_a4)
      have f958 := f944.wr W948 g_a3
      have f959 := f945.other W948 n_a2_a3
      have f960 := F_heap_925.other W948 (Or.inl n_a1_a3)
      have f961 := F_heapSize_925.other W948 (Or.inl n_a1_a3)
      have f962 := F_gone_925.other W948 (Or.inl n_a1_a3)
      have f963 := F_disordered_925.other W948 (Or.inl n_a1_a3)
      have f964 := F_fresh_925.other W948 (Or.inl n_a1_a3)
      have f965 := F_freshSize_925.other W948 (Or.inl n_a1_a3)
      have f966 := F_size_925.other W948 (Or.inl n_a1_a3)
      have f967 := VF_925.other W948 (Ne.symm n_a3_FA)
      have f968 := P_x0_925.other W948 (Or.inl (Ne.symm n_a3_x0))
      have N948 := Fr.snoc X948 N925 g_a3
      refine Goes.of st948 ?_
      show Goes p e below (T948.setTop (mkF m 126 #[.val (.ref a1), .val (.ref a2), .val (.ref a3), .val (.ref a4), .val (.int p5), .val (.int (0 : Int32)), .unset, .unset, .unset] [])) _
      refine Goes.of (fun t k => XS.aloadN X948.here hx rfl (hb hby d9_126) rfl rfl k) ?_
      show Goes p e below (T948.setTop (mkF m 127 #[.val (.ref a1), .val (.ref a2), .val (.ref a3), .val (.ref a4), .val (.int p5), .val (.int (0 : Int32)), .unset, .unset, .unset] [(.ref a4)])) _
      refine Goes.of (fun t k => XS.iconst X948.here hx rfl (hb hby d9_127) k) ?_
      show Goes p e below (T948.setTop (mkF m 128 #[.val (.ref a1), .val (.ref a2), .val (.ref a3), .val (.ref a4), .val (.int p5), .val (.int (0 : Int32)), .unset, .unset, .unset] [(.int (0 : Int32)), (.ref a4)])) _
      refine Goes.of (fun t k => XS.aloadN X948.here hx rfl (hb hby d9_128) rfl rfl k) ?_
      show Goes p e below (T948.setTop (mkF m 129 #[.val (.ref a1), .val (.ref a2), .val (.ref a3), .val (.ref a4), .val (.int p5), .val (.int (0 : Int32)), .unset, .unset, .unset] [(.ref a4), (.int (0 : Int32)), (.ref a4)])) _
      refine Goes.of (fun t k => XS.iconst X948.here hx rfl (hb hby d9_129) k) ?_
      have Vc969 := f957
      obtain ⟨clc969, Arc969, qc969, Sc969, Nc969, Hc969, Gc969⟩ := Vc969
      have hin970 : ¬ ((0 : Int32) < 0 ∨ clc969.slots.size ≤ ((0 : Int32)).toNatClampNeg) := inb_of Sc969 ⟨by decide, by decide⟩
      have hat971 : clc969.slots[((0 : Int32)).toNatClampNeg]? = some (.int (0 : Int32)) := Hc969.at hin970 rfl
      refine Goes.of (fun t k => X948.iaload hx (j := (0 : Int32)) (v := (.int (0 : Int32))) (by rw [e948]; exact Arc969.1) (State.isArrayOf_alike hZ.alike Arc969.2.1) Arc969.2.2 hin970 hat971 (g := (mkF m 130 #[.val (.ref a1), .val (.ref a2), .val (.ref a3), .val (.ref a4), .val (.int p5), .val (.int (0 : Int32)), .unset, .unset, .unset] [(.int (0 : Int32)), (.ref a4), (.int (0 : Int32)), (.ref a4)])) rfl rfl (hb hby d9_130) _ k) ?_
      show Goes p e below (T948.setTop (mkF m 131 #[.val (.ref a1), .val (.ref a2), .val (.ref a3), .val (.ref a4), .val (.int p5), .val (.int (0 : Int32)), .unset, .unset, .unset] [(.int (0 : Int32)), (.int (0 : Int32)), (.ref a4)])) _
      refine Goes.of (fun t k => XS.iconst X948.here hx rfl (hb hby d9_131) k) ?_
      show Goes p e below (T948.setTop (mkF m 132 #[.val (.ref a1), .val (.ref a2), .val (.ref a3), .val (.ref a4), .val (.int p5), .val (.int (0 : Int32)), .unset, .unset, .unset] [(.int (1 : Int32)), (.int (0 : Int32)), (.int (0 : Int32)), (.ref a4)])) _
      refine Goes.of (fun t k => XS.iadd X948.here hx rfl (hb hby d9_132) rfl k) ?_
      have Vc972 := f957
      obtain ⟨clc972, Arc972, qc972, Sc972, Nc972, Hc972, Gc972⟩ := Vc972
      have hin973 : ¬ ((0 : Int32) < 0 ∨ clc972.slots.size ≤ ((0 : Int32)).toNatClampNeg) := inb_of Sc972 ⟨by decide, by decide⟩
      obtain ⟨T974, h974, X974, e974, W974, st974⟩ := stI X948 hx hZ e948 Arc972 (j := (0 : Int32)) hin973 (g := (mkF m 133 #[.val (.ref a1), .val (.ref a2), .val (.ref a3), .val (.ref a4), .val (.int p5), .val (.int (0 : Int32)), .unset, .unset, .unset] [(.int (1 : Int32)), (.int (0 : Int32)), (.ref a4)])) rfl rfl (hb hby d9_133)
      have V974 : Arv Z h974 a4 kC .int (1 : Int32) [(.int (1 : Int32))] (.int (0 : Int32)) := Arv.set Arc972 qc972 Sc972 Nc972 Hc972 Gc972 rfl W974 0 rfl (Nat.le_of_ble_eq_true rfl)
      have K975 : Keep h0 h974 [a1, a3, a4, HA, FA, x0, x1] := K949.wr W974 (Or.inl (List.mem_of_getElem? (i := 2) rfl))
      have z976 : n0 ≤ h974.size := Nat.le_trans z950 (Keep.of_wr W974).1
      have f977 := f951.wr W974
      have f978 := f952.other W974 (Ne.symm n_a4_HA)
      have f979 := f953.wr W974
      have f980 := f954.wr W974
      have f981 := f955.other W974 (Or.inl (Ne.symm n_a4_x1))
      have f982 := V948.other W974 n_a3_a4
      have f984 := f958.wr W974 g_a4
      have f985 := f959.other W974 n_a2_a4
      have f986 := f960.other W974 (Or.inl n_a1_a4)
      have f987 := f961.other W974 (Or.inl n_a1_a4)
      have f988 := f962.other W974 (Or.inl n_a1_a4)
      have f989 := f963.other W974 (Or.inl n_a1_a4)
      have f990 := f964.other W974 (Or.inl n_a1_a4)
      have f991 := f965.other W974 (Or.inl n_a1_a4)
      have f992 := f966.other W974 (Or.inl n_a1_a4)
      have f993 := f967.other W974 (Ne.symm n_a4_FA)
      have f994 := f968.other W974 (Or.inl (Ne.symm n_a4_x0))
      have N974 := Fr.snoc X974 N948 g_a4
      refine Goes.of st974 ?_
      show Goes p e below (T974.setTop (mkF m 134 #[.val (.ref a1), .val (.ref a2), .val (.ref a3), .val (.ref a4), .val (.int p5), .val (.int (0 : Int32)), .unset, .unset, .unset] [])) _
      refine Goes.of (fun t k => XS.aloadN X974.here hx rfl (hb hby d9_134) rfl rfl k) ?_
      obtain ⟨cq995, kq995, q995a, q995b, q995c⟩ := isOf hZ e974 f977
      obtain ⟨_, _, ⟨T995, L995, k995, n995⟩, -, X995, ⟨Lc995, hQ995, l995, y995, z995⟩, st995⟩ := X974.virtualBack hx (y := (⟨"com/example/ripplematch/ripplematch/core/Agenda", "isEmpty", "()Z"⟩ : MethodName)) (z := (⟨"com/example/ripplematch/ripplematch/core/Agenda", "isEmpty", "()Z"⟩ : MethodName)) hown (mvT hZ (wd hw 64 rfl)) (mvT hZ (wd hw 65 rfl)) (notFace_of_selects (args := #[]) (mvT hZ (wd hw 67 rfl))) (mvT hZ (wd hw 67 rfl)) (mvT hZ (wd hw 66 rfl)) (by decide) (backOf (W := 0) (rm8 l Z a0 hw [] a1 (1 : Int32) h974 n0 z976 f992) hZ (wd hw 68 rfl) (wd hw 2 rfl) (by decide) (by decide)) q995a q995c (g := (mkF m 135 #[.val (.ref a1), .val (.ref a2), .val (.ref a3), .val (.ref a4), .val (.int p5), .val (.int (0 : Int32)), .unset, .unset, .unset] [(.ref a1)])) rfl (by rw [hml]; rfl) (Steps.refl _) (argsL := []) (rest := []) (lenOf pd_6 rfl) rfl (by show 2 * 0 + _ ≤ _; exact Nat.le_of_eq rfl) (hb hby d9_135) (fun _ _ => ⟨rfl, e974, (by decide : 0 + 0 ≤ _), (by decide : 0 + 0 ≤ _)⟩)
      dsimp only [Pt.U, Pt.locs, Pt.cells, Pt.slots] at X995 l995 y995 z995 st995 hQ995
      subst l995 y995 z995
      obtain ⟨rfl, N995q, e995⟩ := hQ995
      have N995 := Fr.app N974 N995q
      refine Goes.of (fun t k => st995.trans k) ?_
      show Goes p e below (T995.setTop (mkF m 138 #[.val (.ref a1), .val (.ref a2), .val (.ref a3), .val (.ref a4), .val (.int p5), .val (.int (0 : Int32)), .unset, .unset, .unset] [(.int (0 : Int32))])) _
      refine Goes.of (fun t k => XS.aloadN X995.here hx rfl (hb hby d9_138) rfl rfl k) ?_
      show Goes p e below (T995.setTop (mkF m 139 #[.val (.ref a1), .val (.ref a2), .val (.ref a3), .val (.ref a4), .val (.int p5), .val (.int (0 : Int32)), .unset, .unset, .unset] [(.ref a4), (.int (0 : Int32))])) _
      refine Goes.of (fun t k => XS.iconst X995.here hx rfl (hb hby d9_139) k) ?_
      have Vc996 := V974
      obtain ⟨clc996, Arc996, qc996, Sc996, Nc996, Hc996, Gc996⟩ := Vc996
      have hin997 : ¬ ((0 : Int32) < 0 ∨ clc996.slots.size ≤ ((0 : Int32)).toNatClampNeg) := inb_of Sc996 ⟨by decide, by decide⟩
      have hat998 : clc996.slots[((0 : Int32)).toNatClampNeg]? = some (.int (1 : Int32)) := Hc996.at hin997 rfl
      refine Goes.of (fun t k => X995.iaload hx (j := (0 : Int32)) (v := (.int (1 : Int32))) (by rw [e995]; exact Arc996.1) (State.isArrayOf_alike hZ.alike Arc996.2.1) Arc996.2.2 hin997 hat998 (g := (mkF m 140 #[.val (.ref a1), .val (.ref a2), .val (.ref a3), .val (.ref a4), .val (.int p5), .val (.int (0 : Int32)), .unset, .unset, .unset] [(.int (0 : Int32)), (.ref a4), (.int (0 : Int32))])) rfl rfl (hb hby d9_140) _ k) ?_
      show Goes p e below (T995.setTop (mkF m 141 #[.val (.ref a1), .val (.ref a2), .val (.ref a3), .val (.ref a4), .val (.int p5), .val (.int (0 : Int32)), .unset, .unset, .unset] [(.int (1 : Int32)), (.int (0 : Int32))])) _
      refine Goes.of (fun t k => XS.ifYes X995.here hx rfl (pc0 := 141) (pc' := 148) rfl (hb hby d9_141) rfl ((if0 _ _).trans (feq (by decide)).2) (by decide) (by decide) k) ?_
      show Goes p e below (T995.setTop (mkF m 148 #[.val (.ref a1), .val (.ref a2), .val (.ref a3), .val (.ref a4), .val (.int p5), .val (.int (0 : Int32)), .unset, .unset, .unset] [(.int (0 : Int32))])) _
      refine Goes.of (fun t k => XS.iconst X995.here hx rfl (hb hby d9_148) k) ?_
      show Goes p e below (T995.setTop (mkF m 149 #[.val (.ref a1), .val (.ref a2), .val (.ref a3), .val (.ref a4), .val (.int p5), .val (.int (0 : Int32)), .unset, .unset, .unset] [(.int (0 : Int32)), (.int (0 : Int32))])) _
      refine Goes.of (fun t k => XS.icmpNo X995.here hx rfl (hb hby d9_149) rfl (teq (by decide)).2 k) ?_
      show Goes p e below (T995.setTop (mkF m 152 #[.val (.ref a1), .val (.ref a2), .val (.ref a3), .val (.ref a4), .val (.int p5), .val (.int (0 : Int32)), .unset, .unset, .unset] [])) _
      refine Goes.of (fun t k => XS.iconst X995.here hx rfl (hb hby d9_152) k) ?_
      show Goes p e below (T995.setTop (mkF m 153 #[.val (.ref a1), .val (.ref a2), .val (.ref a3), .val (.ref a4), .val (.int p5), .val (.int (0 : Int32)), .unset, .unset, .unset] [(.int (1 : Int32))])) _
      refine Goes.of (fun t k => XS.goto X995.here hx rfl (pc0 := 153) (pc' := 157) rfl (hb hby d9_153) (by decide) (by decide) k) ?_
      show Goes p e below (T995.setTop (mkF m 157 #[.val (.ref a1), .val (.ref a2), .val (.ref a3), .val (.ref a4), .val (.int p5), .val (.int (0 : Int32)), .unset, .unset, .unset] [(.int (1 : Int32))])) _
      have eh : T995.heap = h974 := e995
      exact Goes.retN (t := .boolean) X995 hx Bd.returns (by simp) hlocks (hb hby d9_157) (⟨rfl, N995, by rw [eh]; exact K975, Or.inr (Or.inl ⟨by rw [eh]; exact f977, by rw [eh]; exact f986, by rw [eh]; exact f987, by rw [eh]; exact f988, by rw [eh]; exact f989, by rw [eh]; exact f990, by rw [eh]; exact f991, by rw [eh]; exact f992, by rw [eh]; exact f978, by rw [eh]; exact f993, by rw [eh]; exact f979, by rw [eh]; exact f994, by rw [eh]; exact f980, by rw [eh]; exact f981, by rw [eh]; exact f982, by rw [eh]; exact V974⟩)⟩) (by decide) (by decide)
  · rw [hi]
    show Goes p e below (s₁.setTop (mkF m 6 #[.val (.ref a1), .val (.ref a2), .val (.ref a3), .val (.ref a4), .val (.int p5), .val (.int (1 : Int32)), .unset, .unset, .unset] [])) _
    refine Goes.of (fun t k => XS.iload X0.here hx rfl (hb hby d9_6) rfl k) ?_
    show Goes p e below (s₁.setTop (mkF m 8 #[.val (.ref a1), .val (.ref a2), .val (.ref a3), .val (.ref a4), .val (.int p5), .val (.int (1 : Int32)), .unset, .unset, .unset] [(.int p5)])) _
    refine Goes.of (fun t k => XS.iconst X0.here hx rfl (hb hby d9_8) k) ?_
    show Goes p e below (s₁.setTop (mkF m 9 #[.val (.ref a1), .val (.ref a2), .val (.ref a3), .val (.ref a4), .val (.int p5), .val (.int (1 : Int32)), .unset, .unset, .unset] [(.int (2 : Int32)), (.int p5)])) _
    refine Goes.of (fun t k => XS.iand X0.here hx rfl (hb hby d9_9) rfl k) ?_
    show Goes p e below (s₁.setTop (mkF m 10 #[.val (.ref a1), .val (.ref a2), .val (.ref a3), .val (.ref a4), .val (.int p5), .val (.int (1 : Int32)), .unset, .unset, .unset] [(.int (p5 &&& (2 : Int32)))])) _
    by_cases hc10_999 : (p5 &&& (2 : Int32)) = (0 : Int32)
    · refine Goes.of (fun t k => XS.ifYes X0.here hx rfl (pc0 := 10) (pc' := 82) rfl (hb hby d9_10) rfl ((if0 _ _).trans (teq hc10_999).1) (by decide) (by decide) k) ?_
      show Goes p e below (s₁.setTop (mkF m 82 #[.val (.ref a1), .val (.ref a2), .val (.ref a3), .val (.ref a4), .val (.int p5), .val (.int (1 : Int32)), .unset, .unset, .unset] [])) _
      refine Goes.of (fun t k => XS.aloadN X0.here hx rfl (hb hby d9_82) rfl rfl k) ?_
      show Goes p e below (s₁.setTop (mkF m 83 #[.val (.ref a1), .val (.ref a2), .val (.ref a3), .val (.ref a4), .val (.int p5), .val (.int (1 : Int32)), .unset, .unset, .unset] [(.ref a3)])) _
      refine Goes.of (fun t k => XS.iload X0.here hx rfl (hb hby d9_83) rfl k) ?_
      have Vc1000 := VO
      obtain ⟨clc1000, Arc1000, qc1000, Sc1000, Nc1000, Hc1000, Gc1000⟩ := Vc1000
      have hin1001 : ¬ ((1 : Int32) < 0 ∨ clc1000.slots.size ≤ ((1 : Int32)).toNatClampNeg) := inb_of Sc1000 ⟨by decide, by decide⟩
      have hat1002 : clc1000.slots[((1 : Int32)).toNatClampNeg]? = some (.int (0 : Int32)) := Hc1000.at hin1001 rfl
      refine Goes.of (fun t k => X0.baloadBooleans hx (j := (1 : Int32)) (v := (.int (0 : Int32))) (by rw [e0]; exact Arc1000.1) (State.isArrayOf_alike hZ.alike Arc1000.2.1) Arc1000.2.2 hin1001 hat1002 (g := (mkF m 85 #[.val (.ref a1), .val (.ref a2), .val (.ref a3), .val (.ref a4), .val (.int p5), .val (.int (1 : Int32)), .unset, .unset, .unset] [(.int (1 : Int32)), (.ref a3)])) rfl rfl (hb hby d9_85) _ k) ?_
      show Goes p e below (s₁.setTop (mkF m 86 #[.val (.ref a1), .val (.ref a2), .val (.ref a3), .val (.ref a4), .val (.int p5), .val (.int (1 : Int32)), .unset, .unset, .unset] [(.int (0 : Int32))])) _
      refine Goes.of (fun t k => XS.ifYes X0.here hx rfl (pc0 := 86) (pc' := 113) rfl (hb hby d9_86) rfl ((if0 _ _).trans (teq (by decide)).1) (by decide) (by decide) k) ?_
      show Goes p e below (s₁.setTop (mkF m 113 #[.val (.ref a1), .val (.ref a2), .val (.ref a3), .val (.ref a4), .val (.int p5), .val (.int (1 : Int32)), .unset, .unset, .unset] [])) _
      refine Goes.of (fun t k => XS.aloadN X0.here hx rfl (hb hby d9_113) rfl rfl k) ?_
      show Goes p e below (s₁.setTop (mkF m 114 #[.val (.ref a1), .val (.ref a2), .val (.ref a3), .val (.ref a4), .val (.int p5), .val (.int (1 : Int32)), .unset, .unset, .unset] [(.ref a1)])) _
      refine Goes.of (fun t k => XS.aloadN X0.here hx rfl (hb hby d9_114) rfl rfl k) ?_
      show Goes p e below (s₁.setTop (mkF m 115 #[.val (.ref a1), .val (.ref a2), .val (.ref a3), .val (.ref a4), .val (.int p5), .val (.int (1 : Int32)), .unset, .unset, .unset] [(.ref a2), (.ref a1)])) _
      refine Goes.of (fun t k => XS.iload X0.here hx rfl (hb hby d9_115) rfl k) ?_
      have Vc1003 := VT
      obtain ⟨clc1003, Arc1003, qc1003, Sc1003, Nc1003, Hc1003, Gc1003⟩ := Vc1003
      have hin1004 : ¬ ((1 : Int32) < 0 ∨ clc1003.slots.size ≤ ((1 : Int32)).toNatClampNeg) := inb_of Sc1003 ⟨by decide, by decide⟩
      have hat1005 : clc1003.slots[((1 : Int32)).toNatClampNeg]? = some (.ref x1) := Hc1003.at hin1004 rfl
      refine Goes.of (fun t k => X0.aaload hx (j := (1 : Int32)) (v := (.ref x1)) (by rw [e0]; exact Arc1003.1) (State.isArrayOf_alike hZ.alike Arc1003.2.1) rfl Arc1003.2.2 hin1004 hat1005 (g := (mkF m 117 #[.val (.ref a1), .val (.ref a2), .val (.ref a3), .val (.ref a4), .val (.int p5), .val (.int (1 : Int32)), .unset, .unset, .unset] [(.int (1 : Int32)), (.ref a2), (.ref a1)])) rfl rfl (hb hby d9_117) _ k) ?_
      obtain ⟨cq1006, kq1006, q1006a, q1006b, q1006c⟩ := isOf hZ e0 E
      obtain ⟨_, _, ⟨T1006, L1006, k1006, n1006⟩, -, X1006, ⟨Lc1006, hQ1006, l1006, y1006, z1006⟩, st1006⟩ := X0.virtualBack hx (y := (⟨"com/example/ripplematch/ripplematch/core/Agenda", "add", "(Lcom/example/ripplematch/ripplematch/core/Activation;)V"⟩ : MethodName)) (z := (⟨"com/example/ripplematch/ripplematch/core/Agenda", "add", "(Lcom/example/ripplematch/ripplematch/core/Activation;)V"⟩ : MethodName)) hown (mvT hZ (wd hw 75 rfl)) (mvT hZ (wd hw 76 rfl)) (notFace_of_selects (args := #[]) (mvT hZ (wd hw 78 rfl))) (mvT hZ (wd hw 78 rfl)) (mvT hZ (wd hw 77 rfl)) (by decide) (backOf (W := 0) (rm10 l Z a0 hw [] a1 x1 HA FA _ _ h0 n0 Z0 O0 SA E F_heap F_heapSize F_gone F_disordered F_fresh F_freshSize F_size VH VF E_x1 P_x1 g_a1 g_HA g_FA g_x1 n_a1_HA n_a1_FA n_a1_x1 n_HA_FA n_HA_x1 n_FA_x1 OH OF) hZ (wd hw 79 rfl) (wd hw 2 rfl) (by decide) (by decide)) q1006a q1006c (g := (mkF m 118 #[.val (.ref a1), .val (.ref a2), .val (.ref a3), .val (.ref a4), .val (.int p5), .val (.int (1 : Int32)), .unset, .unset, .unset] [(.ref x1), (.ref a1)])) rfl (by rw [hml]; rfl) (Steps.refl _) (argsL := [(.ref x1)]) (rest := []) (lenOf pd_5 rfl) rfl (by show 2 * 0 + _ ≤ _; exact Nat.le_of_eq rfl) (hb hby d9_118) (fun _ _ => ⟨rfl, e0, (by decide : 0 + 0 ≤ _), (by decide : 0 + 0 ≤ _)⟩)
      dsimp only [Pt.U, Pt.locs, Pt.cells, Pt.slots] at X1006 l1006 y1006 z1006 st1006 hQ1006
      subst l1006 y1006 z1006
      obtain ⟨rfl, N1006q, K1006, E_1006, F_heap_1006, F_heapSize_1006, F_gone_1006, F_disordered_1006, F_fresh_1006, F_freshSize_1006, F_size_1006, VH_1006, VF_1006, E_x1_1006, P_x1_1006⟩ := hQ1006
      have N1006 := Fr.app N0 N1006q
      have K1007 : Keep h0 T1006.heap [a1, a3, a4, HA, FA, x0, x1] := K0.trans K1006 (allS (Or.inl (List.mem_of_getElem? (i := 0) rfl)) (allS (Or.inl (List.mem_of_getElem? (i := 4) rfl)) (allS (Or.inl (List.mem_of_getElem? (i := 6) rfl)) all0)))
      have z1008 : n0 ≤ T1006.heap.size := Nat.le_trans Z0 K1006.1
      have f1009 := E.keep K1006
      have f1017 := VH.keep K1006 (ninS (Ne.symm n_a1_HA) (ninS n_HA_FA (ninS n_HA_x1 nin0)))
      have f1019 := E_x0.keep K1006
      have f1020 := P_x0.keep K1006 (ninS (Ne.symm n_a1_x0) (ninS (Ne.symm n_FA_x0) (ninS n_x0_x1 nin0)))
      have f1021 := E_x1.keep K1006
      have f1023 := VO.keep K1006 (ninS (Ne.symm n_a1_a3) (ninS n_a3_FA (ninS n_a3_x1 nin0)))
      have f1024 := VC.keep K1006 (ninS (Ne.symm n_a1_a4) (ninS n_a4_FA (ninS n_a4_x1 nin0)))
      have f1025 := O0.keep K1006 (allS g_a1 (allS g_FA (allS g_x1 all0)))
      have f1026 := VT.keep K1006 (ninS (Ne.symm n_a1_a2) (ninS n_a2_FA (ninS n_a2_x1 nin0)))
      refine Goes.of (fun t k => st1006.trans k) ?_
      show Goes p e below (T1006.setTop (mkF m 121 #[.val (.ref a1), .val (.ref a2), .val (.ref a3), .val (.ref a4), .val (.int p5), .val (.int (1 : Int32)), .unset, .unset, .unset] [])) _
      refine Goes.of (fun t k => XS.aloadN X1006.here hx rfl (hb hby d9_121) rfl rfl k) ?_
      show Goes p e below (T1006.setTop (mkF m 122 #[.val (.ref a1), .val (.ref a2), .val (.ref a3), .val (.ref a4), .val (.int p5), .val (.int (1 : Int32)), .unset, .unset, .unset] [(.ref a3)])) _
      refine Goes.of (fun t k => XS.iload X1006.here hx rfl (hb hby d9_122) rfl k) ?_
      show Goes p e below (T1006.setTop (mkF m 124 #[.val (.ref a1), .val (.ref a2), .val (.ref a3), .val (.ref a4), .val (.int p5), .val (.int (1 : Int32)), .unset, .unset, .unset] [(.int (1 : Int32)), (.ref a3)])) _
      refine Goes.of (fun t k => XS.iconst X1006.here hx rfl (hb hby d9_124) k) ?_
      have Vc1027 := f1023
      obtain ⟨clc1027, Arc1027, qc1027, Sc1027, Nc1027, Hc1027, Gc1027⟩ := Vc1027
      have hin1028 : ¬ ((1 : Int32) < 0 ∨ clc1027.slots.size ≤ ((1 : Int32)).toNatClampNeg) := inb_of Sc1027 ⟨by decide, by decide⟩
      obtain ⟨T1029, h1029, X1029, e1029, W1029, st1029⟩ := stZ X1006 hx hZ rfl Arc1027 (j := (1 : Int32)) hin1028 (g := (mkF m 125 #[.val (.ref a1), .val (.ref a2), .val (.ref a3), .val (.ref a4), .val (.int p5), .val (.int (1 : Int32)), .unset, .unset, .unset] [(.int (1 : Int32)), (.int (1 : Int32)), (.ref a3)])) rfl rfl (hb hby d9_125)
      have V1029 : Arv Z h1029 a3 kO .boolean (2 : Int32) [(.int (0 : Int32)), (.int (nar .boolean (1 : Int32)))] (.int (0 : Int32)) := Arv.set Arc1027 qc1027 Sc1027 Nc1027 Hc1027 Gc1027 (fits_nar_bool _) W1029 1 rfl (Nat.le_of_ble_eq_true rfl)
      have K1030 : Keep h0 h1029 [a1, a3, a4, HA, FA, x0, x1] := K1007.wr W1029 (Or.inl (List.mem_of_getElem? (i := 1) rfl))
      have z1031 : n0 ≤ h1029.size := Nat.le_trans z1008 (Keep.of_wr W1029).1
      have f1032 := E_1006.wr W1029
      have f1033 := VH_1006.other W1029 (Ne.symm n_a3_HA)
      have f1034 := f1019.wr W1029
      have f1035 := f1020.other W1029 (Or.inl (Ne.symm n_a3_x0))
      have f1036 := E_x1_1006.wr W1029
      have f1038 := f1024.other W1029 (Ne.symm n_a3_a4)
      have f1039 := f1025.wr W1029 g_a3
      have f1040 := f1026.other W1029 n_a2_a3
      have f1041 := F_heap_1006.other W1029 (Or.inl n_a1_a3)
      have f1042 := F_heapSize_1006.other W1029 (Or.inl n_a1_a3)
      have f1043 := F_gone_1006.other W1029 (Or.inl n_a1_a3)
      have f1044 := F_disordered_1006.other W1029 (Or.inl n_a1_a3)
      have f1045 := F_fresh_1006.other W1029 (Or.inl n_a1_a3)
      have f1046 := F_freshSize_1006.other W1029 (Or.inl n_a1_a3)
      have f1047 := F_size_1006.other W1029 (Or.inl n_a1_a3)
      have f1048 := VF_1006.other W1029 (Ne.symm n_a3_FA)
      have f1049 := P_x1_1006.other W1029 (Or.inl (Ne.symm n_a3_x1))
      have N1029 := Fr.snoc X1029 N1006 g_a3
      refine Goes.of st1029 ?_
      show Goes p e below (T1029.setTop (mkF m 126 #[.val (.ref a1), .val (.ref a2), .val (.ref a3), .val (.ref a4), .val (.int p5), .val (.int (1 : Int32)), .unset, .unset, .unset] [])) _
      refine Goes.of (fun t k => XS.aloadN X1029.here hx rfl (hb hby d9_126) rfl rfl k) ?_
      show Goes p e below (T1029.setTop (mkF m 127 #[.val (.ref a1), .val (.ref a2), .val (.ref a3), .val (.ref a4), .val (.int p5), .val (.int (1 : Int32)), .unset, .unset, .unset] [(.ref a4)])) _
      refine Goes.of (fun t k => XS.iconst X1029.here hx rfl (hb hby d9_127) k) ?_
      show Goes p e below (T1029.setTop (mkF m 128 #[.val (.ref a1), .val (.ref a2), .val (.ref a3), .val (.ref a4), .val (.int p5), .val (.int (1 : Int32)), .unset, .unset, .unset] [(.int (0 : Int32)), (.ref a4)])) _
      refine Goes.of (fun t k => XS.aloadN X1029.here hx rfl (hb hby d9_128) rfl rfl k) ?_
      show Goes p e below (T1029.setTop (mkF m 129 #[.val (.ref a1), .val (.ref a2), .val (.ref a3), .val (.ref a4), .val (.int p5), .val (.int (1 : Int32)), .unset, .unset, .unset] [(.ref a4), (.int (0 : Int32)), (.ref a4)])) _
      refine Goes.of (fun t k => XS.iconst X1029.here hx rfl (hb hby d9_129) k) ?_
      have Vc1050 := f1038
      obtain ⟨clc1050, Arc1050, qc1050, Sc1050, Nc1050, Hc1050, Gc1050⟩ := Vc1050
      have hin1051 : ¬ ((0 : Int32) < 0 ∨ clc1050.slots.size ≤ ((0 : Int32)).toNatClampNeg) := inb_of Sc1050 ⟨by decide, by decide⟩
      have hat1052 : clc1050.slots[((0 : Int32)).toNatClampNeg]? = some (.int (0 : Int32)) := Hc1050.at hin1051 rfl
      refine Goes.of (fun t k => X1029.iaload hx (j := (0 : Int32)) (v := (.int (0 : Int32))) (by rw [e1029]; exact Arc1050.1) (State.isArrayOf_alike hZ.alike Arc1050.2.1) Arc1050.2.2 hin1051 hat1052 (g := (mkF m 130 #[.val (.ref a1), .val (.ref a2), .val (.ref a3), .val (.ref a4), .val (.int p5), .val (.int (1 : Int32)), .unset, .unset, .unset] [(.int (0 : Int32)), (.ref a4), (.int (0 : Int32)), (.ref a4)])) rfl rfl (hb hby d9_130) _ k) ?_
      show Goes p e below (T1029.setTop (mkF m 131 #[.val (.ref a1), .val (.ref a2), .val (.ref a3), .val (.ref a4), .val (.int p5), .val (.int (1 : Int32)), .unset, .unset, .unset] [(.int (0 : Int32)), (.int (0 : Int32)), (.ref a4)])) _
      refine Goes.of (fun t k => XS.iconst X1029.here hx rfl (hb hby d9_131) k) ?_
      show Goes p e below (T1029.setTop (mkF m 132 #[.val (.ref a1), .val (.ref a2), .val (.ref a3), .val (.ref a4), .val (.int p5), .val (.int (1 : Int32)), .unset, .unset, .unset] [(.int (1 : Int32)), (.int (0 : Int32)), (.int (0 : Int32)), (.ref a4)])) _
      refine Goes.of (fun t k => XS.iadd X1029.here hx rfl (hb hby d9_132) rfl k) ?_
      have Vc1053 := f1038
      obtain ⟨clc1053, Arc1053, qc1053, Sc1053, Nc1053, Hc1053, Gc1053⟩ := Vc1053
      have hin1054 : ¬ ((0 : Int32) < 0 ∨ clc1053.slots.size ≤ ((0 : Int32)).toNatClampNeg) := inb_of Sc1053 ⟨by decide, by decide⟩
      obtain ⟨T1055, h1055, X1055, e1055, W1055, st1055⟩ := stI X1029 hx hZ e1029 Arc1053 (j := (0 : Int32)) hin1054 (g := (mkF m 133 #[.val (.ref a1), .val (.ref a2), .val (.ref a3), .val (.ref a4), .val (.int p5), .val (.int (1 : Int32)), .unset, .unset, .unset] [(.int (1 : Int32)), (.int (0 : Int32)), (.ref a4)])) rfl rfl (hb hby d9_133)
      have V1055 : Arv Z h1055 a4 kC .int (1 : Int32) [(.int (1 : Int32))] (.int (0 : Int32)) := Arv.set Arc1053 qc1053 Sc1053 Nc1053 Hc1053 Gc1053 rfl W1055 0 rfl (Nat.le_of_ble_eq_true rfl)
      have K1056 : Keep h0 h1055 [a1, a3, a4, HA, FA, x0, x1] := K1030.wr W1055 (Or.inl (List.mem_of_getElem? (i := 2) rfl))
      have z1057 : n0 ≤ h1055.size := Nat.le_trans z1031 (Keep.of_wr W1055).1
      have f1058 := f1032.wr W1055
      have f1059 := f1033.other W1055 (Ne.symm n_a4_HA)
      have f1060 := f1034.wr W1055
      have f1061 := f1035.other W1055 (Or.inl (Ne.symm n_a4_x0))
      have f1062 := f1036.wr W1055
      have f1063 := V1029.other W1055 n_a3_a4
      have f1065 := f1039.wr W1055 g_a4
      have f1066 := f1040.other W1055 n_a2_a4
      have f1067 := f1041.other W1055 (Or.inl n_a1_a4)
      have f1068 := f1042.other W1055 (Or.inl n_a1_a4)
      have f1069 := f1043.other W1055 (Or.inl n_a1_a4)
      have f1070 := f1044.other W1055 (Or.inl n_a1_a4)
      have f1071 := f1045.other W1055 (Or.inl n_a1_a4)
      have f1072 := f1046.other W1055 (Or.inl n_a1_a4)
      have f1073 := f1047.other W1055 (Or.inl n_a1_a4)
      have f1074 := f1048.other W1055 (Ne.symm n_a4_FA)
      have f1075 := f1049.other W1055 (Or.inl (Ne.symm n_a4_x1))
      have N1055 := Fr.snoc X1055 N1029 g_a4
      refine Goes.of st1055 ?_
      show Goes p e below (T1055.setTop (mkF m 134 #[.val (.ref a1), .val (.ref a2), .val (.ref a3), .val (.ref a4), .val (.int p5), .val (.int (1 : Int32)), .unset, .unset, .unset] [])) _
      refine Goes.of (fun t k => XS.aloadN X1055.here hx rfl (hb hby d9_134) rfl rfl k) ?_
      obtain ⟨cq1076, kq1076, q1076a, q1076b, q1076c⟩ := isOf hZ e1055 f1058
      obtain ⟨_, _, ⟨T1076, L1076, k1076, n1076⟩, -, X1076, ⟨Lc1076, hQ1076, l1076, y1076, z1076⟩, st1076⟩ := X1055.virtualBack hx (y := (⟨"com/example/ripplematch/ripplematch/core/Agenda", "isEmpty", "()Z"⟩ : MethodName)) (z := (⟨"com/example/ripplematch/ripplematch/core/Agenda", "isEmpty", "()Z"⟩ : MethodName)) hown (mvT hZ (wd hw 64 rfl)) (mvT hZ (wd hw 65 rfl)) (notFace_of_selects (args := #[]) (mvT hZ (wd hw 67 rfl))) (mvT hZ (wd hw 67 rfl)) (mvT hZ (wd hw 66 rfl)) (by decide) (backOf (W := 0) (rm8 l Z a0 hw [] a1 (1 : Int32) h1055 n0 z1057 f1073) hZ (wd hw 68 rfl) (wd hw 2 rfl) (by decide) (by decide)) q1076a q1076c (g := (mkF m 135 #[.val (.ref a1), .val (.ref a2), .val (.ref a3), .val (.ref a4), .val (.int p5), .val (.int (1 : Int32)), .unset, .unset, .unset] [(.ref a1)])) rfl (by rw [hml]; rfl) (Steps.refl _) (argsL := []) (rest := []) (lenOf pd_6 rfl) rfl (by show 2 * 0 + _ ≤ _; exact Nat.le_of_eq rfl) (hb hby d9_135) (fun _ _ => ⟨rfl, e1055, (by decide : 0 + 0 ≤ _), (by decide : 0 + 0 ≤ _)⟩)
      dsimp only [Pt.U, Pt.locs, Pt.cells, Pt.slots] at X1076 l1076 y1076 z1076 st1076 hQ1076
      subst l1076 y1076 z1076
      obtain ⟨rfl, N1076q, e1076⟩ := hQ1076
      have N1076 := Fr.app N1055 N1076q
      refine Goes.of (fun t k => st1076.trans k) ?_
      show Goes p e below (T1076.setTop (mkF m 138 #[.val (.ref a1), .val (.ref a2), .val (.ref a3), .val (.ref a4), .val (.int p5), .val (.int (1 : Int32)), .unset, .unset, .unset] [(.int (0 : Int32))])) _
      refine Goes.of (fun t k => XS.aloadN X1076.here hx rfl (hb hby d9_138) rfl rfl k) ?_
      show Goes p e below (T1076.setTop (mkF m 139 #[.val (.ref a1), .val (.ref a2), .val (.ref a3), .val (.ref a4), .val (.int p5), .val (.int (1 : Int32)), .unset, .unset, .unset] [(.ref a4), (.int (0 : Int32))])) _
      refine Goes.of (fun t k => XS.iconst X1076.here hx rfl (hb hby d9_139) k) ?_
      have Vc1077 := V1055
      obtain ⟨clc1077, Arc1077, qc1077, Sc1077, Nc1077, Hc1077, Gc1077⟩ := Vc1077
      have hin1078 : ¬ ((0 : Int32) < 0 ∨ clc1077.slots.size ≤ ((0 : Int32)).toNatClampNeg) := inb_of Sc1077 ⟨by decide, by decide⟩
      have hat1079 : clc1077.slots[((0 : Int32)).toNatClampNeg]? = some (.int (1 : Int32)) := Hc1077.at hin1078 rfl
      refine Goes.of (fun t k => X1076.iaload hx (j := (0 : Int32)) (v := (.int (1 : Int32))) (by rw [e1076]; exact Arc1077.1) (State.isArrayOf_alike hZ.alike Arc1077.2.1) Arc1077.2.2 hin1078 hat1079 (g := (mkF m 140 #[.val (.ref a1), .val (.ref a2), .val (.ref a3), .val (.ref a4), .val (.int p5), .val (.int (1 : Int32)), .unset, .unset, .unset] [(.int (0 : Int32)), (.ref a4), (.int (0 : Int32))])) rfl rfl (hb hby d9_140) _ k) ?_
      show Goes p e below (T1076.setTop (mkF m 141 #[.val (.ref a1), .val (.ref a2), .val (.ref a3), .val (.ref a4), .val (.int p5), .val (.int (1 : Int32)), .unset, .unset, .unset] [(.int (1 : Int32)), (.int (0 : Int32))])) _
      refine Goes.of (fun t k => XS.ifYes X1076.here hx rfl (pc0 := 141) (pc' := 148) rfl (hb hby d9_141) rfl ((if0 _ _).trans (feq (by decide)).2) (by decide) (by decide) k) ?_
      show Goes p e below (T1076.setTop (mkF m 148 #[.val (.ref a1), .val (.ref a2), .val (.ref a3), .val (.ref a4), .val (.int p5), .val (.int (1 : Int32)), .unset, .unset, .unset] [(.int (0 : Int32))])) _
      refine Goes.of (fun t k => XS.iconst X1076.here hx rfl (hb hby d9_148) k) ?_
      show Goes p e below (T1076.setTop (mkF m 149 #[.val (.ref a1), .val (.ref a2), .val (.ref a3), .val (.ref a4), .val (.int p5), .val (.int (1 : Int32)), .unset, .unset, .unset] [(.int (0 : Int32)), (.int (0 : Int32))])) _
      refine Goes.of (fun t k => XS.icmpNo X1076.here hx rfl (hb hby d9_149) rfl (teq (by decide)).2 k) ?_
      show Goes p e below (T1076.setTop (mkF m 152 #[.val (.ref a1), .val (.ref a2), .val (.ref a3), .val (.ref a4), .val (.int p5), .val (.int (1 : Int32)), .unset, .unset, .unset] [])) _
      refine Goes.of (fun t k => XS.iconst X1076.here hx rfl (hb hby d9_152) k) ?_
      show Goes p e below (T1076.setTop (mkF m 153 #[.val (.ref a1), .val (.ref a2), .val (.ref a3), .val (.ref a4), .val (.int p5), .val (.int (1 : Int32)), .unset, .unset, .unset] [(.int (1 : Int32))])) _
      refine Goes.of (fun t k => XS.goto X1076.here hx rfl (pc0 := 153) (pc' := 157) rfl (hb hby d9_153) (by decide) (by decide) k) ?_
      show Goes p e below (T1076.setTop (mkF m 157 #[.val (.ref a1), .val (.ref a2), .val (.ref a3), .val (.ref a4), .val (.int p5), .val (.int (1 : Int32)), .unset, .unset, .unset] [(.int (1 : Int32))])) _
      have eh : T1076.heap = h1055 := e1076
      exact Goes.retN (t := .boolean) X1076 hx Bd.returns (by simp) hlocks (hb hby d9_157) (⟨rfl, N1076, by rw [eh]; exact K1056, Or.inr (Or.inr (Or.inl ⟨by rw [eh]; exact f1058, by rw [eh]; exact f1067, by rw [eh]; exact f1068, by rw [eh]; exact f1069, by rw [eh]; exact f1070, by rw [eh]; exact f1071, by rw [eh]; exact f1072, by rw [eh]; exact f1073, by rw [eh]; exact f1059, by rw [eh]; exact f1074, by rw [eh]; exact f1060, by rw [eh]; exact f1061, by rw [eh]; exact f1062, by rw [eh]; exact f1075, by rw [eh]; exact f1063, by rw [eh]; exact V1055⟩))⟩) (by decide) (by decide)
    · refine Goes.of (fun t k => XS.ifNo X0.here hx rfl (hb hby d9_10) rfl ((if0 _ _).trans (feq hc10_999).1) k) ?_
      show Goes p e below (s₁.setTop (mkF m 13 #[.val (.ref a1), .val (.ref a2), .val (.ref a3), .val (.ref a4), .val (.int p5), .val (.int (1 : Int32)), .unset, .unset, .unset] [])) _
      refine Goes.of (fun t k => XS.aloadN X0.here hx rfl (hb hby d9_13) rfl rfl k) ?_
      show Goes p e below (s₁.setTop (mkF m 14 #[.val (.ref a1), .val (.ref a2), .val (.ref a3), .val (.ref a4), .val (.int p5), .val (.int (1 : Int32)), .unset, .unset, .unset] [(.ref a4)])) _
      refine Goes.of (fun t k => XS.iconst X0.here hx rfl (hb hby d9_14) k) ?_
      have Vc1080 := VC
      obtain ⟨clc1080, Arc1080, qc1080, Sc1080, Nc1080, Hc1080, Gc1080⟩ := Vc1080
      have hin1081 : ¬ ((0 : Int32) < 0 ∨ clc1080.slots.size ≤ ((0 : Int32)).toNatClampNeg) := inb_of Sc1080 ⟨by decide, by decide⟩
      have hat1082 : clc1080.slots[((0 : Int32)).toNatClampNeg]? = some (.int (0 : Int32)) := Hc1080.at hin1081 rfl
      refine Goes.of (fun t k => X0.iaload hx (j := (0 : Int32)) (v := (.int (0 : Int32))) (by rw [e0]; exact Arc1080.1) (State.isArrayOf_alike hZ.alike Arc1080.2.1) Arc1080.2.2 hin1081 hat1082 (g := (mkF m 15 #[.val (.ref a1), .val (.ref a2), .val (.ref a3), .val (.ref a4), .val (.int p5), .val (.int (1 : Int32)), .unset, .unset, .unset] [(.int (0 : Int32)), (.ref a4)])) rfl rfl (hb hby d9_15) _ k) ?_
      show Goes p e below (s₁.setTop (mkF m 16 #[.val (.ref a1), .val (.ref a2), .val (.ref a3), .val (.ref a4), .val (.int p5), .val (.int (1 : Int32)), .unset, .unset, .unset] [(.int (0 : Int32))])) _
      refine Goes.of (fun t k => XS.iconst X0.here hx rfl (hb hby d9_16) k) ?_
      show Goes p e below (s₁.setTop (mkF m 17 #[.val (.ref a1), .val (.ref a2), .val (.ref a3), .val (.ref a4), .val (.int p5), .val (.int (1 : Int32)), .unset, .unset, .unset] [(.int (1 : Int32)), (.int (0 : Int32))])) _
      refine Goes.of (fun t k => XS.icmpYes X0.here hx rfl (pc0 := 17) (pc' := 82) rfl (hb hby d9_17) rfl (feq (by decide)).2 (by decide) (by decide) k) ?_
      show Goes p e below (s₁.setTop (mkF m 82 #[.val (.ref a1), .val (.ref a2), .val (.ref a3), .val (.ref a4), .val (.int p5), .val (.int (1 : Int32)), .unset, .unset, .unset] [])) _
      refine Goes.of (fun t k => XS.aloadN X0.here hx rfl (hb hby d9_82) rfl rfl k) ?_
      show Goes p e below (s₁.setTop (mkF m 83 #[.val (.ref a1), .val (.ref a2), .val (.ref a3), .val (.ref a4), .val (.int p5), .val (.int (1 : Int32)), .unset, .unset, .unset] [(.ref a3)])) _
      refine Goes.of (fun t k => XS.iload X0.here hx rfl (hb hby d9_83) rfl k) ?_
      have Vc1083 := VO
      obtain ⟨clc1083, Arc1083, qc1083, Sc1083, Nc1083, Hc1083, Gc1083⟩ := Vc1083
      have hin1084 : ¬ ((1 : Int32) < 0 ∨ clc1083.slots.size ≤ ((1 : Int32)).toNatClampNeg) := inb_of Sc1083 ⟨by decide, by decide⟩
      have hat1085 : clc1083.slots[((1 : Int32)).toNatClampNeg]? = some (.int (0 : Int32)) := Hc1083.at hin1084 rfl
      refine Goes.of (fun t k => X0.baloadBooleans hx (j := (1 : Int32)) (v := (.int (0 : Int32))) (by rw [e0]; exact Arc1083.1) (State.isArrayOf_alike hZ.alike Arc1083.2.1) Arc1083.2.2 hin1084 hat1085 (g := (mkF m 85 #[.val (.ref a1), .val (.ref a2), .val (.ref a3), .val (.ref a4), .val (.int p5), .val (.int (1 : Int32)), .unset, .unset, .unset] [(.int (1 : Int32)), (.ref a3)])) rfl rfl (hb hby d9_85) _ k) ?_
      show Goes p e below (s₁.setTop (mkF m 86 #[.val (.ref a1), .val (.ref a2), .val (.ref a3), .val (.ref a4), .val (.int p5), .val (.int (1 : Int32)), .unset, .unset, .unset] [(.int (0 : Int32))])) _
      refine Goes.of (fun t k => XS.ifYes X0.here hx rfl (pc0 := 86) (pc' := 113) rfl (hb hby d9_86) rfl ((if0 _ _).trans (teq (by decide)).1) (by decide) (by decide) k) ?_
      show Goes p e below (s₁.setTop (mkF m 113 #[.val (.ref a1), .val (.ref a2), .val (.ref a3), .val (.ref a4), .val (.int p5), .val (.int (1 : Int32)), .unset, .unset, .unset] [])) _
      refine Goes.of (fun t k => XS.aloadN X0.here hx rfl (hb hby d9_113) rfl rfl k) ?_
      show Goes p e below (s₁.setTop (mkF m 114 #[.val (.ref a1), .val (.ref a2), .val (.ref a3), .val (.ref a4), .val (.int p5), .val (.int (1 : Int32)), .unset, .unset, .unset] [(.ref a1)])) _
      refine Goes.of (fun t k => XS.aloadN X0.here hx rfl (hb hby d9_114) rfl rfl k) ?_
      show Goes p e below (s₁.setTop (mkF m 115 #[.val (.ref a1), .val (.ref a2), .val (.ref a3), .val (.ref a4), .val (.int p5), .val (.int (1 : Int32)), .unset, .unset, .unset] [(.ref a2), (.ref a1)])) _
      refine Goes.of (fun t k => XS.iload X0.here hx rfl (hb hby d9_115) rfl k) ?_
      have Vc1086 := VT
      obtain ⟨clc1086, Arc1086, qc1086, Sc1086, Nc1086, Hc1086, Gc1086⟩ := Vc1086
      have hin1087 : ¬ ((1 : Int32) < 0 ∨ clc1086.slots.size ≤ ((1 : Int32)).toNatClampNeg) := inb_of Sc1086 ⟨by decide, by decide⟩
      have hat1088 : clc1086.slots[((1 : Int32)).toNatClampNeg]? = some (.ref x1) := Hc1086.at hin1087 rfl
      refine Goes.of (fun t k => X0.aaload hx (j := (1 : Int32)) (v := (.ref x1)) (by rw [e0]; exact Arc1086.1) (State.isArrayOf_alike hZ.alike Arc1086.2.1) rfl Arc1086.2.2 hin1087 hat1088 (g := (mkF m 117 #[.val (.ref a1), .val (.ref a2), .val (.ref a3), .val (.ref a4), .val (.int p5), .val (.int (1 : Int32)), .unset, .unset, .unset] [(.int (1 : Int32)), (.ref a2), (.ref a1)])) rfl rfl (hb hby d9_117) _ k) ?_
      obtain ⟨cq1089, kq1089, q1089a, q1089b, q1089c⟩ := isOf hZ e0 E
      obtain ⟨_, _, ⟨T1089, L1089, k1089, n1089⟩, -, X1089, ⟨Lc1089, hQ1089, l1089, y1089, z1089⟩, st1089⟩ := X0.virtualBack hx (y := (⟨"com/example/ripplematch/ripplematch/core/Agenda", "add", "(Lcom/example/ripplematch/ripplematch/core/Activation;)V"⟩ : MethodName)) (z := (⟨"com/example/ripplematch/ripplematch/core/Agenda", "add", "(Lcom/example/ripplematch/ripplematch/core/Activation;)V"⟩ : MethodName)) hown (mvT hZ (wd hw 75 rfl)) (mvT hZ (wd hw 76 rfl)) (notFace_of_selects (args := #[]) (mvT hZ (wd hw 78 rfl))) (mvT hZ (wd hw 78 rfl)) (mvT hZ (wd hw 77 rfl)) (by decide) (backOf (W := 0) (rm10 l Z a0 hw [] a1 x1 HA FA _ _ h0 n0 Z0 O0 SA E F_heap F_heapSize F_gone F_disordered F_fresh F_freshSize F_size VH VF E_x1 P_x1 g_a1 g_HA g_FA g_x1 n_a1_HA n_a1_FA n_a1_x1 n_HA_FA n_HA_x1 n_FA_x1 OH OF) hZ (wd hw 79 rfl) (wd hw 2 rfl) (by decide) (by decide)) q1089a q1089c (g := (mkF m 118 #[.val (.ref a1), .val (.ref a2), .val (.ref a3), .val (.ref a4), .val (.int p5), .val (.int (1 : Int32)), .unset, .unset, .unset] [(.ref x1), (.ref a1)])) rfl (by rw [hml]; rfl) (Steps.refl _) (argsL := [(.ref x1)]) (rest := []) (lenOf pd_5 rfl) rfl (by show 2 * 0 + _ ≤ _; exact Nat.le_of_eq rfl) (hb hby d9_118) (fun _ _ => ⟨rfl, e0, (by decide : 0 + 0 ≤ _), (by decide : 0 + 0 ≤ _)⟩)
      dsimp only [Pt.U, Pt.locs, Pt.cells, Pt.slots] at X1089 l1089 y1089 z1089 st1089 hQ1089
      subst l1089 y1089 z1089
      obtain ⟨rfl, N1089q, K1089, E_1089, F_heap_1089, F_heapSize_1089, F_gone_1089, F_disordered_1089, F_fresh_1089, F_freshSize_1089, F_size_1089, VH_1089, VF_1089, E_x1_1089, P_x1_1089⟩ := hQ1089
      have N1089 := Fr.app N0 N1089q
      have K1090 : Keep h0 T1089.heap [a1, a3, a4, HA, FA, x0, x1] := K0.trans K1089 (allS (Or.inl (List.mem_of_getElem? (i := 0) rfl)) (allS (Or.inl (List.mem_of_getElem? (i := 4) rfl)) (allS (Or.inl (List.mem_of_getElem? (i := 6) rfl)) all0)))
      have z1091 : n0 ≤ T1089.heap.size := Nat.le_trans Z0 K1089.1
      have f1092 := E.keep K1089
      have f1100 := VH.keep K1089 (ninS (Ne.symm n_a1_HA) (ninS n_HA_FA (ninS n_HA_x1 nin0)))
      have f1102 := E_x0.keep K1089
      have f1103 := P_x0.keep K1089 (ninS (Ne.symm n_a1_x0) (ninS (Ne.symm n_FA_x0) (ninS n_x0_x1 nin0)))
      have f1104 := E_x1.keep K1089
      have f1106 := VO.keep K1089 (ninS (Ne.symm n_a1_a3) (ninS n_a3_FA (ninS n_a3_x1 nin0)))
      have f1107 := VC.keep K1089 (ninS (Ne.symm n_a1_a4) (ninS n_a4_FA (ninS n_a4_x1 nin0)))
      have f1108 := O0.keep K1089 (allS g_a1 (allS g_FA (allS g_x1 all0)))
      have f1109 := VT.keep K1089 (ninS (Ne.symm n_a1_a2) (ninS n_a2_FA (ninS n_a2_x1 nin0)))
      refine Goes.of (fun t k => st1089.trans k) ?_
      show Goes p e below (T1089.setTop (mkF m 121 #[.val (.ref a1), .val (.ref a2), .val (.ref a3), .val (.ref a4), .val (.int p5), .val (.int (1 : Int32)), .unset, .unset, .unset] [])) _
      refine Goes.of (fun t k => XS.aloadN X1089.here hx rfl (hb hby d9_121) rfl rfl k) ?_
      show Goes p e below (T1089.setTop (mkF m 122 #[.val (.ref a1), .val (.ref a2), .val (.ref a3), .val (.ref a4), .val (.int p5), .val (.int (1 : Int32)), .unset, .unset, .unset] [(.ref a3)])) _
      refine Goes.of (fun t k => XS.iload X1089.here hx rfl (hb hby d9_122) rfl k) ?_
      show Goes p e below (T1089.setTop (mkF m 124 #[.val (.ref a1), .val (.ref a2), .val (.ref a3), .val (.ref a4), .val (.int p5), .val (.int (1 : Int32)), .unset, .unset, .unset] [(.int (1 : Int32)), (.ref a3)])) _
      refine Goes.of (fun t k => XS.iconst X1089.here hx rfl (hb hby d9_124) k) ?_
      have Vc1110 := f1106
      obtain ⟨clc1110, Arc1110, qc1110, Sc1110, Nc1110, Hc1110, Gc1110⟩ := Vc1110
      have hin1111 : ¬ ((1 : Int32) < 0 ∨ clc1110.slots.size ≤ ((1 : Int32)).toNatClampNeg) := inb_of Sc1110 ⟨by decide, by decide⟩
      obtain ⟨T1112, h1112, X1112, e1112, W1112, st1112⟩ := stZ X1089 hx hZ rfl Arc1110 (j := (1 : Int32)) hin1111 (g := (mkF m 125 #[.val (.ref a1), .val (.ref a2), .val (.ref a3), .val (.ref a4), .val (.int p5), .val (.int (1 : Int32)), .unset, .unset, .unset] [(.int (1 : Int32)), (.int (1 : Int32)), (.ref a3)])) rfl rfl (hb hby d9_125)
      have V1112 : Arv Z h1112 a3 kO .boolean (2 : Int32) [(.int (0 : Int32)), (.int (nar .boolean (1 : Int32)))] (.int (0 : Int32)) := Arv.set Arc1110 qc1110 Sc1110 Nc1110 Hc1110 Gc1110 (fits_nar_bool _) W1112 1 rfl (Nat.le_of_ble_eq_true rfl)
      have K1113 : Keep h0 h1112 [a1, a3, a4, HA, FA, x0, x1] := K1090.wr W1112 (Or.inl (List.mem_of_getElem? (i := 1) rfl))
      have z1114 : n0 ≤ h1112.size := Nat.le_trans z1091 (Keep.of_wr W1112).1
      have f1115 := E_1089.wr W1112
      have f1116 := VH_1089.other W1112 (Ne.symm n_a3_HA)
      have f1117 := f1102.wr W1112
      have f1118 := f1103.other W1112 (Or.inl (Ne.symm n_a3_x0))
      have f1119 := E_x1_1089.wr W1112
      have f1121 := f1107.other W1112 (Ne.symm n_a3_a4)
      have f1122 := f1108.wr W1112 g_a3
      have f1123 := f1109.other W1112 n_a2_a3
      have f1124 := F_heap_1089.other W1112 (Or.inl n_a1_a3)
      have f1125 := F_heapSize_1089.other W1112 (Or.inl n_a1_a3)
      have f1126 := F_gone_1089.other W1112 (Or.inl n_a1_a3)
      have f1127 := F_disordered_1089.other W1112 (Or.inl n_a1_a3)
      have f1128 := F_fresh_1089.other W1112 (Or.inl n_a1_a3)
      have f1129 := F_freshSize_1089.other W1112 (Or.inl n_a1_a3)
      have f1130 := F_size_1089.other W1112 (Or.inl n_a1_a3)
      have f1131 := VF_1089.other W1112 (Ne.symm n_a3_FA)
      have f1132 := P_x1_1089.other W1112 (Or.inl (Ne.symm n_a3_x1))
      have N1112 := Fr.snoc X1112 N1089 g_a3
      refine Goes.of st1112 ?_
      show Goes p e below (T1112.setTop (mkF m 126 #[.val (.ref a1), .val (.ref a2), .val (.ref a3), .val (.ref a4), .val (.int p5), .val (.int (1 : Int32)), .unset, .unset, .unset] [])) _
      refine Goes.of (fun t k => XS.aloadN X1112.here hx rfl (hb hby d9_126) rfl rfl k) ?_
      show Goes p e below (T1112.setTop (mkF m 127 #[.val (.ref a1), .val (.ref a2), .val (.ref a3), .val (.ref a4), .val (.int p5), .val (.int (1 : Int32)), .unset, .unset, .unset] [(.ref a4)])) _
      refine Goes.of (fun t k => XS.iconst X1112.here hx rfl (hb hby d9_127) k) ?_
      show Goes p e below (T1112.setTop (mkF m 128 #[.val (.ref a1), .val (.ref a2), .val (.ref a3), .val (.ref a4), .val (.int p5), .val (.int (1 : Int32)), .unset, .unset, .unset] [(.int (0 : Int32)), (.ref a4)])) _
      refine Goes.of (fun t k => XS.aloadN X1112.here hx rfl (hb hby d9_128) rfl rfl k) ?_
      show Goes p e below (T1112.setTop (mkF m 129 #[.val (.ref a1), .val (.ref a2), .val (.ref a3), .val (.ref a4), .val (.int p5), .val (.int (1 : Int32)), .unset, .unset, .unset] [(.ref a4), (.int (0 : Int32)), (.ref a4)])) _
      refine Goes.of (fun t k => XS.iconst X1112.here hx rfl (hb hby d9_129) k) ?_
      have Vc1133 := f1121
      obtain ⟨clc1133, Arc1133, qc1133, Sc1133, Nc1133, Hc1133, Gc1133⟩ := Vc1133
      have hin1134 : ¬ ((0 : Int32) < 0 ∨ clc1133.slots.size ≤ ((0 : Int32)).toNatClampNeg) := inb_of Sc1133 ⟨by decide, by decide⟩
      have hat1135 : clc1133.slots[((0 : Int32)).toNatClampNeg]? = some (.int (0 : Int32)) := Hc1133.at hin1134 rfl
      refine Goes.of (fun t k => X1112.iaload hx (j := (0 : Int32)) (v := (.int (0 : Int32))) (by rw [e1112]; exact Arc1133.1) (State.isArrayOf_alike hZ.alike Arc1133.2.1) Arc1133.2.2 hin1134 hat1135 (g := (mkF m 130 #[.val (.ref a1), .val (.ref a2), .val (.ref a3), .val (.ref a4), .val (.int p5), .val (.int (1 : Int32)), .unset, .unset, .unset] [(.int (0 : Int32)), (.ref a4), (.int (0 : Int32)), (.ref a4)])) rfl rfl (hb hby d9_130) _ k) ?_
      show Goes p e below (T1112.setTop (mkF m 131 #[.val (.ref a1), .val (.ref a2), .val (.ref a3), .val (.ref a4), .val (.int p5), .val (.int (1 : Int32)), .unset, .unset, .unset] [(.int (0 : Int32)), (.int (0 : Int32)), (.ref a4)])) _
      refine Goes.of (fun t k => XS.iconst X1112.here hx rfl (hb hby d9_131) k) ?_
      show Goes p e below (T1112.setTop (mkF m 132 #[.val (.ref a1), .val (.ref a2), .val (.ref a3), .val (.ref a4), .val (.int p5), .val (.int (1 : Int32)), .unset, .unset, .unset] [(.int (1 : Int32)), (.int (0 : Int32)), (.int (0 : Int32)), (.ref a4)])) _
      refine Goes.of (fun t k => XS.iadd X1112.here hx rfl (hb hby d9_132) rfl k) ?_
      have Vc1136 := f1121
      obtain ⟨clc1136, Arc1136, qc1136, Sc1136, Nc1136, Hc1136, Gc1136⟩ := Vc1136
      have hin1137 : ¬ ((0 : Int32) < 0 ∨ clc1136.slots.size ≤ ((0 : Int32)).toNatClampNeg) := inb_of Sc1136 ⟨by decide, by decide⟩
      obtain ⟨T1138, h1138, X1138, e1138, W1138, st1138⟩ := stI X1112 hx hZ e1112 Arc1136 (j := (0 : Int32)) hin1137 (g := (mkF m 133 #[.val (.ref a1), .val (.ref a2), .val (.ref a3), .val (.ref a4), .val (.int p5), .val (.int (1 : Int32)), .unset, .unset, .unset] [(.int (1 : Int32)), (.int (0 : Int32)), (.ref a4)])) rfl rfl (hb hby d9_133)
      have V1138 : Arv Z h1138 a4 kC .int (1 : Int32) [(.int (1 : Int32))] (.int (0 : Int32)) := Arv.set Arc1136 qc1136 Sc1136 Nc1136 Hc1136 Gc1136 rfl W1138 0 rfl (Nat.le_of_ble_eq_true rfl)
      have K1139 : Keep h0 h1138 [a1, a3, a4, HA, FA, x0, x1] := K1113.wr W1138 (Or.inl (List.mem_of_getElem? (i := 2) rfl))
      have z1140 : n0 ≤ h1138.size := Nat.le_trans z1114 (Keep.of_wr W1138).1
      have f1141 := f1115.wr W1138
      have f1142 := f1116.other W1138 (Ne.symm n_a4_HA)
      have f1143 := f1117.wr W1138
      have f1144 := f1118.other W1138 (Or.inl (Ne.symm n_a4_x0))
      have f1145 := f1119.wr W1138
      have f1146 := V1112.other W1138 n_a3_a4
      have f1148 := f1122.wr W1138 g_a4
      have f1149 := f1123.other W1138 n_a2_a4
      have f1150 := f1124.other W1138 (Or.inl n_a1_a4)
      have f1151 := f1125.other W1138 (Or.inl n_a1_a4)
      have f1152 := f1126.other W1138 (Or.inl n_a1_a4)
      have f1153 := f1127.other W1138 (Or.inl n_a1_a4)
      have f1154 := f1128.other W1138 (Or.inl n_a1_a4)
      have f1155 := f1129.other W1138 (Or.inl n_a1_a4)
      have f1156 := f1130.other W1138 (Or.inl n_a1_a4)
      have f1157 := f1131.other W1138 (Ne.symm n_a4_FA)
      have f1158 := f1132.other W1138 (Or.inl (Ne.symm n_a4_x1))
      have N1138 := Fr.snoc X1138 N1112 g_a4
      refine Goes.of st1138 ?_
      show Goes p e below (T1138.setTop (mkF m 134 #[.val (.ref a1), .val (.ref a2), .val (.ref a3), .val (.ref a4), .val (.int p5), .val (.int (1 : Int32)), .unset, .unset, .unset] [])) _
      refine Goes.of (fun t k => XS.aloadN X1138.here hx rfl (hb hby d9_134) rfl rfl k) ?_
      obtain ⟨cq1159, kq1159, q1159a, q1159b, q1159c⟩ := isOf hZ e1138 f1141
      obtain ⟨_, _, ⟨T1159, L1159, k1159, n1159⟩, -, X1159, ⟨Lc1159, hQ1159, l1159, y1159, z1159⟩, st1159⟩ := X1138.virtualBack hx (y := (⟨"com/example/ripplematch/ripplematch/core/Agenda", "isEmpty", "()Z"⟩ : MethodName)) (z := (⟨"com/example/ripplematch/ripplematch/core/Agenda", "isEmpty", "()Z"⟩ : MethodName)) hown (mvT hZ (wd hw 64 rfl)) (mvT hZ (wd hw 65 rfl)) (notFace_of_selects (args := #[]) (mvT hZ (wd hw 67 rfl))) (mvT hZ (wd hw 67 rfl)) (mvT hZ (wd hw 66 rfl)) (by decide) (backOf (W := 0) (rm8 l Z a0 hw [] a1 (1 : Int32) h1138 n0 z1140 f1156) hZ (wd hw 68 rfl) (wd hw 2 rfl) (by decide) (by decide)) q1159a q1159c (g := (mkF m 135 #[.val (.ref a1), .val (.ref a2), .val (.ref a3), .val (.ref a4), .val (.int p5), .val (.int (1 : Int32)), .unset, .unset, .unset] [(.ref a1)])) rfl (by rw [hml]; rfl) (Steps.refl _) (argsL := []) (rest := []) (lenOf pd_6 rfl) rfl (by show 2 * 0 + _ ≤ _; exact Nat.le_of_eq rfl) (hb hby d9_135) (fun _ _ => ⟨rfl, e1138, (by decide : 0 + 0 ≤ _), (by decide : 0 + 0 ≤ _)⟩)
      dsimp only [Pt.U, Pt.locs, Pt.cells, Pt.slots] at X1159 l1159 y1159 z1159 st1159 hQ1159
      subst l1159 y1159 z1159
      obtain ⟨rfl, N1159q, e1159⟩ := hQ1159
      have N1159 := Fr.app N1138 N1159q
      refine Goes.of (fun t k => st1159.trans k) ?_
      show Goes p e below (T1159.setTop (mkF m 138 #[.val (.ref a1), .val (.ref a2), .val (.ref a3), .val (.ref a4), .val (.int p5), .val (.int (1 : Int32)), .unset, .unset, .unset] [(.int (0 : Int32))])) _
      refine Goes.of (fun t k => XS.aloadN X1159.here hx rfl (hb hby d9_138) rfl rfl k) ?_
      show Goes p e below (T1159.setTop (mkF m 139 #[.val (.ref a1), .val (.ref a2), .val (.ref a3), .val (.ref a4), .val (.int p5), .val (.int (1 : Int32)), .unset, .unset, .unset] [(.ref a4), (.int (0 : Int32))])) _
      refine Goes.of (fun t k => XS.iconst X1159.here hx rfl (hb hby d9_139) k) ?_
      have Vc1160 := V1138
      obtain ⟨clc1160, Arc1160, qc1160, Sc1160, Nc1160, Hc1160, Gc1160⟩ := Vc1160
      have hin1161 : ¬ ((0 : Int32) < 0 ∨ clc1160.slots.size ≤ ((0 : Int32)).toNatClampNeg) := inb_of Sc1160 ⟨by decide, by decide⟩
      have hat1162 : clc1160.slots[((0 : Int32)).toNatClampNeg]? = some (.int (1 : Int32)) := Hc1160.at hin1161 rfl
      refine Goes.of (fun t k => X1159.iaload hx (j := (0 : Int32)) (v := (.int (1 : Int32))) (by rw [e1159]; exact Arc1160.1) (State.isArrayOf_alike hZ.alike Arc1160.2.1) Arc1160.2.2 hin1161 hat1162 (g := (mkF m 140 #[.val (.ref a1), .val (.ref a2), .val (.ref a3), .val (.ref a4), .val (.int p5), .val (.int (1 : Int32)), .unset, .unset, .unset] [(.int (0 : Int32)), (.ref a4), (.int (0 : Int32))])) rfl rfl (hb hby d9_140) _ k) ?_
      show Goes p e below (T1159.setTop (mkF m 141 #[.val (.ref a1), .val (.ref a2), .val (.ref a3), .val (.ref a4), .val (.int p5), .val (.int (1 : Int32)), .unset, .unset, .unset] [(.int (1 : Int32)), (.int (0 : Int32))])) _
      refine Goes.of (fun t k => XS.ifYes X1159.here hx rfl (pc0 := 141) (pc' := 148) rfl (hb hby d9_141) rfl ((if0 _ _).trans (feq (by decide)).2) (by decide) (by decide) k) ?_
      show Goes p e below (T1159.setTop (mkF m 148 #[.val (.ref a1), .val (.ref a2), .val (.ref a3), .val (.ref a4), .val (.int p5), .val (.int (1 : Int32)), .unset, .unset, .unset] [(.int (0 : Int32))])) _
      refine Goes.of (fun t k => XS.iconst X1159.here hx rfl (hb hby d9_148) k) ?_
      show Goes p e below (T1159.setTop (mkF m 149 #[.val (.ref a1), .val (.ref a2), .val (.ref a3), .val (.ref a4), .val (.int p5), .val (.int (1 : Int32)), .unset, .unset, .unset] [(.int (0 : Int32)), (.int (0 : Int32))])) _
      refine Goes.of (fun t k => XS.icmpNo X1159.here hx rfl (hb hby d9_149) rfl (teq (by decide)).2 k) ?_
      show Goes p e below (T1159.setTop (mkF m 152 #[.val (.ref a1), .val (.ref a2), .val (.ref a3), .val (.ref a4), .val (.int p5), .val (.int (1 : Int32)), .unset, .unset, .unset] [])) _
      refine Goes.of (fun t k => XS.iconst X1159.here hx rfl (hb hby d9_152) k) ?_
      show Goes p e below (T1159.setTop (mkF m 153 #[.val (.ref a1), .val (.ref a2), .val (.ref a3), .val (.ref a4), .val (.int p5), .val (.int (1 : Int32)), .unset, .unset, .unset] [(.int (1 : Int32))])) _
      refine Goes.of (fun t k => XS.goto X1159.here hx rfl (pc0 := 153) (pc' := 157) rfl (hb hby d9_153) (by decide) (by decide) k) ?_
      show Goes p e below (T1159.setTop (mkF m 157 #[.val (.ref a1), .val (.ref a2), .val (.ref a3), .val (.ref a4), .val (.int p5), .val (.int (1 : Int32)), .unset, .unset, .unset] [(.int (1 : Int32))])) _
      have eh : T1159.heap = h1138 := e1159
      exact Goes.retN (t := .boolean) X1159 hx Bd.returns (by simp) hlocks (hb hby d9_157) (⟨rfl, N1159, by rw [eh]; exact K1139, Or.inr (Or.inr (Or.inl ⟨by rw [eh]; exact f1141, by rw [eh]; exact f1150, by rw [eh]; exact f1151, by rw [eh]; exact f1152, by rw [eh]; exact f1153, by rw [eh]; exact f1154, by rw [eh]; exact f1155, by rw [eh]; exact f1156, by rw [eh]; exact f1142, by rw [eh]; exact f1157, by rw [eh]; exact f1143, by rw [eh]; exact f1144, by rw [eh]; exact f1145, by rw [eh]; exact f1158, by rw [eh]; exact f1146, by rw [eh]; exact V1138⟩))⟩) (by decide) (by decide)
theorem ef_9_1163 (m : MethodId) (x0 : Addr) (x1 : Addr) (x2 : Addr) (x3 : Addr) (x4 : Int32) : entryFrame m #[(.ref x0), (.ref x1), (.ref x2), (.ref x3), (.int x4)] 9 = mkF m 0 #[.val (.ref x0), .val (.ref x1), .val (.ref x2), .val (.ref x3), .val (.int x4), .unset, .unset, .unset, .unset] [] := by first | (simp [entryFrame, mkF, argsToLocals, Value.category]; done) | rfl
def Q9_1163 (Z : State) (a1 : Addr) (a2 : Addr) (a3 : Addr) (a4 : Addr) (p5 : Int32) (HA : Addr) (FA : Addr) (x0 : Addr) (x1 : Addr) (kH : ClassId) (kF : ClassId) (kO : ClassId) (kC : ClassId) (kT : ClassId) (h0 : Heap) (n0 : Nat) (v : Option Value) (h : Heap) (L : List Loc) : Prop := v = some (.int 1) ∧ Fr n0 L ∧ Keep h0 h [a1, a3, a4, HA, FA, x0, x1] ∧ own_st Z h a1 a2 a3 a4 HA FA x0 x1 kH kF kO kC
set_option maxRecDepth 65536 in
set_option maxHeartbeats 40000000 in
theorem rm9_1163 (l : Launch) (Z : State) (a0 : Array Value) (hw : ∀ d ∈ tables_1, d.before a0 Z = true) (ws : List Jvm.Cond) (a1 : Addr) (a2 : Addr) (a3 : Addr) (a4 : Addr) (p5 : Int32) (HA : Addr) (FA : Addr) (x0 : Addr) (x1 : Addr) (kH : ClassId) (kF : ClassId) (kO : ClassId) (kC : ClassId) (kT : ClassId) (h0 : Heap) (n0 : Nat) (Z0 : n0 ≤ h0.size) (O0 : Old Z n0 h0) (SA : Sta Z Z.heap "com/example/ripplematch/ripplematch/core/Agenda" "$assertionsDisabled" "Z" (.int (1 : Int32))) (E : Exa Z h0 a1 "com/example/ripplematch/ripplematch/core/Agenda") (F_heap : Fld Z h0 a1 "com/example/ripplematch/ripplematch/core/Agenda" "heap" "[Lcom/example/ripplematch/ripplematch/core/Activation;" (.ref HA)) (F_heapSize : Fld Z h0 a1 "com/example/ripplematch/ripplematch/core/Agenda" "heapSize" "I" (.int (0 : Int32))) (F_gone : Fld Z h0 a1 "com/example/ripplematch/ripplematch/core/Agenda" "gone" "I" (.int (0 : Int32))) (F_disordered : Fld Z h0 a1 "com/example/ripplematch/ripplematch/core/Agenda" "disordered" "Z" (.int (0 : Int32))) (F_fresh : Fld Z h0 a1 "com/example/ripplematch/ripplematch/core/Agenda" "fresh" "[Lcom/example/ripplematch/ripplematch/core/Activation;" (.ref FA)) (F_freshSize : Fld Z h0 a1 "com/example/ripplematch/ripplematch/core/Agenda" "freshSize" "I" (.int (1 : Int32))) (F_size : Fld Z h0 a1 "com/example/ripplematch/ripplematch/core/Agenda" "size" "I" (.int (1 : Int32))) (VH : Arv Z h0 HA kH (.object "com/example/ripplematch/ripplematch/core/Activation") (16 : Int32) [.null, .null, .null, .null, .null, .null, .null, .null, .null, .null, .null, .null, .null, .null, .null, .null] .null) (VF : Arv Z h0 FA kF (.object "com/example/ripplematch/ripplematch/core/Activation") (16 : Int32) [(.ref x0), .null, .null, .null, .null, .null, .null, .null, .null, .null, .null, .null, .null, .null, .null, .null] .null) (E_x0 : Exa Z h0 x0 "com/example/ripplematch/ripplematch/core/Activation") (P_x0 : Fld Z h0 x0 "com/example/ripplematch/ripplematch/core/Activation" "place" "I" (.int (-2 : Int32))) (E_x1 : Exa Z h0 x1 "com/example/ripplematch/ripplematch/core/Activation") (P_x1 : Fld Z h0 x1 "com/example/ripplematch/ripplematch/core/Activation" "place" "I" (.int (-1 : Int32))) (VO : Arv Z h0 a3 kO .boolean (2 : Int32) [(.int (1 : Int32)), (.int (0 : Int32))] (.int (0 : Int32))) (VC : Arv Z h0 a4 kC .int (1 : Int32) [(.int (1 : Int32))] (.int (0 : Int32))) (VT : Arv Z h0 a2 kT (.object "com/example/ripplematch/ripplematch/core/Activation") (2 : Int32) [(.ref x0), (.ref x1)] .null) (g_a1 : n0 ≤ a1) (g_a3 : n0 ≤ a3) (g_a4 : n0 ≤ a4) (g_HA : n0 ≤ HA) (g_FA : n0 ≤ FA) (g_x0 : n0 ≤ x0) (g_x1 : n0 ≤ x1) (n_a1_a2 : a1 ≠ a2) (n_a1_a3 : a1 ≠ a3) (n_a1_a4 : a1 ≠ a4) (n_a1_HA : a1 ≠ HA) (n_a1_FA : a1 ≠ FA) (n_a1_x0 : a1 ≠ x0) (n_a1_x1 : a1 ≠ x1) (n_a2_a3 : a2 ≠ a3) (n_a2_a4 : a2 ≠ a4) (n_a2_HA : a2 ≠ HA) (n_a2_FA : a2 ≠ FA) (n_a2_x0 : a2 ≠ x0) (n_a2_x1 : a2 ≠ x1) (n_a3_a4 : a3 ≠ a4) (n_a3_HA : a3 ≠ HA) (n_a3_FA : a3 ≠ FA) (n_a3_x0 : a3 ≠ x0) (n_a3_x1 : a3 ≠ x1) (n_a4_HA : a4 ≠ HA) (n_a4_FA : a4 ≠ FA) (n_a4_x0 : a4 ≠ x0) (n_a4_x1 : a4 ≠ x1) (n_HA_FA : HA ≠ FA) (n_HA_x0 : HA ≠ x0) (n_HA_x1 : HA ≠ x1) (n_FA_x0 : FA ≠ x0) (n_FA_x1 : FA ≠ x1) (n_x0_x1 : x0 ≠ x1) (OH : Ovr Z kH "com/example/ripplematch/ripplematch/core/Activation") (OF : Ovr Z kF "com/example/ripplematch/ripplematch/core/Activation") :
    MetFree l (⟨"com/example/ripplematch/ripplematch/core/AgendaIsEmptyPinLaw", "step", "(Lcom/example/ripplematch/ripplematch/core/Agenda;[Lcom/example/ripplematch/ripplematch/core/Activation;[Z[II)Z"⟩ : MethodName) (head1 (Jvm.Cond.code (⟨"com/example/ripplematch/ripplematch/core/AgendaIsEmptyPinLaw", "step", "(Lcom/example/ripplematch/ripplematch/core/Agenda;[Lcom/example/ripplematch/ripplematch/core/Activation;[Z[II)Z"⟩ : MethodName) method_3_code 9 (some .boolean) :: ws) ({ frames := 4, cells := 0, slots := 0, locals := 60 } : Room)) (fun a U => a = #[(.ref a1), (.ref a2), (.ref a3), (.ref a4), (.int p5)] ∧ Z.Warmed39 U.vm ∧ U.heap = h0) (fun _ _ _ _ _ => True) (fun _ U o U' => ∃ v L, o = .returned v ∧ Q9_1163 Z a1 a2 a3 a4 p5 HA FA x0 x1 kH kF kO kC kT h0 n0 v U'.heap L ∧ FrameEnd U o U' L ({ frames := 4, cells := 0, slots := 0, locals := 60 } : Room).cells ({ frames := 4, cells := 0, slots := 0, locals := 60 } : Room).slots) := by
  refine MetFree.of_bodySF (plainFor_of_name pn_4) hisR ?_
  intro p e s m args below meth c s₁ Bd hml0 hP hK
  obtain ⟨rfl, hZ, hh⟩ := hP
  have hx := Bd.exec
  have hby := Bd.bytes
  have hml : c.maxLocals = 9 := hml0
  have hown : s.vm.findClass "com/example/ripplematch/ripplematch/core/AgendaIsEmptyPinLaw" = some m.cls := findClass_of_methodNamed Bd.named
  have hnm := (name_of_methodNamed Bd.named Bd.method).1
  have hlocks : meth.locks = false := BodyLoose.notSynchronized Bd
  have X0 : Stand p l e ({ frames := 4, cells := 0, slots := 0, locals := 60 } : Room) s m #[(.ref a1), (.ref a2), (.ref a3), (.ref a4), (.int p5)] below meth c s₁ [] 0 0 := Stand.of_body Bd
  have e0 : s₁.heap = h0 := by rw [← hh, Bd.state]; rfl
  have N0 := Fr.nil n0
  show Goes p e below (s₁.setTop (entryFrame m #[(.ref a1), (.ref a2), (.ref a3), (.ref a4), (.int p5)] 9)) (Fin s (Q9_1163 Z a1 a2 a3 a4 p5 HA FA x0 x1 kH kF kO kC kT h0 n0) ({ frames := 4, cells := 0, slots := 0, locals := 60 } : Room).cells ({ frames := 4, cells := 0, slots := 0, locals := 60 } : Room).slots)
  refine Goes.of (fun t k => castTop (ef_9_1163 m a1 a2 a3 a4 p5) k) ?_
  have K0 : Keep h0 h0 [a1, a3, a4, HA, FA, x0, x1] := Keep.refl _ _
  show Goes p e below (s₁.setTop (mkF m 0 #[.val (.ref a1), .val (.ref a2), .val (.ref a3), .val (.ref a4), .val (.int p5), .unset, .unset, .unset, .unset] [])) _
  refine Goes.of (fun t k => XS.iload X0.here hx rfl (hb hby d9_0) rfl k) ?_
  show Goes p e below (s₁.setTop (mkF m 2 #[.val (.ref a1), .val (.ref a2), .val (.ref a3), .val (.ref a4), .val (.int p5), .unset, .unset, .unset, .unset] [(.int p5)])) _
  refine Goes.of (fun t k => XS.iconst X0.here hx rfl (hb hby d9_2) k) ?_
  show Goes p e below (s₁.setTop (mkF m 3 #[.val (.ref a1), .val (.ref a2), .val (.ref a3), .val (.ref a4), .val (.int p5), .unset, .unset, .unset, .unset] [(.int (1 : Int32)), (.int p5)])) _
  refine Goes.of (fun t k => XS.iand X0.here hx rfl (hb hby d9_3) rfl k) ?_
  show Goes p e below (s₁.setTop (mkF m 4 #[.val (.ref a1), .val (.ref a2), .val (.ref a3), .val (.ref a4), .val (.int p5), .unset, .unset, .unset, .unset] [(.int (p5 &&& (1 : Int32)))])) _
  refine Goes.of (fun t k => XS.istore X0.here hx rfl (hb hby d9_4) rfl (l' := #[.val (.ref a1), .val (.ref a2), .val (.ref a3), .val (.ref a4), .val (.int p5), .val (.int (p5 &&& (1 : Int32))), .unset, .unset, .unset]) rfl k) ?_
  show Goes p e below (s₁.setTop (mkF m 6 #[.val (.ref a1), .val (.ref a2), .val (.ref a3), .val (.ref a4), .val (.int p5), .val (.int (p5 &&& (1 : Int32))), .unset, .unset, .unset] [])) _
  rcases own_and1 p5 with hi | hi
  · rw [hi]
    show Goes p e below (s₁.setTop (mkF m 6 #[.val (.ref a1), .val (.ref a2), .val (.ref a3), .val (.ref a4), .val (.int p5), .val (.int (0 : Int32)), .unset, .unset, .unset] [])) _
    refine Goes.of (fun t k => XS.iload X0.here hx rfl (hb hby d9_6) rfl k) ?_
    show Goes p e below (s₁.setTop (mkF m 8 #[.val (.ref a1), .val (.ref a2), .val (.ref a3), .val (.ref a4), .val (.int p5), .val (.int (0 : Int32)), .unset, .unset, .unset] [(.int p5)])) _
    refine Goes.of (fun t k => XS.iconst X0.here hx rfl (hb hby d9_8) k) ?_
    show Goes p e below (s₁.setTop (mkF m 9 #[.val (.ref a1), .val (.ref a2), .val (.ref a3), .val (.ref a4), .val (.int p5), .val (.int (0 : Int32)), .unset, .unset, .unset] [(.int (2 : Int32)), (.int p5)])) _
    refine Goes.of (fun t k => XS.iand X0.here hx rfl (hb hby d9_9) rfl k) ?_
    show Goes p e below (s₁.setTop (mkF m 10 #[.val (.ref a1), .val (.ref a2), .val (.ref a3), .val (.ref a4), .val (.int p5), .val (.int (0 : Int32)), .unset, .unset, .unset] [(.int (p5 &&& (2 : Int32)))])) _
    by_cases hc10_1164 : (p5 &&& (2 : Int32)) = (0 : Int32)
    · refine Goes.of (fun t k => XS.ifYes X0.here hx rfl (pc0 := 10) (pc' := 82) rfl (hb hby d9_10) rfl ((if0 _ _).trans (teq hc10_1164).1) (by decide) (by decide) k) ?_
      show Goes p e below (s₁.setTop (mkF m 82 #[.val (.ref a1), .val (.ref a2), .val (.ref a3), .val (.ref a4), .val (.int p5), .val (.int (0 : Int32)), .unset, .unset, .unset] [])) _
      refine Goes.of (fun t k => XS.aloadN X0.here hx rfl (hb hby d9_82) rfl rfl k) ?_
      show Goes p e below (s₁.setTop (mkF m 83 #[.val (.ref a1), .val (.ref a2), .val (.ref a3), .val (.ref a4), .val (.int p5), .val (.int (0 : Int32)), .unset, .unset, .unset] [(.ref a3)])) _
      refine Goes.of (fun t k => XS.iload X0.here hx rfl (hb hby d9_83) rfl k) ?_
      have Vc1165 := VO
      obtain ⟨clc1165, Arc1165, qc1165, Sc1165, Nc1165, Hc1165, Gc1165⟩ := Vc1165
      have hin1166 : ¬ ((0 : Int32) < 0 ∨ clc1165.slots.size ≤ ((0 : Int32)).toNatClampNeg) := inb_of Sc1165 ⟨by decide, by decide⟩
      have hat1167 : clc1165.slots[((0 : Int32)).toNatClampNeg]? = some (.int (1 : Int32)) := Hc1165.at hin1166 rfl
      refine Goes.of (fun t k => X0.baloadBooleans hx (j := (0 : Int32)) (v := (.int (1 : Int32))) (by rw [e0]; exact Arc1165.1) (State.isArrayOf_alike hZ.alike Arc1165.2.1) Arc1165.2.2 hin1166 hat1167 (g := (mkF m 85 #[.val (.ref a1), .val (.ref a2), .val (.ref a3), .val (.ref a4), .val (.int p5), .val (.int (0 : Int32)), .unset, .unset, .unset] [(.int (0 : Int32)), (.ref a3)])) rfl rfl (hb hby d9_85) _ k) ?_
      show Goes p e below (s₁.setTop (mkF m 86 #[.val (.ref a1), .val (.ref a2), .val (.ref a3), .val (.ref a4), .val (.int p5), .val (.int (0 : Int32)), .unset, .unset, .unset] [(.int (1 : Int32))])) _
      refine Goes.of (fun t k => XS.ifNo X0.here hx rfl (hb hby d9_86) rfl ((if0 _ _).trans (feq (by decide)).1) k) ?_
      show Goes p e below (s₁.setTop (mkF m 89 #[.val (.ref a1), .val (.ref a2), .val (.ref a3), .val (.ref a4), .val (.int p5), .val (.int (0 : Int32)), .unset, .unset, .unset] [])) _
      refine Goes.of (fun t k => XS.aloadN X0.here hx rfl (hb hby d9_89) rfl rfl k) ?_
      show Goes p e below (s₁.setTop (mkF m 90 #[.val (.ref a1), .val (.ref a2), .val (.ref a3), .val (.ref a4), .val (.int p5), .val (.int (0 : Int32)), .unset, .unset, .unset] [(.ref a1)])) _
      refine Goes.of (fun t k => XS.aloadN X0.here hx rfl (hb hby d9_90) rfl rfl k) ?_
      show Goes p e below (s₁.setTop (mkF m 91 #[.val (.ref a1), .val (.ref a2), .val (.ref a3), .val (.ref a4), .val (.int p5), .val (.int (0 : Int32)), .unset, .unset, .unset] [(.ref a2), (.ref a1)])) _
      refine Goes.of (fun t k => XS.iload X0.here hx rfl (hb hby d9_91) rfl k) ?_
      have Vc1168 := VT
      obtain ⟨clc1168, Arc1168, qc1168, Sc1168, Nc1168, Hc1168, Gc1168⟩ := Vc1168
      have hin1169 : ¬ ((0 : Int32) < 0 ∨ clc1168.slots.size ≤ ((0 : Int32)).toNatClampNeg) := inb_of Sc1168 ⟨by decide, by decide⟩
      have hat1170 : clc1168.slots[((0 : Int32)).toNatClampNeg]? = some (.ref x0) := Hc1168.at hin1169 rfl
      refine Goes.of (fun t k => X0.aaload hx (j := (0 : Int32)) (v := (.ref x0)) (by rw [e0]; exact Arc1168.1) (State.isArrayOf_alike hZ.alike Arc1168.2.1) rfl Arc1168.2.2 hin1169 hat1170 (g := (mkF m 93 #[.val (.ref a1), .val (.ref a2), .val (.ref a3), .val (.ref a4), .val (.int p5), .val (.int (0 : Int32)), .unset, .unset, .unset] [(.int (0 : Int32)), (.ref a2), (.ref a1)])) rfl rfl (hb hby d9_93) _ k) ?_
      obtain ⟨cq1171, kq1171, q1171a, q1171b, q1171c⟩ := isOf hZ e0 E
      obtain ⟨_, _, ⟨T1171, L1171, k1171, n1171⟩, -, X1171, ⟨Lc1171, hQ1171, l1171, y1171, z1171⟩, st1171⟩ := X0.virtualBack hx (y := (⟨"com/example/ripplematch/ripplematch/core/Agenda", "remove", "(Lcom/example/ripplematch/ripplematch/core/Activation;)V"⟩ : MethodName)) (z := (⟨"com/example/ripplematch/ripplematch/core/Agenda", "remove", "(Lcom/example/ripplematch/ripplematch/core/Activation;)V"⟩ : MethodName)) hown (mvT hZ (wd hw 85 rfl)) (mvT hZ (wd hw 86 rfl)) (notFace_of_selects (args := #[]) (mvT hZ (wd hw 88 rfl))) (mvT hZ (wd hw 88 rfl)) (mvT hZ (wd hw 87 rfl)) (by decide) (backOf (W := 0) (rm11 l Z a0 hw [] a1 x0 HA FA _ _ h0 n0 Z0 O0 SA E F_heap F_heapSize F_gone F_disordered F_fresh F_freshSize F_size VH VF E_x0 P_x0 g_a1 g_HA g_FA g_x0 n_a1_HA n_a1_FA n_a1_x0 n_HA_FA n_HA_x0 n_FA_x0 OH OF) hZ (wd hw 89 rfl) (wd hw 2 rfl) (by decide) (by decide)) q1171a q1171c (g := (mkF m 94 #[.val (.ref a1), .val (.ref a2), .val (.ref a3), .val (.ref a4), .val (.int p5), .val (.int (0 : Int32)), .unset, .unset, .unset] [(.ref x0), (.ref a1)])) rfl (by rw [hml]; rfl) (Steps.refl _) (argsL := [(.ref x0)]) (rest := []) (lenOf pd_5 rfl) rfl (by show 2 * 0 + _ ≤ _; exact Nat.le_of_eq rfl) (hb hby d9_94) (fun _ _ => ⟨rfl, e0, (by decide : 0 + 0 ≤ _), (by decide : 0 + 0 ≤ _)⟩)
      dsimp only [Pt.U, Pt.locs, Pt.cells, Pt.slots] at X1171 l1171 y1171 z1171 st1171 hQ1171
      subst l1171 y1171 z1171
      obtain ⟨rfl, N1171q, K1171, E_1171, F_heap_1171, F_heapSize_1171, F_gone_1171, F_disordered_1171, F_fresh_1171, F_freshSize_1171, F_size_1171, VH_1171, VF_1171, E_x0_1171, P_x0_1171⟩ := hQ1171
      have N1171 := Fr.app N0 N1171q
      have K1172 : Keep h0 T1171.heap [a1, a3, a4, HA, FA, x0, x1] := K0.trans K1171 (allS (Or.inl (List.mem_of_getElem? (i := 0) rfl)) (allS (Or.inl (List.mem_of_getElem? (i := 4) rfl)) (allS (Or.inl (List.mem_of_getElem? (i := 5) rfl)) all0)))
      have z1173 : n0 ≤ T1171.heap.size := Nat.le_trans Z0 K1171.1
      have f1174 := E.keep K1171
      have f1182 := VH.keep K1171 (ninS (Ne.symm n_a1_HA) (ninS n_HA_FA (ninS n_HA_x0 nin0)))
      have f1184 := E_x0.keep K1171
      have f1186 := E_x1.keep K1171
      have f1187 := P_x1.keep K1171 (ninS (Ne.symm n_a1_x1) (ninS (Ne.symm n_FA_x1) (ninS (Ne.symm n_x0_x1) nin0)))
      have f1188 := VO.keep K1171 (ninS (Ne.symm n_a1_a3) (ninS n_a3_FA (ninS n_a3_x0 nin0)))
      have f1189 := VC.keep K1171 (ninS (Ne.symm n_a1_a4) (ninS n_a4_FA (ninS n_a4_x0 nin0)))
      have f1190 := O0.keep K1171 (allS g_a1 (allS g_FA (allS g_x0 all0)))
      have f1191 := VT.keep K1171 (ninS (Ne.symm n_a1_a2) (ninS n_a2_FA (ninS n_a2_x0 nin0)))
      refine Goes.of (fun t k => st1171.trans k) ?_
      show Goes p e below (T1171.setTop (mkF m 97 #[.val (.ref a1), .val (.ref a2), .val (.ref a3), .val (.ref a4), .val (.int p5), .val (.int (0 : Int32)), .unset, .unset, .unset] [])) _
      refine Goes.of (fun t k => XS.aloadN X1171.here hx rfl (hb hby d9_97) rfl rfl k) ?_
      show Goes p e below (T1171.setTop (mkF m 98 #[.val (.ref a1), .val (.ref a2), .val (.ref a3), .val (.ref a4), .val (.int p5), .val (.int (0 : Int32)), .unset, .unset, .unset] [(.ref a3)])) _
      refine Goes.of (fun t k => XS.iload X1171.here hx rfl (hb hby d9_98) rfl k) ?_
      show Goes p e below (T1171.setTop (mkF m 100 #[.val (.ref a1), .val (.ref a2), .val (.ref a3), .val (.ref a4), .val (.int p5), .val (.int (0 : Int32)), .unset, .unset, .unset] [(.int (0 : Int32)), (.ref a3)])) _
      refine Goes.of (fun t k => XS.iconst X1171.here hx rfl (hb hby d9_100) k) ?_
      have Vc1192 := f1188
      obtain ⟨clc1192, Arc1192, qc1192, Sc1192, Nc1192, Hc1192, Gc1192⟩ := Vc1192
      have hin1193 : ¬ ((0 : Int32) < 0 ∨ clc1192.slots.size ≤ ((0 : Int32)).toNatClampNeg) := inb_of Sc1192 ⟨by decide, by decide⟩
      obtain ⟨T1194, h1194, X1194, e1194, W1194, st1194⟩ := stZ X1171 hx hZ rfl Arc1192 (j := (0 : Int32)) hin1193 (g := (mkF m 101 #[.val (.ref a1), .val (.ref a2), .val (.ref a3), .val (.ref a4), .val (.int p5), .val (.int (0 : Int32)), .unset, .unset, .unset] [(.int (0 : Int32)), (.int (0 : Int32)), (.ref a3)])) rfl rfl (hb hby d9_101)
      have V1194 : Arv Z h1194 a3 kO .boolean (2 : Int32) [(.int (nar .boolean (0 : Int32))), (.int (0 : Int32))] (.int (0 : Int32)) := Arv.set Arc1192 qc1192 Sc1192 Nc1192 Hc1192 Gc1192 (fits_nar_bool _) W1194 0 rfl (Nat.le_of_ble_eq_true rfl)
      have K1195 : Keep h0 h1194 [a1, a3, a4, HA, FA, x0, x1] := K1172.wr W1194 (Or.inl (List.mem_of_getElem? (i := 1) rfl))
      have z1196 : n0 ≤ h1194.size := Nat.le_trans z1173 (Keep.of_wr W1194).1
      have f1197 := E_1171.wr W1194
      have f1198 := VH_1171.other W1194 (Ne.symm n_a3_HA)
      have f1199 := E_x0_1171.wr W1194
      have f1200 := f1186.wr W1194
      have f1201 := f1187.other W1194 (Or.inl (Ne.symm n_a3_x1))
      have f1203 := f1189.other W1194 (Ne.symm n_a3_a4)
      have f1204 := f1190.wr W1194 g_a3
      have f1205 := f1191.other W1194 n_a2_a3
      have f1206 := F_heap_1171.other W1194 (Or.inl n_a1_a3)
      have f1207 := F_heapSize_1171.other W1194 (Or.inl n_a1_a3)
      have f1208 := F_gone_1171.other W1194 (Or.inl n_a1_a3)
      have f1209 := F_disordered_1171.other W1194 (Or.inl n_a1_a3)
      have f1210 := F_fresh_1171.other W1194 (Or.inl n_a1_a3)
      have f1211 := F_freshSize_1171.other W1194 (Or.inl n_a1_a3)
      have f1212 := F_size_1171.other W1194 (Or.inl n_a1_a3)
      have f1213 := VF_1171.other W1194 (Ne.symm n_a3_FA)
      have f1214 := P_x0_1171.other W1194 (Or.inl (Ne.symm n_a3_x0))
      have N1194 := Fr.snoc X1194 N1171 g_a3
      refine Goes.of st1194 ?_
      show Goes p e below (T1194.setTop (mkF m 102 #[.val (.ref a1), .val (.ref a2), .val (.ref a3), .val (.ref a4), .val (.int p5), .val (.int (0 : Int32)), .unset, .unset, .unset] [])) _
      refine Goes.of (fun t k => XS.aloadN X1194.here hx rfl (hb hby d9_102) rfl rfl k) ?_
      show Goes p e below (T1194.setTop (mkF m 103 #[.val (.ref a1), .val (.ref a2), .val (.ref a3), .val (.ref a4), .val (.int p5), .val (.int (0 : Int32)), .unset, .unset, .unset] [(.ref a4)])) _
      refine Goes.of (fun t k => XS.iconst X1194.here hx rfl (hb hby d9_103) k) ?_
      show Goes p e below (T1194.setTop (mkF m 104 #[.val (.ref a1), .val (.ref a2), .val (.ref a3), .val (.ref a4), .val (.int p5), .val (.int (0 : Int32)), .unset, .unset, .unset] [(.int (0 : Int32)), (.ref a4)])) _
      refine Goes.of (fun t k => XS.aloadN X1194.here hx rfl (hb hby d9_104) rfl rfl k) ?_
      show Goes p e below (T1194.setTop (mkF m 105 #[.val (.ref a1), .val (.ref a2), .val (.ref a3), .val (.ref a4), .val (.int p5), .val (.int (0 : Int32)), .unset, .unset, .unset] [(.ref a4), (.int (0 : Int32)), (.ref a4)])) _
      refine Goes.of (fun t k => XS.iconst X1194.here hx rfl (hb hby d9_105) k) ?_
      have Vc1215 := f1203
      obtain ⟨clc1215, Arc1215, qc1215, Sc1215, Nc1215, Hc1215, Gc1215⟩ := Vc1215
      have hin1216 : ¬ ((0 : Int32) < 0 ∨ clc1215.slots.size ≤ ((0 : Int32)).toNatClampNeg) := inb_of Sc1215 ⟨by decide, by decide⟩
      have hat1217 : clc1215.slots[((0 : Int32)).toNatClampNeg]? = some (.int (1 : Int32)) := Hc1215.at hin1216 rfl
      refine Goes.of (fun t k => X1194.iaload hx (j := (0 : Int32)) (v := (.int (1 : Int32))) (by rw [e1194]; exact Arc1215.1) (State.isArrayOf_alike hZ.alike Arc1215.2.1) Arc1215.2.2 hin1216 hat1217 (g := (mkF m 106 #[.val (.ref a1), .val (.ref a2), .val (.ref a3), .val (.ref a4), .val (.int p5), .val (.int (0 : Int32)), .unset, .unset, .unset] [(.int (0 : Int32)), (.ref a4), (.int (0 : Int32)), (.ref a4)])) rfl rfl (hb hby d9_106) _ k) ?_
      show Goes p e below (T1194.setTop (mkF m 107 #[.val (.ref a1), .val (.ref a2), .val (.ref a3), .val (.ref a4), .val (.int p5), .val (.int (0 : Int32)), .unset, .unset, .unset] [(.int (1 : Int32)), (.int (0 : Int32)), (.ref a4)])) _
      refine Goes.of (fun t k => XS.iconst X1194.here hx rfl (hb hby d9_107) k) ?_
      show Goes p e below (T1194.setTop (mkF m 108 #[.val (.ref a1), .val (.ref a2), .val (.ref a3), .val (.ref a4), .val (.int p5), .val (.int (0 : Int32)), .unset, .unset, .unset] [(.int (1 : Int32)), (.int (1 : Int32)), (.int (0 : Int32)), (.ref a4)])) _
      refine Goes.of (fun t k => XS.isub X1194.here hx rfl (hb hby d9_108) rfl k) ?_
      have Vc1218 := f1203
      obtain ⟨clc1218, Arc1218, qc1218, Sc1218, Nc1218, Hc1218, Gc1218⟩ := Vc1218
      have hin1219 : ¬ ((0 : Int32) < 0 ∨ clc1218.slots.size ≤ ((0 : Int32)).toNatClampNeg) := inb_of Sc1218 ⟨by decide, by decide⟩
      obtain ⟨T1220, h1220, X1220, e1220, W1220, st1220⟩ := stI X1194 hx hZ e1194 Arc1218 (j := (0 : Int32)) hin1219 (g := (mkF m 109 #[.val (.ref a1), .val (.ref a2), .val (.ref a3), .val (.ref a4), .val (.int p5), .val (.int (0 : Int32)), .unset, .unset, .unset] [(.int (0 : Int32)), (.int (0 : Int32)), (.ref a4)])) rfl rfl (hb hby d9_109)
      have V1220 : Arv Z h1220 a4 kC .int (1 : Int32) [(.int (0 : Int32))] (.int (0 : Int32)) := Arv.set Arc1218 qc1218 Sc1218 Nc1218 Hc1218 Gc1218 rfl W1220 0 rfl (Nat.le_of_ble_eq_true rfl)
      have K1221 : Keep h0 h1220 [a1, a3, a4, HA, FA, x0, x1] := K1195.wr W1220 (Or.inl (List.mem_of_getElem? (i := 2) rfl))
      have z1222 : n0 ≤ h1220.size := Nat.le_trans z1196 (Keep.of_wr W1220).1
      have f1223 := f1197.wr W1220
      have f1224 := f1198.other W1220 (Ne.symm n_a4_HA)
      have f1225 := f1199.wr W1220
      have f1226 := f1200.wr W1220
      have f1227 := f1201.other W1220 (Or.inl (Ne.symm n_a4_x1))
      have f1228 := V1194.other W1220 n_a3_a4
      have f1230 := f1204.wr W1220 g_a4
      have f1231 := f1205.other W1220 n_a2_a4
      have f1232 := f1206.other W1220 (Or.inl n_a1_a4)
      have f1233 := f1207.other W1220 (Or.inl n_a1_a4)
      have f1234 := f1208.other W1220 (Or.inl n_a1_a4)
      have f1235 := f1209.other W1220 (Or.inl n_a1_a4)
      have f1236 := f1210.other W1220 (Or.inl n_a1_a4)
      have f1237 := f1211.other W1220 (Or.inl n_a1_a4)
      have f1238 := f1212.other W1220 (Or.inl n_a1_a4)
      have f1239 := f1213.other W1220 (Ne.symm n_a4_FA)
      have f1240 := f1214.other W1220 (Or.inl (Ne.symm n_a4_x0))
      have N1220 := Fr.snoc X1220 N1194 g_a4
      refine Goes.of st1220 ?_
      show Goes p e below (T1220.setTop (mkF m 110 #[.val (.ref a1), .val (.ref a2), .val (.ref a3), .val (.ref a4), .val (.int p5), .val (.int (0 : Int32)), .unset, .unset, .unset] [])) _
      refine Goes.of (fun t k => XS.goto X1220.here hx rfl (pc0 := 110) (pc' := 134) rfl (hb hby d9_110) (by decide) (by decide) k) ?_
      show Goes p e below (T1220.setTop (mkF m 134 #[.val (.ref a1), .val (.ref a2), .val (.ref a3), .val (.ref a4), .val (.int p5), .val (.int (0 : Int32)), .unset, .unset, .unset] [])) _
      refine Goes.of (fun t k => XS.aloadN X1220.here hx rfl (hb hby d9_134) rfl rfl k) ?_
      obtain ⟨cq1241, kq1241, q1241a, q1241b, q1241c⟩ := isOf hZ e1220 f1223
      obtain ⟨_, _, ⟨T1241, L1241, k1241, n1241⟩, -, X1241, ⟨Lc1241, hQ1241, l1241, y1241, z1241⟩, st1241⟩ := X1220.virtualBack hx (y := (⟨"com/example/ripplematch/ripplematch/core/Agenda", "isEmpty", "()Z"⟩ : MethodName)) (z := (⟨"com/example/ripplematch/ripplematch/core/Agenda", "isEmpty", "()Z"⟩ : MethodName)) hown (mvT hZ (wd hw 64 rfl)) (mvT hZ (wd hw 65 rfl)) (notFace_of_selects (args := #[]) (mvT hZ (wd hw 67 rfl))) (mvT hZ (wd hw 67 rfl)) (mvT hZ (wd hw 66 rfl)) (by decide) (backOf (W := 0) (rm8 l Z a0 hw [] a1 (0 : Int32) h1220 n0 z1222 f1238) hZ (wd hw 68 rfl) (wd hw 2 rfl) (by decide) (by decide)) q1241a q1241c (g := (mkF m 135 #[.val (.ref a1), .val (.ref a2), .val (.ref a3), .val (.ref a4), .val (.int p5), .val (.int (0 : Int32)), .unset, .unset, .unset] [(.ref a1)])) rfl (by rw [hml]; rfl) (Steps.refl _) (argsL := []) (rest := []) (lenOf pd_6 rfl) rfl (by show 2 * 0 + _ ≤ _; exact Nat.le_of_eq rfl) (hb hby d9_135) (fun _ _ => ⟨rfl, e1220, (by decide : 0 + 0 ≤ _), (by decide : 0 + 0 ≤ _)⟩)
      dsimp only [Pt.U, Pt.locs, Pt.cells, Pt.slots] at X1241 l1241 y1241 z1241 st1241 hQ1241
      subst l1241 y1241 z1241
      obtain ⟨rfl, N1241q, e1241⟩ := hQ1241
      have N1241 := Fr.app N1220 N1241q
      refine Goes.of (fun t k => st1241.trans k) ?_
      show Goes p e below (T1241.setTop (mkF m 138 #[.val (.ref a1), .val (.ref a2), .val (.ref a3), .val (.ref a4), .val (.int p5), .val (.int (0 : Int32)), .unset, .unset, .unset] [(.int (1 : Int32))])) _
      refine Goes.of (fun t k => XS.aloadN X1241.here hx rfl (hb hby d9_138) rfl rfl k) ?_
      show Goes p e below (T1241.setTop (mkF m 139 #[.val (.ref a1), .val (.ref a2), .val (.ref a3), .val (.ref a4), .val (.int p5), .val (.int (0 : Int32)), .unset, .unset, .unset] [(.ref a4), (.int (1 : Int32))])) _
      refine Goes.of (fun t k => XS.iconst X1241.here hx rfl (hb hby d9_139) k) ?_
      have Vc1242 := V1220
      obtain ⟨clc1242, Arc1242, qc1242, Sc1242, Nc1242, Hc1242, Gc1242⟩ := Vc1242
      have hin1243 : ¬ ((0 : Int32) < 0 ∨ clc1242.slots.size ≤ ((0 : Int32)).toNatClampNeg) := inb_of Sc1242 ⟨by decide, by decide⟩
      have hat1244 : clc1242.slots[((0 : Int32)).toNatClampNeg]? = some (.int (0 : Int32)) := Hc1242.at hin1243 rfl
      refine Goes.of (fun t k => X1241.iaload hx (j := (0 : Int32)) (v := (.int (0 : Int32))) (by rw [e1241]; exact Arc1242.1) (State.isArrayOf_alike hZ.alike Arc1242.2.1) Arc1242.2.2 hin1243 hat1244 (g := (mkF m 140 #[.val (.ref a1), .val (.ref a2), .val (.ref a3), .val (.ref a4), .val (.int p5), .val (.int (0 : Int32)), .unset, .unset, .unset] [(.int (0 : Int32)), (.ref a4), (.int (1 : Int32))])) rfl rfl (hb hby d9_140) _ k) ?_
      show Goes p e below (T1241.setTop (mkF m 141 #[.val (.ref a1), .val (.ref a2), .val (.ref a3), .val (.ref a4), .val (.int p5), .val (.int (0 : Int32)), .unset, .unset, .unset] [(.int (0 : Int32)), (.int (1 : Int32))])) _
      refine Goes.of (fun t k => XS.ifNo X1241.here hx rfl (hb hby d9_141) rfl ((if0 _ _).trans (teq (by decide)).2) k) ?_
      show Goes p e below (T1241.setTop (mkF m 144 #[.val (.ref a1), .val (.ref a2), .val (.ref a3), .val (.ref a4), .val (.int p5), .val (.int (0 : Int32)), .unset, .unset, .unset] [(.int (1 : Int32))])) _
      refine Goes.of (fun t k => XS.iconst X1241.here hx rfl (hb hby d9_144) k) ?_
      show Goes p e below (T1241.setTop (mkF m 145 #[.val (.ref a1), .val (.ref a2), .val (.ref a3), .val (.ref a4), .val (.int p5), .val (.int (0 : Int32)), .unset, .unset, .unset] [(.int (1 : Int32)), (.int (1 : Int32))])) _
      refine Goes.of (fun t k => XS.goto X1241.here hx rfl (pc0 := 145) (pc' := 149) rfl (hb hby d9_145) (by decide) (by decide) k) ?_
      show Goes p e below (T1241.setTop (mkF m 149 #[.val (.ref a1), .val (.ref a2), .val (.ref a3), .val (.ref a4), .val (.int p5), .val (.int (0 : Int32)), .unset, .unset, .unset] [(.int (1 : Int32)), (.int (1 : Int32))])) _
      refine Goes.of (fun t k => XS.icmpNo X1241.here hx rfl (hb hby d9_149) rfl (teq (by decide)).2 k) ?_
      show Goes p e below (T1241.setTop (mkF m 152 #[.val (.ref a1), .val (.ref a2), .val (.ref a3), .val (.ref a4), .val (.int p5), .val (.int (0 : Int32)), .unset, .unset, .unset] [])) _
      refine Goes.of (fun t k => XS.iconst X1241.here hx rfl (hb hby d9_152) k) ?_
      show Goes p e below (T1241.setTop (mkF m 153 #[.val (.ref a1), .val (.ref a2), .val (.ref a3), .val (.ref a4), .val (.int p5), .val (.int (0 : Int32)), .unset, .unset, .unset] [(.int (1 : Int32))])) _
      refine Goes.of (fun t k => XS.goto X1241.here hx rfl (pc0 := 153) (pc' := 157) rfl (hb hby d9_153) (by decide) (by decide) k) ?_
      show Goes p e below (T1241.setTop (mkF m 157 #[.val (.ref a1), .val (.ref a2), .val (.ref a3), .val (.ref a4), .val (.int p5), .val (.int (0 : Int32)), .unset, .unset, .unset] [(.int (1 : Int32))])) _
      have eh : T1241.heap = h1220 := e1241
      exact Goes.retN (t := .boolean) X1241 hx Bd.returns (by simp) hlocks (hb hby d9_157) (⟨rfl, N1241, by rw [eh]; exact K1221, Or.inl ⟨by rw [eh]; exact f1223, by rw [eh]; exact f1232, by rw [eh]; exact f1233, by rw [eh]; exact f1234, by rw [eh]; exact f1235, by rw [eh]; exact f1236, by rw [eh]; exact f1237, by rw [eh]; exact f1238, by rw [eh]; exact f1224, by rw [eh]; exact f1239, by rw [eh]; exact f1225, by rw [eh]; exact f1240, by rw [eh]; exact f1226, by rw [eh]; exact f1227, by rw [eh]; exact f1228, by rw [eh]; exact V1220⟩⟩) (by decide) (by decide)
    · refine Goes.of (fun t k => XS.ifNo X0.here hx rfl (hb hby d9_10) rfl ((if0 _ _).trans (feq hc10_1164).1) k) ?_
      show Goes p e below (s₁.setTop (mkF m 13 #[.val (.ref a1), .val (.ref a2), .val (.ref a3), .val (.ref a4), .val (.int p5), .val (.int (0 : Int32)), .unset, .unset, .unset] [])) _
      refine Goes.of (fun t k => XS.aloadN X0.here hx rfl (hb hby d9_13) rfl rfl k) ?_
      show Goes p e below (s₁.setTop (mkF m 14 #[.val (.ref a1), .val (.ref a2), .val (.ref a3), .val (.ref a4), .val (.int p5), .val (.int (0 : Int32)), .unset, .unset, .unset] [(.ref a4)])) _
      refine Goes.of (fun t k => XS.iconst X0.here hx rfl (hb hby d9_14) k) ?_
      have Vc1245 := VC
      obtain ⟨clc1245, Arc1245, qc1245, Sc1245, Nc1245, Hc1245, Gc1245⟩ := Vc1245
      have hin1246 : ¬ ((0 : Int32) < 0 ∨ clc1245.slots.size ≤ ((0 : Int32)).toNatClampNeg) := inb_of Sc1245 ⟨by decide, by decide⟩
      have hat1247 : clc1245.slots[((0 : Int32)).toNatClampNeg]? = some (.int (1 : Int32)) := Hc1245.at hin1246 rfl
      refine Goes.of (fun t k => X0.iaload hx (j := (0 : Int32)) (v := (.int (1 : Int32))) (by rw [e0]; exact Arc1245.1) (State.isArrayOf_alike hZ.alike Arc1245.2.1) Arc1245.2.2 hin1246 hat1247 (g := (mkF m 15 #[.val (.ref a1), .val (.ref a2), .val (.ref a3), .val (.ref a4), .val (.int p5), .val (.int (0 : Int32)), .unset, .unset, .unset] [(.int (0 : Int32)), (.ref a4)])) rfl rfl (hb hby d9_15) _ k) ?_
      show Goes p e below (s₁.setTop (mkF m 16 #[.val (.ref a1), .val (.ref a2), .val (.ref a3), .val (.ref a4), .val (.int p5), .val (.int (0 : Int32)), .unset, .unset, .unset] [(.int (1 : Int32))])) _
      refine Goes.of (fun t k => XS.iconst X0.here hx rfl (hb hby d9_16) k) ?_
      show Goes p e below (s₁.setTop (mkF m 17 #[.val (.ref a1), .val (.ref a2), .val (.ref a3), .val (.ref a4), .val (.int p5), .val (.int (0 : Int32)), .unset, .unset, .unset] [(.int (1 : Int32)), (.int (1 : Int32))])) _
      refine Goes.of (fun t k => XS.icmpNo X0.here hx rfl (hb hby d9_17) rfl (teq (by decide)).2 k) ?_
      show Goes p e below (s₁.setTop (mkF m 20 #[.val (.ref a1), .val (.ref a2), .val (.ref a3), .val (.ref a4), .val (.int p5), .val (.int (0 : Int32)), .unset, .unset, .unset] [])) _
      refine Goes.of (fun t k => XS.aloadN X0.here hx rfl (hb hby d9_20) rfl rfl k) ?_
      show Goes p e below (s₁.setTop (mkF m 21 #[.val (.ref a1), .val (.ref a2), .val (.ref a3), .val (.ref a4), .val (.int p5), .val (.int (0 : Int32)), .unset, .unset, .unset] [(.ref a3)])) _
      refine Goes.of (fun t k => XS.iconst X0.here hx rfl (hb hby d9_21) k) ?_
      have Vc1248 := VO
      obtain ⟨clc1248, Arc1248, qc1248, Sc1248, Nc1248, Hc1248, Gc1248⟩ := Vc1248
      have hin1249 : ¬ ((0 : Int32) < 0 ∨ clc1248.slots.size ≤ ((0 : Int32)).toNatClampNeg) := inb_of Sc1248 ⟨by decide, by decide⟩
      have hat1250 : clc1248.slots[((0 : Int32)).toNatClampNeg]? = some (.int (1 : Int32)) := Hc1248.at hin1249 rfl
      refine Goes.of (fun t k => X0.baloadBooleans hx (j := (0 : Int32)) (v := (.int (1 : Int32))) (by rw [e0]; exact Arc1248.1) (State.isArrayOf_alike hZ.alike Arc1248.2.1) Arc1248.2.2 hin1249 hat1250 (g := (mkF m 22 #[.val (.ref a1), .val (.ref a2), .val (.ref a3), .val (.ref a4), .val (.int p5), .val (.int (0 : Int32)), .unset, .unset, .unset] [(.int (0 : Int32)), (.ref a3)])) rfl rfl (hb hby d9_22) _ k) ?_
      show Goes p e below (s₁.setTop (mkF m 23 #[.val (.ref a1), .val (.ref a2), .val (.ref a3), .val (.ref a4), .val (.int p5), .val (.int (0 : Int32)), .unset, .unset, .unset] [(.int (1 : Int32))])) _
      refine Goes.of (fun t k => XS.ifNo X0.here hx rfl (hb hby d9_23) rfl ((if0 _ _).trans (feq (by decide)).1) k) ?_
      show Goes p e below (s₁.setTop (mkF m 26 #[.val (.ref a1), .val (.ref a2), .val (.ref a3), .val (.ref a4), .val (.int p5), .val (.int (0 : Int32)), .unset, .unset, .unset] [])) _
      refine Goes.of (fun t k => XS.iconst X0.here hx rfl (hb hby d9_26) k) ?_
      show Goes p e below (s₁.setTop (mkF m 27 #[.val (.ref a1), .val (.ref a2), .val (.ref a3), .val (.ref a4), .val (.int p5), .val (.int (0 : Int32)), .unset, .unset, .unset] [(.int (0 : Int32))])) _
      refine Goes.of (fun t k => XS.goto X0.here hx rfl (pc0 := 27) (pc' := 31) rfl (hb hby d9_27) (by decide) (by decide) k) ?_
      show Goes p e below (s₁.setTop (mkF m 31 #[.val (.ref a1), .val (.ref a2), .val (.ref a3), .val (.ref a4), .val (.int p5), .val (.int (0 : Int32)), .unset, .unset, .unset] [(.int (0 : Int32))])) _
      refine Goes.of (fun t k => XS.istore X0.here hx rfl (hb hby d9_31) rfl (l' := #[.val (.ref a1), .val (.ref a2), .val (.ref a3), .val (.ref a4), .val (.int p5), .val (.int (0 : Int32)), .val (.int (0 : Int32)), .unset, .unset]) rfl k) ?_
      show Goes p e below (s₁.setTop (mkF m 33 #[.val (.ref a1), .val (.ref a2), .val (.ref a3), .val (.ref a4), .val (.int p5), .val (.int (0 : Int32)), .val (.int (0 : Int32)), .unset, .unset] [])) _
      refine Goes.of (fun t k => XS.aloadN X0.here hx rfl (hb hby d9_33) rfl rfl k) ?_
      obtain ⟨cq1251, kq1251, q1251a, q1251b, q1251c⟩ := isOf hZ e0 E
      obtain ⟨_, _, ⟨T1251, L1251, k1251, n1251⟩, -, X1251, ⟨Lc1251, hQ1251, l1251, y1251, z1251⟩, st1251⟩ := X0.virtualBack hx (y := (⟨"com/example/ripplematch/ripplematch/core/Agenda", "pollFirst", "()Lcom/example/ripplematch/ripplematch/core/Activation;"⟩ : MethodName)) (z := (⟨"com/example/ripplematch/ripplematch/core/Agenda", "pollFirst", "()Lcom/example/ripplematch/ripplematch/core/Activation;"⟩ : MethodName)) hown (mvT hZ (wd hw 90 rfl)) (mvT hZ (wd hw 91 rfl)) (notFace_of_selects (args := #[]) (mvT hZ (wd hw 93 rfl))) (mvT hZ (wd hw 93 rfl)) (mvT hZ (wd hw 92 rfl)) (by decide) (backOf (W := 0) (rm12 l Z a0 hw [] a1 HA FA x0 _ _ h0 n0 Z0 O0 SA E F_heap F_heapSize F_gone F_disordered F_fresh F_freshSize F_size VH VF E_x0 P_x0 g_a1 g_HA g_FA g_x0 n_a1_HA n_a1_FA n_a1_x0 n_HA_FA n_HA_x0 n_FA_x0 OH OF) hZ (wd hw 94 rfl) (wd hw 2 rfl) (by decide) (by decide)) q1251a q1251c (g := (mkF m 34 #[.val (.ref a1), .val (.ref a2), .val (.ref a3), .val (.ref a4), .val (.int p5), .val (.int (0 : Int32)), .val (.int (0 : Int32)), .unset, .unset] [(.ref a1)])) rfl (by rw [hml]; rfl) (Steps.refl _) (argsL := []) (rest := []) (lenOf pd_7 rfl) rfl (by show 2 * 0 + _ ≤ _; exact Nat.le_of_eq rfl) (hb hby d9_34) (fun _ _ => ⟨rfl, e0, (by decide : 0 + 0 ≤ _), (by decide : 0 + 0 ≤ _)⟩)
      dsimp only [Pt.U, Pt.locs, Pt.cells, Pt.slots] at X1251 l1251 y1251 z1251 st1251 hQ1251
      subst l1251 y1251 z1251
      obtain ⟨rfl, N1251q, K1251, E_1251, F_heap_1251, F_heapSize_1251, F_gone_1251, F_disordered_1251, F_fresh_1251, F_freshSize_1251, F_size_1251, VH_1251, VF_1251, E_x0_1251, P_x0_1251⟩ := hQ1251
      have N1251 := Fr.app N0 N1251q
      have K1252 : Keep h0 T1251.heap [a1, a3, a4, HA, FA, x0, x1] := K0.trans K1251 (allS (Or.inl (List.mem_of_getElem? (i := 0) rfl)) (allS (Or.inl (List.mem_of_getElem? (i := 3) rfl)) (allS (Or.inl (List.mem_of_getElem? (i := 4) rfl)) (allS (Or.inl (List.mem_of_getElem? (i := 5) rfl)) all0))))
      have z1253 : n0 ≤ T1251.heap.size := Nat.le_trans Z0 K1251.1
      have f1254 := E.keep K1251
      have f1264 := E_x0.keep K1251
      have f1266 := E_x1.keep K1251
      have f1267 := P_x1.keep K1251 (ninS (Ne.symm n_a1_x1) (ninS (Ne.symm n_HA_x1) (ninS (Ne.symm n_FA_x1) (ninS (Ne.symm n_x0_x1) nin0))))
      have f1268 := VO.keep K1251 (ninS (Ne.symm n_a1_a3) (ninS n_a3_HA (ninS n_a3_FA (ninS n_a3_x0 nin0))))
      have f1269 := VC.keep K1251 (ninS (Ne.symm n_a1_a4) (ninS n_a4_HA (ninS n_a4_FA (ninS n_a4_x0 nin0))))
      have f1270 := O0.keep K1251 (allS g_a1 (allS g_HA (allS g_FA (allS g_x0 all0))))
      have f1271 := VT.keep K1251 (ninS (Ne.symm n_a1_a2) (ninS n_a2_HA (ninS n_a2_FA (ninS n_a2_x0 nin0))))
      refine Goes.of (fun t k => st1251.trans k) ?_
      show Goes p e below (T1251.setTop (mkF m 37 #[.val (.ref a1), .val (.ref a2), .val (.ref a3), .val (.ref a4), .val (.int p5), .val (.int (0 : Int32)), .val (.int (0 : Int32)), .unset, .unset] [(.ref x0)])) _
      refine Goes.of (fun t k => XS.astore X1251.here hx rfl (hb hby d9_37) rfl rfl (l' := #[.val (.ref a1), .val (.ref a2), .val (.ref a3), .val (.ref a4), .val (.int p5), .val (.int (0 : Int32)), .val (.int (0 : Int32)), .val (.ref x0), .unset]) rfl k) ?_
      show Goes p e below (T1251.setTop (mkF m 39 #[.val (.ref a1), .val (.ref a2), .val (.ref a3), .val (.ref a4), .val (.int p5), .val (.int (0 : Int32)), .val (.int (0 : Int32)), .val (.ref x0), .unset] [])) _
      refine Goes.of (fun t k => XS.aload X1251.here hx rfl (hb hby d9_39) rfl rfl k) ?_
      show Goes p e below (T1251.setTop (mkF m 41 #[.val (.ref a1), .val (.ref a2), .val (.ref a3), .val (.ref a4), .val (.int p5), .val (.int (0 : Int32)), .val (.int (0 : Int32)), .val (.ref x0), .unset] [(.ref x0)])) _
      refine Goes.of (fun t k => XS.aloadN X1251.here hx rfl (hb hby d9_41) rfl rfl k) ?_
      show Goes p e below (T1251.setTop (mkF m 42 #[.val (.ref a1), .val (.ref a2), .val (.ref a3), .val (.ref a4), .val (.int p5), .val (.int (0 : Int32)), .val (.int (0 : Int32)), .val (.ref x0), .unset] [(.ref a2), (.ref x0)])) _
      refine Goes.of (fun t k => XS.iload X1251.here hx rfl (hb hby d9_42) rfl k) ?_
      have Vc1272 := f1271
      obtain ⟨clc1272, Arc1272, qc1272, Sc1272, Nc1272, Hc1272, Gc1272⟩ := Vc1272
      have hin1273 : ¬ ((0 : Int32) < 0 ∨ clc1272.slots.size ≤ ((0 : Int32)).toNatClampNeg) := inb_of Sc1272 ⟨by decide, by decide⟩
      have hat1274 : clc1272.slots[((0 : Int32)).toNatClampNeg]? = some (.ref x0) := Hc1272.at hin1273 rfl
      refine Goes.of (fun t k => X1251.aaload hx (j := (0 : Int32)) (v := (.ref x0)) Arc1272.1 (State.isArrayOf_alike hZ.alike Arc1272.2.1) rfl Arc1272.2.2 hin1273 hat1274 (g := (mkF m 44 #[.val (.ref a1), .val (.ref a2), .val (.ref a3), .val (.ref a4), .val (.int p5), .val (.int (0 : Int32)), .val (.int (0 : Int32)), .val (.ref x0), .unset] [(.int (0 : Int32)), (.ref a2), (.ref x0)])) rfl rfl (hb hby d9_44) _ k) ?_
      show Goes p e below (T1251.setTop (mkF m 45 #[.val (.ref a1), .val (.ref a2), .val (.ref a3), .val (.ref a4), .val (.int p5), .val (.int (0 : Int32)), .val (.int (0 : Int32)), .val (.ref x0), .unset] [(.ref x0), (.ref x0)])) _
      refine Goes.of (fun t k => Jvm.RoadKit.acmp (g := (mkF m 45 #[.val (.ref a1), .val (.ref a2), .val (.ref a3), .val (.ref a4), .val (.int p5), .val (.int (0 : Int32)), .val (.int (0 : Int32)), .val (.ref x0), .unset] [(.ref x0), (.ref x0)])) X1251 hx rfl rfl rfl (pc0 := 45) (pc' := 48) (same := true) rfl (hb hby d9_45) rfl (decide_eq_true (congrArg Value.ref rfl)) (by decide) (by decide) k) ?_
      show Goes p e below (T1251.setTop (mkF m 48 #[.val (.ref a1), .val (.ref a2), .val (.ref a3), .val (.ref a4), .val (.int p5), .val (.int (0 : Int32)), .val (.int (0 : Int32)), .val (.ref x0), .unset] [])) _
      refine Goes.of (fun t k => XS.iconst X1251.here hx rfl (hb hby d9_48) k) ?_
      show Goes p e below (T1251.setTop (mkF m 49 #[.val (.ref a1), .val (.ref a2), .val (.ref a3), .val (.ref a4), .val (.int p5), .val (.int (0 : Int32)), .val (.int (0 : Int32)), .val (.ref x0), .unset] [(.int (1 : Int32))])) _
      refine Goes.of (fun t k => XS.goto X1251.here hx rfl (pc0 := 49) (pc' := 53) rfl (hb hby d9_49) (by decide) (by decide) k) ?_
      show Goes p e below (T1251.setTop (mkF m 53 #[.val (.ref a1), .val (.ref a2), .val (.ref a3), .val (.ref a4), .val (.int p5), .val (.int (0 : Int32)), .val (.int (0 : Int32)), .val (.ref x0), .unset] [(.int (1 : Int32))])) _
      refine Goes.of (fun t k => XS.istore X1251.here hx rfl (hb hby d9_53) rfl (l' := #[.val (.ref a1), .val (.ref a2), .val (.ref a3), .val (.ref a4), .val (.int p5), .val (.int (0 : Int32)), .val (.int (0 : Int32)), .val (.ref x0), .val (.int (1 : Int32))]) rfl k) ?_
      show Goes p e below (T1251.setTop (mkF m 55 #[.val (.ref a1), .val (.ref a2), .val (.ref a3), .val (.ref a4), .val (.int p5), .val (.int (0 : Int32)), .val (.int (0 : Int32)), .val (.ref x0), .val (.int (1 : Int32))] [])) _
      refine Goes.of (fun t k => XS.aloadN X1251.here hx rfl (hb hby d9_55) rfl rfl k) ?_
      show Goes p e below (T1251.setTop (mkF m 56 #[.val (.ref a1), .val (.ref a2), .val (.ref a3), .val (.ref a4), .val (.int p5), .val (.int (0 : Int32)), .val (.int (0 : Int32)), .val (.ref x0), .val (.int (1 : Int32))] [(.ref a3)])) _
      refine Goes.of (fun t k => XS.iload X1251.here hx rfl (hb hby d9_56) rfl k) ?_
      show Goes p e below (T1251.setTop (mkF m 58 #[.val (.ref a1), .val (.ref a2), .val (.ref a3), .val (.ref a4), .val (.int p5), .val (.int (0 : Int32)), .val (.int (0 : Int32)), .val (.ref x0), .val (.int (1 : Int32))] [(.int (0 : Int32)), (.ref a3)])) _
      refine Goes.of (fun t k => XS.iconst X1251.here hx rfl (hb hby d9_58) k) ?_
      have Vc1275 := f1268
      obtain ⟨clc1275, Arc1275, qc1275, Sc1275, Nc1275, Hc1275, Gc1275⟩ := Vc1275
      have hin1276 : ¬ ((0 : Int32) < 0 ∨ clc1275.slots.size ≤ ((0 : Int32)).toNatClampNeg) := inb_of Sc1275 ⟨by decide, by decide⟩
      obtain ⟨T1277, h1277, X1277, e1277, W1277, st1277⟩ := stZ X1251 hx hZ rfl Arc1275 (j := (0 : Int32)) hin1276 (g := (mkF m 59 #[.val (.ref a1), .val (.ref a2), .val (.ref a3), .val (.ref a4), .val (.int p5), .val (.int (0 : Int32)), .val (.int (0 : Int32)), .val (.ref x0), .val (.int (1 : Int32))] [(.int (0 : Int32)), (.int (0 : Int32)), (.ref a3)])) rfl rfl (hb hby d9_59)
      have V1277 : Arv Z h1277 a3 kO .boolean (2 : Int32) [(.int (nar .boolean (0 : Int32))), (.int (0 : Int32))] (.int (0 : Int32)) := Arv.set Arc1275 qc1275 Sc1275 Nc1275 Hc1275 Gc1275 (fits_nar_bool _) W1277 0 rfl (Nat.le_of_ble_eq_true rfl)
      have K1278 : Keep h0 h1277 [a1, a3, a4, HA, FA, x0, x1] := K1252.wr W1277 (Or.inl (List.mem_of_getElem? (i := 1) rfl))
      have z1279 : n0 ≤ h1277.size := Nat.le_trans z1253 (Keep.of_wr W1277).1
      have f1280 := E_1251.wr W1277
      have f1281 := E_x0_1251.wr W1277
      have f1282 := f1266.wr W1277
      have f1283 := f1267.other W1277 (Or.inl (Ne.symm n_a3_x1))
      have f1285 := f1269.other W1277 (Ne.symm n_a3_a4)
      have f1286 := f1270.wr W1277 g_a3
      have f1287 := f1271.other W1277 n_a2_a3
      have f1288 := F_heap_1251.other W1277 (Or.inl n_a1_a3)
      have f1289 := F_heapSize_1251.other W1277 (Or.inl n_a1_a3)
      have f1290 := F_gone_1251.other W1277 (Or.inl n_a1_a3)
      have f1291 := F_disordered_1251.other W1277 (Or.inl n_a1_a3)
      have f1292 := F_fresh_1251.other W1277 (Or.inl n_a1_a3)
      have f1293 := F_freshSize_1251.other W1277 (Or.inl n_a1_a3)
      have f1294 := F_size_1251.other W1277 (Or.inl n_a1_a3)
      have f1295 := VH_1251.other W1277 (Ne.symm n_a3_HA)
      have f1296 := VF_1251.other W1277 (Ne.symm n_a3_FA)
      have f1297 := P_x0_1251.other W1277 (Or.inl (Ne.symm n_a3_x0))
      have N1277 := Fr.snoc X1277 N1251 g_a3
      refine Goes.of st1277 ?_
      show Goes p e below (T1277.setTop (mkF m 60 #[.val (.ref a1), .val (.ref a2), .val (.ref a3), .val (.ref a4), .val (.int p5), .val (.int (0 : Int32)), .val (.int (0 : Int32)), .val (.ref x0), .val (.int (1 : Int32))] [])) _
      refine Goes.of (fun t k => XS.aloadN X1277.here hx rfl (hb hby d9_60) rfl rfl k) ?_
      show Goes p e below (T1277.setTop (mkF m 61 #[.val (.ref a1), .val (.ref a2), .val (.ref a3), .val (.ref a4), .val (.int p5), .val (.int (0 : Int32)), .val (.int (0 : Int32)), .val (.ref x0), .val (.int (1 : Int32))] [(.ref a4)])) _
      refine Goes.of (fun t k => XS.iconst X1277.here hx rfl (hb hby d9_61) k) ?_
      show Goes p e below (T1277.setTop (mkF m 62 #[.val (.ref a1), .val (.ref a2), .val (.ref a3), .val (.ref a4), .val (.int p5), .val (.int (0 : Int32)), .val (.int (0 : Int32)), .val (.ref x0), .val (.int (1 : Int32))] [(.int (0 : Int32)), (.ref a4)])) _
      refine Goes.of (fun t k => XS.iconst X1277.here hx rfl (hb hby d9_62) k) ?_
      have Vc1298 := f1285
      obtain ⟨clc1298, Arc1298, qc1298, Sc1298, Nc1298, Hc1298, Gc1298⟩ := Vc1298
      have hin1299 : ¬ ((0 : Int32) < 0 ∨ clc1298.slots.size ≤ ((0 : Int32)).toNatClampNeg) := inb_of Sc1298 ⟨by decide, by decide⟩
      obtain ⟨T1300, h1300, X1300, e1300, W1300, st1300⟩ := stI X1277 hx hZ e1277 Arc1298 (j := (0 : Int32)) hin1299 (g := (mkF m 63 #[.val (.ref a1), .val (.ref a2), .val (.ref a3), .val (.ref a4), .val (.int p5), .val (.int (0 : Int32)), .val (.int (0 : Int32)), .val (.ref x0), .val (.int (1 : Int32))] [(.int (0 : Int32)), (.int (0 : Int32)), (.ref a4)])) rfl rfl (hb hby d9_63)
      have V1300 : Arv Z h1300 a4 kC .int (1 : Int32) [(.int (0 : Int32))] (.int (0 : Int32)) := Arv.set Arc1298 qc1298 Sc1298 Nc1298 Hc1298 Gc1298 rfl W1300 0 rfl (Nat.le_of_ble_eq_true rfl)
      have K1301 : Keep h0 h1300 [a1, a3, a4, HA, FA, x0, x1] := K1278.wr W1300 (Or.inl (List.mem_of_getElem? (i := 2) rfl))
      have z1302 : n0 ≤ h1300.size := Nat.le_trans z1279 (Keep.of_wr W1300).1
      have f1303 := f1280.wr W1300
      have f1304 := f1281.wr W1300
      have f1305 := f1282.wr W1300
      have f1306 := f1283.other W1300 (Or.inl (Ne.symm n_a4_x1))
      have f1307 := V1277.other W1300 n_a3_a4
      have f1309 := f1286.wr W1300 g_a4
      have f1310 := f1287.other W1300 n_a2_a4
      have f1311 := f1288.other W1300 (Or.inl n_a1_a4)
      have f1312 := f1289.other W1300 (Or.inl n_a1_a4)
      have f1313 := f1290.other W1300 (Or.inl n_a1_a4)
      have f1314 := f1291.other W1300 (Or.inl n_a1_a4)
      have f1315 := f1292.other W1300 (Or.inl n_a1_a4)
      have f1316 := f1293.other W1300 (Or.inl n_a1_a4)
      have f1317 := f1294.other W1300 (Or.inl n_a1_a4)
      have f1318 := f1295.other W1300 (Ne.symm n_a4_HA)
      have f1319 := f1296.other W1300 (Ne.symm n_a4_FA)
      have f1320 := f1297.other W1300 (Or.inl (Ne.symm n_a4_x0))
      have N1300 := Fr.snoc X1300 N1277 g_a4
      refine Goes.of st1300 ?_
      show Goes p e below (T1300.setTop (mkF m 64 #[.val (.ref a1), .val (.ref a2), .val (.ref a3), .val (.ref a4), .val (.int p5), .val (.int (0 : Int32)), .val (.int (0 : Int32)), .val (.ref x0), .val (.int (1 : Int32))] [])) _
      refine Goes.of (fun t k => XS.iload X1300.here hx rfl (hb hby d9_64) rfl k) ?_
      show Goes p e below (T1300.setTop (mkF m 66 #[.val (.ref a1), .val (.ref a2), .val (.ref a3), .val (.ref a4), .val (.int p5), .val (.int (0 : Int32)), .val (.int (0 : Int32)), .val (.ref x0), .val (.int (1 : Int32))] [(.int (1 : Int32))])) _
      refine Goes.of (fun t k => XS.ifNo X1300.here hx rfl (hb hby d9_66) rfl ((if0 _ _).trans (feq (by decide)).1) k) ?_
      show Goes p e below (T1300.setTop (mkF m 69 #[.val (.ref a1), .val (.ref a2), .val (.ref a3), .val (.ref a4), .val (.int p5), .val (.int (0 : Int32)), .val (.int (0 : Int32)), .val (.ref x0), .val (.int (1 : Int32))] [])) _
      refine Goes.of (fun t k => XS.aloadN X1300.here hx rfl (hb hby d9_69) rfl rfl k) ?_
      obtain ⟨cq1321, kq1321, q1321a, q1321b, q1321c⟩ := isOf hZ e1300 f1303
      obtain ⟨_, _, ⟨T1321, L1321, k1321, n1321⟩, -, X1321, ⟨Lc1321, hQ1321, l1321, y1321, z1321⟩, st1321⟩ := X1300.virtualBack hx (y := (⟨"com/example/ripplematch/ripplematch/core/Agenda", "isEmpty", "()Z"⟩ : MethodName)) (z := (⟨"com/example/ripplematch/ripplematch/core/Agenda", "isEmpty", "()Z"⟩ : MethodName)) hown (mvT hZ (wd hw 64 rfl)) (mvT hZ (wd hw 65 rfl)) (notFace_of_selects (args := #[]) (mvT hZ (wd hw 67 rfl))) (mvT hZ (wd hw 67 rfl)) (mvT hZ (wd hw 66 rfl)) (by decide) (backOf (W := 0) (rm8 l Z a0 hw [] a1 (0 : Int32) h1300 n0 z1302 f1317) hZ (wd hw 68 rfl) (wd hw 2 rfl) (by decide) (by decide)) q1321a q1321c (g := (mkF m 70 #[.val (.ref a1), .val (.ref a2), .val (.ref a3), .val (.ref a4), .val (.int p5), .val (.int (0 : Int32)), .val (.int (0 : Int32)), .val (.ref x0), .val (.int (1 : Int32))] [(.ref a1)])) rfl (by rw [hml]; rfl) (Steps.refl _) (argsL := []) (rest := []) (lenOf pd_6 rfl) rfl (by show 2 * 0 + _ ≤ _; exact Nat.le_of_eq rfl) (hb hby d9_70) (fun _ _ => ⟨rfl, e1300, (by decide : 0 + 0 ≤ _), (by decide : 0 + 0 ≤ _)⟩)
      dsimp only [Pt.U, Pt.locs, Pt.cells, Pt.slots] at X1321 l1321 y1321 z1321 st1321 hQ1321
      subst l1321 y1321 z1321
      obtain ⟨rfl, N1321q, e1321⟩ := hQ1321
      have N1321 := Fr.app N1300 N1321q
      refine Goes.of (fun t k => st1321.trans k) ?_
      show Goes p e below (T1321.setTop (mkF m 73 #[.val (.ref a1), .val (.ref a2), .val (.ref a3), .val (.ref a4), .val (.int p5), .val (.int (0 : Int32)), .val (.int (0 : Int32)), .val (.ref x0), .val (.int (1 : Int32))] [(.int (1 : Int32))])) _
      refine Goes.of (fun t k => XS.ifNo X1321.here hx rfl (hb hby d9_73) rfl ((if0 _ _).trans (feq (by decide)).1) k) ?_
      show Goes p e below (T1321.setTop (mkF m 76 #[.val (.ref a1), .val (.ref a2), .val (.ref a3), .val (.ref a4), .val (.int p5), .val (.int (0 : Int32)), .val (.int (0 : Int32)), .val (.ref x0), .val (.int (1 : Int32))] [])) _
      refine Goes.of (fun t k => XS.iconst X1321.here hx rfl (hb hby d9_76) k) ?_
      show Goes p e below (T1321.setTop (mkF m 77 #[.val (.ref a1), .val (.ref a2), .val (.ref a3), .val (.ref a4), .val (.int p5), .val (.int (0 : Int32)), .val (.int (0 : Int32)), .val (.ref x0), .val (.int (1 : Int32))] [(.int (1 : Int32))])) _
      refine Goes.of (fun t k => XS.goto X1321.here hx rfl (pc0 := 77) (pc' := 81) rfl (hb hby d9_77) (by decide) (by decide) k) ?_
      show Goes p e below (T1321.setTop (mkF m 81 #[.val (.ref a1), .val (.ref a2), .val (.ref a3), .val (.ref a4), .val (.int p5), .val (.int (0 : Int32)), .val (.int (0 : Int32)), .val (.ref x0), .val (.int (1 : Int32))] [(.int (1 : Int32))])) _
      have eh : T1321.heap = h1300 := e1321
      exact Goes.retN (t := .boolean) X1321 hx Bd.returns (by simp) hlocks (hb hby d9_81) (⟨rfl, N1321, by rw [eh]; exact K1301, Or.inl ⟨by rw [eh]; exact f1303, by rw [eh]; exact f1311, by rw [eh]; exact f1312, by rw [eh]; exact f1313, by rw [eh]; exact f1314, by rw [eh]; exact f1315, by rw [eh]; exact f1316, by rw [eh]; exact f1317, by rw [eh]; exact f1318, by rw [eh]; exact f1319, by rw [eh]; exact f1304, by rw [eh]; exact f1320, by rw [eh]; exact f1305, by rw [eh]; exact f1306, by rw [eh]; exact f1307, by rw [eh]; exact V1300⟩⟩) (by decide) (by decide)
  · rw [hi]
    show Goes p e below (s₁.setTop (mkF m 6 #[.val (.ref a1), .val (.ref a2), .val (.ref a3), .val (.ref a4), .val (.int p5), .val (.int (1 : Int32)), .unset, .unset, .unset] [])) _
    refine Goes.of (fun t k => XS.iload X0.here hx rfl (hb hby d9_6) rfl k) ?_
    show Goes p e below (s₁.setTop (mkF m 8 #[.val (.ref a1), .val (.ref a2), .val (.ref a3), .val (.ref a4), .val (.int p5), .val (.int (1 : Int32)), .unset, .unset, .unset] [(.int p5)])) _
    refine Goes.of (fun t k => XS.iconst X0.here hx rfl (hb hby d9_8) k) ?_
    show Goes p e below (s₁.setTop (mkF m 9 #[.val (.ref a1), .val (.ref a2), .val (.ref a3), .val (.ref a4), .val (.int p5), .val (.int (1 : Int32)), .unset, .unset, .unset] [(.int (2 : Int32)), (.int p5)])) _
    refine Goes.of (fun t k => XS.iand X0.here hx rfl (hb hby d9_9) rfl k) ?_
    show Goes p e below (s₁.setTop (mkF m 10 #[.val (.ref a1), .val (.ref a2), .val (.ref a3), .val (.ref a4), .val (.int p5), .val (.int (1 : Int32)), .unset, .unset, .unset] [(.int (p5 &&& (2 : Int32)))])) _
    by_cases hc10_1322 : (p5 &&& (2 : Int32)) = (0 : Int32)
    · refine Goes.of (fun t k => XS.ifYes X0.here hx rfl (pc0 := 10) (pc' := 82) rfl (hb hby d9_10) rfl ((if0 _ _).trans (teq hc10_1322).1) (by decide) (by decide) k) ?_
      show Goes p e below (s₁.setTop (mkF m 82 #[.val (.ref a1), .val (.ref a2), .val (.ref a3), .val (.ref a4), .val (.int p5), .val (.int (1 : Int32)), .unset, .unset, .unset] [])) _
      refine Goes.of (fun t k => XS.aloadN X0.here hx rfl (hb hby d9_82) rfl rfl k) ?_
      show Goes p e below (s₁.setTop (mkF m 83 #[.val (.ref a1), .val (.ref a2), .val (.ref a3), .val (.ref a4), .val (.int p5), .val (.int (1 : Int32)), .unset, .unset, .unset] [(.ref a3)])) _
      refine Goes.of (fun t k => XS.iload X0.here hx rfl (hb hby d9_83) rfl k) ?_
      have Vc1323 := VO
      obtain ⟨clc1323, Arc1323, qc1323, Sc1323, Nc1323, Hc1323, Gc1323⟩ := Vc1323
      have hin1324 : ¬ ((1 : Int32) < 0 ∨ clc1323.slots.size ≤ ((1 : Int32)).toNatClampNeg) := inb_of Sc1323 ⟨by decide, by decide⟩
      have hat1325 : clc1323.slots[((1 : Int32)).toNatClampNeg]? = some (.int (0 : Int32)) := Hc1323.at hin1324 rfl
      refine Goes.of (fun t k => X0.baloadBooleans hx (j := (1 : Int32)) (v := (.int (0 : Int32))) (by rw [e0]; exact Arc1323.1) (State.isArrayOf_alike hZ.alike Arc1323.2.1) Arc1323.2.2 hin1324 hat1325 (g := (mkF m 85 #[.val (.ref a1), .val (.ref a2), .val (.ref a3), .val (.ref a4), .val (.int p5), .val (.int (1 : Int32)), .unset, .unset, .unset] [(.int (1 : Int32)), (.ref a3)])) rfl rfl (hb hby d9_85) _ k) ?_
      show Goes p e below (s₁.setTop (mkF m 86 #[.val (.ref a1), .val (.ref a2), .val (.ref a3), .val (.ref a4), .val (.int p5), .val (.int (1 : Int32)), .unset, .unset, .unset] [(.int (0 : Int32))])) _
      refine Goes.of (fun t k => XS.ifYes X0.here hx rfl (pc0 := 86) (pc' := 113) rfl (hb hby d9_86) rfl ((if0 _ _).trans (teq (by decide)).1) (by decide) (by decide) k) ?_
      show Goes p e below (s₁.setTop (mkF m 113 #[.val (.ref a1), .val (.ref a2), .val (.ref a3), .val (.ref a4), .val (.int p5), .val (.int (1 : Int32)), .unset, .unset, .unset] [])) _
      refine Goes.of (fun t k => XS.aloadN X0.here hx rfl (hb hby d9_113) rfl rfl k) ?_
      show Goes p e below (s₁.setTop (mkF m 114 #[.val (.ref a1), .val (.ref a2), .val (.ref a3), .val (.ref a4), .val (.int p5), .val (.int (1 : Int32)), .unset, .unset, .unset] [(.ref a1)])) _
      refine Goes.of (fun t k => XS.aloadN X0.here hx rfl (hb hby d9_114) rfl rfl k) ?_
      show Goes p e below (s₁.setTop (mkF m 115 #[.val (.ref a1), .val (.ref a2), .val (.ref a3), .val (.ref a4), .val (.int p5), .val (.int (1 : Int32)), .unset, .unset, .unset] [(.ref a2), (.ref a1)])) _
      refine Goes.of (fun t k => XS.iload X0.here hx rfl (hb hby d9_115) rfl k) ?_
      have Vc1326 := VT
      obtain ⟨clc1326, Arc1326, qc1326, Sc1326, Nc1326, Hc1326, Gc1326⟩ := Vc1326
      have hin1327 : ¬ ((1 : Int32) < 0 ∨ clc1326.slots.size ≤ ((1 : Int32)).toNatClampNeg) := inb_of Sc1326 ⟨by decide, by decide⟩
      have hat1328 : clc1326.slots[((1 : Int32)).toNatClampNeg]? = some (.ref x1) := Hc1326.at hin1327 rfl
      refine Goes.of (fun t k => X0.aaload hx (j := (1 : Int32)) (v := (.ref x1)) (by rw [e0]; exact Arc1326.1) (State.isArrayOf_alike hZ.alike Arc1326.2.1) rfl Arc1326.2.2 hin1327 hat1328 (g := (mkF m 117 #[.val (.ref a1), .val (.ref a2), .val (.ref a3), .val (.ref a4), .val (.int p5), .val (.int (1 : Int32)), .unset, .unset, .unset] [(.int (1 : Int32)), (.ref a2), (.ref a1)])) rfl rfl (hb hby d9_117) _ k) ?_
      obtain ⟨cq1329, kq1329, q1329a, q1329b, q1329c⟩ := isOf hZ e0 E
      obtain ⟨_, _, ⟨T1329, L1329, k1329, n1329⟩, -, X1329, ⟨Lc1329, hQ1329, l1329, y1329, z1329⟩, st1329⟩ := X0.virtualBack hx (y := (⟨"com/example/ripplematch/ripplematch/core/Agenda", "add", "(Lcom/example/ripplematch/ripplematch/core/Activation;)V"⟩ : MethodName)) (z := (⟨"com/example/ripplematch/ripplematch/core/Agenda", "add", "(Lcom/example/ripplematch/ripplematch/core/Activation;)V"⟩ : MethodName)) hown (mvT hZ (wd hw 75 rfl)) (mvT hZ (wd hw 76 rfl)) (notFace_of_selects (args := #[]) (mvT hZ (wd hw 78 rfl))) (mvT hZ (wd hw 78 rfl)) (mvT hZ (wd hw 77 rfl)) (by decide) (backOf (W := 0) (rm10_382 l Z a0 hw [] a1 x1 HA FA x0 _ _ h0 n0 Z0 O0 SA E F_heap F_heapSize F_gone F_disordered F_fresh F_freshSize F_size VH VF E_x1 P_x1 g_a1 g_HA g_FA g_x1 n_a1_HA n_a1_FA n_a1_x1 n_HA_FA n_HA_x1 n_FA_x1 OH OF) hZ (wd hw 79 rfl) (wd hw 2 rfl) (by decide) (by decide)) q1329a q1329c (g := (mkF m 118 #[.val (.ref a1), .val (.ref a2), .val (.ref a3), .val (.ref a4), .val (.int p5), .val (.int (1 : Int32)), .unset, .unset, .unset] [(.ref x1), (.ref a1)])) rfl (by rw [hml]; rfl) (Steps.refl _) (argsL := [(.ref x1)]) (rest := []) (lenOf pd_5 rfl) rfl (by show 2 * 0 + _ ≤ _; exact Nat.le_of_eq rfl) (hb hby d9_118) (fun _ _ => ⟨rfl, e0, (by decide : 0 + 0 ≤ _), (by decide : 0 + 0 ≤ _)⟩)
      dsimp only [Pt.U, Pt.locs, Pt.cells, Pt.slots] at X1329 l1329 y1329 z1329 st1329 hQ1329
      subst l1329 y1329 z1329
      obtain ⟨rfl, N1329q, K1329, E_1329, F_heap_1329, F_heapSize_1329, F_gone_1329, F_disordered_1329, F_fresh_1329, F_freshSize_1329, F_size_1329, VH_1329, VF_1329, E_x1_1329, P_x1_1329⟩ := hQ1329
      have N1329 := Fr.app N0 N1329q
      have K1330 : Keep h0 T1329.heap [a1, a3, a4, HA, FA, x0, x1] := K0.trans K1329 (allS (Or.inl (List.mem_of_getElem? (i := 0) rfl)) (allS (Or.inl (List.mem_of_getElem? (i := 4) rfl)) (allS (Or.inl (List.mem_of_getElem? (i := 6) rfl)) all0)))
      have z1331 : n0 ≤ T1329.heap.size := Nat.le_trans Z0 K1329.1
      have f1332 := E.keep K1329
      have f1340 := VH.keep K1329 (ninS (Ne.symm n_a1_HA) (ninS n_HA_FA (ninS n_HA_x1 nin0)))
      have f1342 := E_x0.keep K1329
      have f1343 := P_x0.keep K1329 (ninS (Ne.symm n_a1_x0) (ninS (Ne.symm n_FA_x0) (ninS n_x0_x1 nin0)))
      have f1344 := E_x1.keep K1329
      have f1346 := VO.keep K1329 (ninS (Ne.symm n_a1_a3) (ninS n_a3_FA (ninS n_a3_x1 nin0)))
      have f1347 := VC.keep K1329 (ninS (Ne.symm n_a1_a4) (ninS n_a4_FA (ninS n_a4_x1 nin0)))
      have f1348 := O0.keep K1329 (allS g_a1 (allS g_FA (allS g_x1 all0)))
      have f1349 := VT.keep K1329 (ninS (Ne.symm n_a1_a2) (ninS n_a2_FA (ninS n_a2_x1 nin0)))
      refine Goes.of (fun t k => st1329.trans k) ?_
      show Goes p e below (T1329.setTop (mkF m 121 #[.val (.ref a1), .val (.ref a2), .val (.ref a3), .val (.ref a4), .val (.int p5), .val (.int (1 : Int32)), .unset, .unset, .unset] [])) _
      refine Goes.of (fun t k => XS.aloadN X1329.here hx rfl (hb hby d9_121) rfl rfl k) ?_
      show Goes p e below (T1329.setTop (mkF m 122 #[.val (.ref a1), .val (.ref a2), .val (.ref a3), .val (.ref a4), .val (.int p5), .val (.int (1 : Int32)), .unset, .unset, .unset] [(.ref a3)])) _
      refine Goes.of (fun t k => XS.iload X1329.here hx rfl (hb hby d9_122) rfl k) ?_
      show Goes p e below (T1329.setTop (mkF m 124 #[.val (.ref a1), .val (.ref a2), .val (.ref a3), .val (.ref a4), .val (.int p5), .val (.int (1 : Int32)), .unset, .unset, .unset] [(.int (1 : Int32)), (.ref a3)])) _
      refine Goes.of (fun t k => XS.iconst X1329.here hx rfl (hb hby d9_124) k) ?_
      have Vc1350 := f1346
      obtain ⟨clc1350, Arc1350, qc1350, Sc1350, Nc1350, Hc1350, Gc1350⟩ := Vc1350
      have hin1351 : ¬ ((1 : Int32) < 0 ∨ clc1350.slots.size ≤ ((1 : Int32)).toNatClampNeg) := inb_of Sc1350 ⟨by decide, by decide⟩
      obtain ⟨T1352, h1352, X1352, e1352, W1352, st1352⟩ := stZ X1329 hx hZ rfl Arc1350 (j := (1 : Int32)) hin1351 (g := (mkF m 125 #[.val (.ref a1), .val (.ref a2), .val (.ref a3), .val (.ref a4), .val (.int p5), .val (.int (1 : Int32)), .unset, .unset, .unset] [(.int (1 : Int32)), (.int (1 : Int32)), (.ref a3)])) rfl rfl (hb hby d9_125)
      have V1352 : Arv Z h1352 a3 kO .boolean (2 : Int32) [(.int (1 : Int32)), (.int (nar .boolean (1 : Int32)))] (.int (0 : Int32)) := Arv.set Arc1350 qc1350 Sc1350 Nc1350 Hc1350 Gc1350 (fits_nar_bool _) W1352 1 rfl (Nat.le_of_ble_eq_true rfl)
      have K1353 : Keep h0 h1352 [a1, a3, a4, HA, FA, x0, x1] := K1330.wr W1352 (Or.inl (List.mem_of_getElem? (i := 1) rfl))
      have z1354 : n0 ≤ h1352.size := Nat.le_trans z1331 (Keep.of_wr W1352).1
      have f1355 := E_1329.wr W1352
      have f1356 := VH_1329.other W1352 (Ne.symm n_a3_HA)
      have f1357 := f1342.wr W1352
      have f1358 := f1343.other W1352 (Or.inl (Ne.symm n_a3_x0))
      have f1359 := E_x1_1329.wr W1352
      have f1361 := f1347.other W1352 (Ne.symm n_a3_a4)
      have f1362 := f1348.wr W1352 g_a3
      have f1363 := f1349.other W1352 n_a2_a3
      have f1364 := F_heap_1329.other W1352 (Or.inl n_a1_a3)
      have f1365 := F_heapSize_1329.other W1352 (Or.inl n_a1_a3)
      have f1366 := F_gone_1329.other W1352 (Or.inl n_a1_a3)
      have f1367 := F_disordered_1329.other W1352 (Or.inl n_a1_a3)
      have f1368 := F_fresh_1329.other W1352 (Or.inl n_a1_a3)
      have f1369 := F_freshSize_1329.other W1352 (Or.inl n_a1_a3)
      have f1370 := F_size_1329.other W1352 (Or.inl n_a1_a3)
      have f1371 := VF_1329.other W1352 (Ne.symm n_a3_FA)
      have f1372 := P_x1_1329.other W1352 (Or.inl (Ne.symm n_a3_x1))
      have N1352 := Fr.snoc X1352 N1329 g_a3
      refine Goes.of st1352 ?_
      show Goes p e below (T1352.setTop (mkF m 126 #[.val (.ref a1), .val (.ref a2), .val (.ref a3), .val (.ref a4), .val (.int p5), .val (.int (1 : Int32)), .unset, .unset, .unset] [])) _
      refine Goes.of (fun t k => XS.aloadN X1352.here hx rfl (hb hby d9_126) rfl rfl k) ?_
      show Goes p e below (T1352.setTop (mkF m 127 #[.val (.ref a1), .val (.ref a2), .val (.ref a3), .val (.ref a4), .val (.int p5), .val (.int (1 : Int32)), .unset, .unset, .unset] [(.ref a4)])) _
      refine Goes.of (fun t k => XS.iconst X1352.here hx rfl (hb hby d9_127) k) ?_
      show Goes p e below (T1352.setTop (mkF m 128 #[.val (.ref a1), .val (.ref a2), .val (.ref a3), .val (.ref a4), .val (.int p5), .val (.int (1 : Int32)), .unset, .unset, .unset] [(.int (0 : Int32)), (.ref a4)])) _
      refine Goes.of (fun t k => XS.aloadN X1352.here hx rfl (hb hby d9_128) rfl rfl k) ?_
      show Goes p e below (T1352.setTop (mkF m 129 #[.val (.ref a1), .val (.ref a2), .val (.ref a3), .val (.ref a4), .val (.int p5), .val (.int (1 : Int32)), .unset, .unset, .unset] [(.ref a4), (.int (0 : Int32)), (.ref a4)])) _
      refine Goes.of (fun t k => XS.iconst X1352.here hx rfl (hb hby d9_129) k) ?_
      have Vc1373 := f1361
      obtain ⟨clc1373, Arc1373, qc1373, Sc1373, Nc1373, Hc1373, Gc1373⟩ := Vc1373
      have hin1374 : ¬ ((0 : Int32) < 0 ∨ clc1373.slots.size ≤ ((0 : Int32)).toNatClampNeg) := inb_of Sc1373 ⟨by decide, by decide⟩
      have hat1375 : clc1373.slots[((0 : Int32)).toNatClampNeg]? = some (.int (1 : Int32)) := Hc1373.at hin1374 rfl
      refine Goes.of (fun t k => X1352.iaload hx (j := (0 : Int32)) (v := (.int (1 : Int32))) (by rw [e1352]; exact Arc1373.1) (State.isArrayOf_alike hZ.alike Arc1373.2.1) Arc1373.2.2 hin1374 hat1375 (g := (mkF m 130 #[.val (.ref a1), .val (.ref a2), .val (.ref a3), .val (.ref a4), .val (.int p5), .val (.int (1 : Int32)), .unset, .unset, .unset] [(.int (0 : Int32)), (.ref a4), (.int (0 : Int32)), (.ref a4)])) rfl rfl (hb hby d9_130) _ k) ?_
      show Goes p e below (T1352.setTop (mkF m 131 #[.val (.ref a1), .val (.ref a2), .val (.ref a3), .val (.ref a4), .val (.int p5), .val (.int (1 : Int32)), .unset, .unset, .unset] [(.int (1 : Int32)), (.int (0 : Int32)), (.ref a4)])) _
      refine Goes.of (fun t k => XS.iconst X1352.here hx rfl (hb hby d9_131) k) ?_
      show Goes p e below (T1352.setTop (mkF m 132 #[.val (.ref a1), .val (.ref a2), .val (.ref a3), .val (.ref a4), .val (.int p5), .val (.int (1 : Int32)), .unset, .unset, .unset] [(.int (1 : Int32)), (.int (1 : Int32)), (.int (0 : Int32)), (.ref a4)])) _
      refine Goes.of (fun t k => XS.iadd X1352.here hx rfl (hb hby d9_132) rfl k) ?_
      have Vc1376 := f1361
      obtain ⟨clc1376, Arc1376, qc1376, Sc1376, Nc1376, Hc1376, Gc1376⟩ := Vc1376
      have hin1377 : ¬ ((0 : Int32) < 0 ∨ clc1376.slots.size ≤ ((0 : Int32)).toNatClampNeg) := inb_of Sc1376 ⟨by decide, by decide⟩
      obtain ⟨T1378, h1378, X1378, e1378, W1378, st1378⟩ := stI X1352 hx hZ e1352 Arc1376 (j := (0 : Int32)) hin1377 (g := (mkF m 133 #[.val (.ref a1), .val (.ref a2), .val (.ref a3), .val (.ref a4), .val (.int p5), .val (.int (1 : Int32)), .unset, .unset, .unset] [(.int (2 : Int32)), (.int (0 : Int32)), (.ref a4)])) rfl rfl (hb hby d9_133)
      have V1378 : Arv Z h1378 a4 kC .int (1 : Int32) [(.int (2 : Int32))] (.int (0 : Int32)) := Arv.set Arc1376 qc1376 Sc1376 Nc1376 Hc1376 Gc1376 rfl W1378 0 rfl (Nat.le_of_ble_eq_true rfl)
      have K1379 : Keep h0 h1378 [a1, a3, a4, HA, FA, x0, x1] := K1353.wr W1378 (Or.inl (List.mem_of_getElem? (i := 2) rfl))
      have z1380 : n0 ≤ h1378.size := Nat.le_trans z1354 (Keep.of_wr W1378).1
      have f1381 := f1355.wr W1378
      have f1382 := f1356.other W1378 (Ne.symm n_a4_HA)
      have f1383 := f1357.wr W1378
      have f1384 := f1358.other W1378 (Or.inl (Ne.symm n_a4_x0))
      have f1385 := f1359.wr W1378
      have f1386 := V1352.other W1378 n_a3_a4
      have f1388 := f1362.wr W1378 g_a4
      have f1389 := f1363.other W1378 n_a2_a4
      have f1390 := f1364.other W1378 (Or.inl n_a1_a4)
      have f1391 := f1365.other W1378 (Or.inl n_a1_a4)
      have f1392 := f1366.other W1378 (Or.inl n_a1_a4)
      have f1393 := f1367.other W1378 (Or.inl n_a1_a4)
      have f1394 := f1368.other W1378 (Or.inl n_a1_a4)
      have f1395 := f1369.other W1378 (Or.inl n_a1_a4)
      have f1396 := f1370.other W1378 (Or.inl n_a1_a4)
      have f1397 := f1371.other W1378 (Ne.symm n_a4_FA)
      have f1398 := f1372.other W1378 (Or.inl (Ne.symm n_a4_x1))
      have N1378 := Fr.snoc X1378 N1352 g_a4
      refine Goes.of st1378 ?_
      show Goes p e below (T1378.setTop (mkF m 134 #[.val (.ref a1), .val (.ref a2), .val (.ref a3), .val (.ref a4), .val (.int p5), .val (.int (1 : Int32)), .unset, .unset, .unset] [])) _
      refine Goes.of (fun t k => XS.aloadN X1378.here hx rfl (hb hby d9_134) rfl rfl k) ?_
      obtain ⟨cq1399, kq1399, q1399a, q1399b, q1399c⟩ := isOf hZ e1378 f1381
      obtain ⟨_, _, ⟨T1399, L1399, k1399, n1399⟩, -, X1399, ⟨Lc1399, hQ1399, l1399, y1399, z1399⟩, st1399⟩ := X1378.virtualBack hx (y := (⟨"com/example/ripplematch/ripplematch/core/Agenda", "isEmpty", "()Z"⟩ : MethodName)) (z := (⟨"com/example/ripplematch/ripplematch/core/Agenda", "isEmpty", "()Z"⟩ : MethodName)) hown (mvT hZ (wd hw 64 rfl)) (mvT hZ (wd hw 65 rfl)) (notFace_of_selects (args := #[]) (mvT hZ (wd hw 67 rfl))) (mvT hZ (wd hw 67 rfl)) (mvT hZ (wd hw 66 rfl)) (by decide) (backOf (W := 0) (rm8 l Z a0 hw [] a1 (2 : Int32) h1378 n0 z1380 f1396) hZ (wd hw 68 rfl) (wd hw 2 rfl) (by decide) (by decide)) q1399a q1399c (g := (mkF m 135 #[.val (.ref a1), .val (.ref a2), .val (.ref a3), .val (.ref a4), .val (.int p5), .val (.int (1 : Int32)), .unset, .unset, .unset] [(.ref a1)])) rfl (by rw [hml]; rfl) (Steps.refl _) (argsL := []) (rest := []) (lenOf pd_6 rfl) rfl (by show 2 * 0 + _ ≤ _; exact Nat.le_of_eq rfl) (hb hby d9_135) (fun _ _ => ⟨rfl, e1378, (by decide : 0 + 0 ≤ _), (by decide : 0 + 0 ≤ _)⟩)
      dsimp only [Pt.U, Pt.locs, Pt.cells, Pt.slots] at X1399 l1399 y1399 z1399 st1399 hQ1399
      subst l1399 y1399 z1399
      obtain ⟨rfl, N1399q, e1399⟩ := hQ1399
      have N1399 := Fr.app N1378 N1399q
      refine Goes.of (fun t k => st1399.trans k) ?_
      show Goes p e below (T1399.setTop (mkF m 138 #[.val (.ref a1), .val (.ref a2), .val (.ref a3), .val (.ref a4), .val (.int p5), .val (.int (1 : Int32)), .unset, .unset, .unset] [(.int (0 : Int32))])) _
      refine Goes.of (fun t k => XS.aloadN X1399.here hx rfl (hb hby d9_138) rfl rfl k) ?_
      show Goes p e below (T1399.setTop (mkF m 139 #[.val (.ref a1), .val (.ref a2), .val (.ref a3), .val (.ref a4), .val (.int p5), .val (.int (1 : Int32)), .unset, .unset, .unset] [(.ref a4), (.int (0 : Int32))])) _
      refine Goes.of (fun t k => XS.iconst X1399.here hx rfl (hb hby d9_139) k) ?_
      have Vc1400 := V1378
      obtain ⟨clc1400, Arc1400, qc1400, Sc1400, Nc1400, Hc1400, Gc1400⟩ := Vc1400
      have hin1401 : ¬ ((0 : Int32) < 0 ∨ clc1400.slots.size ≤ ((0 : Int32)).toNatClampNeg) := inb_of Sc1400 ⟨by decide, by decide⟩
      have hat1402 : clc1400.slots[((0 : Int32)).toNatClampNeg]? = some (.int (2 : Int32)) := Hc1400.at hin1401 rfl
      refine Goes.of (fun t k => X1399.iaload hx (j := (0 : Int32)) (v := (.int (2 : Int32))) (by rw [e1399]; exact Arc1400.1) (State.isArrayOf_alike hZ.alike Arc1400.2.1) Arc1400.2.2 hin1401 hat1402 (g := (mkF m 140 #[.val (.ref a1), .val (.ref a2), .val (.ref a3), .val (.ref a4), .val (.int p5), .val (.int (1 : Int32)), .unset, .unset, .unset] [(.int (0 : Int32)), (.ref a4), (.int (0 : Int32))])) rfl rfl (hb hby d9_140) _ k) ?_
      show Goes p e below (T1399.setTop (mkF m 141 #[.val (.ref a1), .val (.ref a2), .val (.ref a3), .val (.ref a4), .val (.int p5), .val (.int (1 : Int32)), .unset, .unset, .unset] [(.int (2 : Int32)), (.int (0 : Int32))])) _
      refine Goes.of (fun t k => XS.ifYes X1399.here hx rfl (pc0 := 141) (pc' := 148) rfl (hb hby d9_141) rfl ((if0 _ _).trans (feq (by decide)).2) (by decide) (by decide) k) ?_
      show Goes p e below (T1399.setTop (mkF m 148 #[.val (.ref a1), .val (.ref a2), .val (.ref a3), .val (.ref a4), .val (.int p5), .val (.int (1 : Int32)), .unset, .unset, .unset] [(.int (0 : Int32))])) _
      refine Goes.of (fun t k => XS.iconst X1399.here hx rfl (hb hby d9_148) k) ?_
      show Goes p e below (T1399.setTop (mkF m 149 #[.val (.ref a1), .val (.ref a2), .val (.ref a3), .val (.ref a4), .val (.int p5), .val (.int (1 : Int32)), .unset, .unset, .unset] [(.int (0 : Int32)), (.int (0 : Int32))])) _
      refine Goes.of (fun t k => XS.icmpNo X1399.here hx rfl (hb hby d9_149) rfl (teq (by decide)).2 k) ?_
      show Goes p e below (T1399.setTop (mkF m 152 #[.val (.ref a1), .val (.ref a2), .val (.ref a3), .val (.ref a4), .val (.int p5), .val (.int (1 : Int32)), .unset, .unset, .unset] [])) _
      refine Goes.of (fun t k => XS.iconst X1399.here hx rfl (hb hby d9_152) k) ?_
      show Goes p e below (T1399.setTop (mkF m 153 #[.val (.ref a1), .val (.ref a2), .val (.ref a3), .val (.ref a4), .val (.int p5), .val (.int (1 : Int32)), .unset, .unset, .unset] [(.int (1 : Int32))])) _
      refine Goes.of (fun t k => XS.goto X1399.here hx rfl (pc0 := 153) (pc' := 157) rfl (hb hby d9_153) (by decide) (by decide) k) ?_
      show Goes p e below (T1399.setTop (mkF m 157 #[.val (.ref a1), .val (.ref a2), .val (.ref a3), .val (.ref a4), .val (.int p5), .val (.int (1 : Int32)), .unset, .unset, .unset] [(.int (1 : Int32))])) _
      have eh : T1399.heap = h1378 := e1399
      exact Goes.retN (t := .boolean) X1399 hx Bd.returns (by simp) hlocks (hb hby d9_157) (⟨rfl, N1399, by rw [eh]; exact K1379, Or.inr (Or.inr (Or.inr (Or.inl ⟨by rw [eh]; exact f1381, by rw [eh]; exact f1390, by rw [eh]; exact f1391, by rw [eh]; exact f1392, by rw [eh]; exact f1393, by rw [eh]; exact f1394, by rw [eh]; exact f1395, by rw [eh]; exact f1396, by rw [eh]; exact f1382, by rw [eh]; exact f1397, by rw [eh]; exact f1383, by rw [eh]; exact f1384, by rw [eh]; exact f1385, by rw [eh]; exact f1398, by rw [eh]; exact f1386, by rw [eh]; exact V1378⟩)))⟩) (by decide) (by decide)
    · refine Goes.of (fun t k => XS.ifNo X0.here hx rfl (hb hby d9_10) rfl ((if0 _ _).trans (feq hc10_1322).1) k) ?_
      show Goes p e below (s₁.setTop (mkF m 13 #[.val (.ref a1), .val (.ref a2), .val (.ref a3), .val (.ref a4), .val (.int p5), .val (.int (1 : Int32)), .unset, .unset, .unset] [])) _
      refine Goes.of (fun t k => XS.aloadN X0.here hx rfl (hb hby d9_13) rfl rfl k) ?_
      show Goes p e below (s₁.setTop (mkF m 14 #[.val (.ref a1), .val (.ref a2), .val (.ref a3), .val (.ref a4), .val (.int p5), .val (.int (1 : Int32)), .unset, .unset, .unset] [(.ref a4)])) _
      refine Goes.of (fun t k => XS.iconst X0.here hx rfl (hb hby d9_14) k) ?_
      have Vc1403 := VC
      obtain ⟨clc1403, Arc1403, qc1403, Sc1403, Nc1403, Hc1403, Gc1403⟩ := Vc1403
      have hin1404 : ¬ ((0 : Int32) < 0 ∨ clc1403.slots.size ≤ ((0 : Int32)).toNatClampNeg) := inb_of Sc1403 ⟨by decide, by decide⟩
      have hat1405 : clc1403.slots[((0 : Int32)).toNatClampNeg]? = some (.int (1 : Int32)) := Hc1403.at hin1404 rfl
      refine Goes.of (fun t k => X0.iaload hx (j := (0 : Int32)) (v := (.int (1 : Int32))) (by rw [e0]; exact Arc1403.1) (State.isArrayOf_alike hZ.alike Arc1403.2.1) Arc1403.2.2 hin1404 hat1405 (g := (mkF m 15 #[.val (.ref a1), .val (.ref a2), .val (.ref a3), .val (.ref a4), .val (.int p5), .val (.int (1 : Int32)), .unset, .unset, .unset] [(.int (0 : Int32)), (.ref a4)])) rfl rfl (hb hby d9_15) _ k) ?_
      show Goes p e below (s₁.setTop (mkF m 16 #[.val (.ref a1), .val (.ref a2), .val (.ref a3), .val (.ref a4), .val (.int p5), .val (.int (1 : Int32)), .unset, .unset, .unset] [(.int (1 : Int32))])) _
      refine Goes.of (fun t k => XS.iconst X0.here hx rfl (hb hby d9_16) k) ?_
      show Goes p e below (s₁.setTop (mkF m 17 #[.val (.ref a1), .val (.ref a2), .val (.ref a3), .val (.ref a4), .val (.int p5), .val (.int (1 : Int32)), .unset, .unset, .unset] [(.int (1 : Int32)), (.int (1 : Int32))])) _
      refine Goes.of (fun t k => XS.icmpNo X0.here hx rfl (hb hby d9_17) rfl (teq (by decide)).2 k) ?_
      show Goes p e below (s₁.setTop (mkF m 20 #[.val (.ref a1), .val (.ref a2), .val (.ref a3), .val (.ref a4), .val (.int p5), .val (.int (1 : Int32)), .unset, .unset, .unset] [])) _
      refine Goes.of (fun t k => XS.aloadN X0.here hx rfl (hb hby d9_20) rfl rfl k) ?_
      show Goes p e below (s₁.setTop (mkF m 21 #[.val (.ref a1), .val (.ref a2), .val (.ref a3), .val (.ref a4), .val (.int p5), .val (.int (1 : Int32)), .unset, .unset, .unset] [(.ref a3)])) _
      refine Goes.of (fun t k => XS.iconst X0.here hx rfl (hb hby d9_21) k) ?_
      have Vc1406 := VO
      obtain ⟨clc1406, Arc1406, qc1406, Sc1406, Nc1406, Hc1406, Gc1406⟩ := Vc1406
      have hin1407 : ¬ ((0 : Int32) < 0 ∨ clc1406.slots.size ≤ ((0 : Int32)).toNatClampNeg) := inb_of Sc1406 ⟨by decide, by decide⟩
      have hat1408 : clc1406.slots[((0 : Int32)).toNatClampNeg]? = some (.int (1 : Int32)) := Hc1406.at hin1407 rfl
      refine Goes.of (fun t k => X0.baloadBooleans hx (j := (0 : Int32)) (v := (.int (1 : Int32))) (by rw [e0]; exact Arc1406.1) (State.isArrayOf_alike hZ.alike Arc1406.2.1) Arc1406.2.2 hin1407 hat1408 (g := (mkF m 22 #[.val (.ref a1), .val (.ref a2), .val (.ref a3), .val (.ref a4), .val (.int p5), .val (.int (1 : Int32)), .unset, .unset, .unset] [(.int (0 : Int32)), (.ref a3)])) rfl rfl (hb hby d9_22) _ k) ?_
      show Goes p e below (s₁.setTop (mkF m 23 #[.val (.ref a1), .val (.ref a2), .val (.ref a3), .val (.ref a4), .val (.int p5), .val (.int (1 : Int32)), .unset, .unset, .unset] [(.int (1 : Int32))])) _
      refine Goes.of (fun t k => XS.ifNo X0.here hx rfl (hb hby d9_23) rfl ((if0 _ _).trans (feq (by decide)).1) k) ?_
      show Goes p e below (s₁.setTop (mkF m 26 #[.val (.ref a1), .val (.ref a2), .val (.ref a3), .val (.ref a4), .val (.int p5), .val (.int (1 : Int32)), .unset, .unset, .unset] [])) _
      refine Goes.of (fun t k => XS.iconst X0.here hx rfl (hb hby d9_26) k) ?_
      show Goes p e below (s₁.setTop (mkF m 27 #[.val (.ref a1), .val (.ref a2), .val (.ref a3), .val (.ref a4), .val (.int p5), .val (.int (1 : Int32)), .unset, .unset, .unset] [(.int (0 : Int32))])) _
      refine Goes.of (fun t k => XS.goto X0.here hx rfl (pc0 := 27) (pc' := 31) rfl (hb hby d9_27) (by decide) (by decide) k) ?_
      show Goes p e below (s₁.setTop (mkF m 31 #[.val (.ref a1), .val (.ref a2), .val (.ref a3), .val (.ref a4), .val (.int p5), .val (.int (1 : Int32)), .unset, .unset, .unset] [(.int (0 : Int32))])) _
      refine Goes.of (fun t k => XS.istore X0.here hx rfl (hb hby d9_31) rfl (l' := #[.val (.ref a1), .val (.ref a2), .val (.ref a3), .val (.ref a4), .val (.int p5), .val (.int (1 : Int32)), .val (.int (0 : Int32)), .unset, .unset]) rfl k) ?_
      show Goes p e below (s₁.setTop (mkF m 33 #[.val (.ref a1), .val (.ref a2), .val (.ref a3), .val (.ref a4), .val (.int p5), .val (.int (1 : Int32)), .val (.int (0 : Int32)), .unset, .unset] [])) _
      refine Goes.of (fun t k => XS.aloadN X0.here hx rfl (hb hby d9_33) rfl rfl k) ?_
      obtain ⟨cq1409, kq1409, q1409a, q1409b, q1409c⟩ := isOf hZ e0 E
      obtain ⟨_, _, ⟨T1409, L1409, k1409, n1409⟩, -, X1409, ⟨Lc1409, hQ1409, l1409, y1409, z1409⟩, st1409⟩ := X0.virtualBack hx (y := (⟨"com/example/ripplematch/ripplematch/core/Agenda", "pollFirst", "()Lcom/example/ripplematch/ripplematch/core/Activation;"⟩ : MethodName)) (z := (⟨"com/example/ripplematch/ripplematch/core/Agenda", "pollFirst", "()Lcom/example/ripplematch/ripplematch/core/Activation;"⟩ : MethodName)) hown (mvT hZ (wd hw 90 rfl)) (mvT hZ (wd hw 91 rfl)) (notFace_of_selects (args := #[]) (mvT hZ (wd hw 93 rfl))) (mvT hZ (wd hw 93 rfl)) (mvT hZ (wd hw 92 rfl)) (by decide) (backOf (W := 0) (rm12 l Z a0 hw [] a1 HA FA x0 _ _ h0 n0 Z0 O0 SA E F_heap F_heapSize F_gone F_disordered F_fresh F_freshSize F_size VH VF E_x0 P_x0 g_a1 g_HA g_FA g_x0 n_a1_HA n_a1_FA n_a1_x0 n_HA_FA n_HA_x0 n_FA_x0 OH OF) hZ (wd hw 94 rfl) (wd hw 2 rfl) (by decide) (by decide)) q1409a q1409c (g := (mkF m 34 #[.val (.ref a1), .val (.ref a2), .val (.ref a3), .val (.ref a4), .val (.int p5), .val (.int (1 : Int32)), .val (.int (0 : Int32)), .unset, .unset] [(.ref a1)])) rfl (by rw [hml]; rfl) (Steps.refl _) (argsL := []) (rest := []) (lenOf pd_7 rfl) rfl (by show 2 * 0 + _ ≤ _; exact Nat.le_of_eq rfl) (hb hby d9_34) (fun _ _ => ⟨rfl, e0, (by decide : 0 + 0 ≤ _), (by decide : 0 + 0 ≤ _)⟩)
      dsimp only [Pt.U, Pt.locs, Pt.cells, Pt.slots] at X1409 l1409 y1409 z1409 st1409 hQ1409
      subst l1409 y1409 z1409
      obtain ⟨rfl, N1409q, K1409, E_1409, F_heap_1409, F_heapSize_1409, F_gone_1409, F_disordered_1409, F_fresh_1409, F_freshSize_1409, F_size_1409, VH_1409, VF_1409, E_x0_1409, P_x0_1409⟩ := hQ1409
      have N1409 := Fr.app N0 N1409q
      have K1410 : Keep h0 T1409.heap [a1, a3, a4, HA, FA, x0, x1] := K0.trans K1409 (allS (Or.inl (List.mem_of_getElem? (i := 0) rfl)) (allS (Or.inl (List.mem_of_getElem? (i := 3) rfl)) (allS (Or.inl (List.mem_of_getElem? (i := 4) rfl)) (allS (Or.inl (List.mem_of_getElem? (i := 5) rfl)) all0))))
      have z1411 : n0 ≤ T1409.heap.size := Nat.le_trans Z0 K1409.1
      have f1412 := E.keep K1409
      have f1422 := E_x0.keep K1409
      have f1424 := E_x1.keep K1409
      have f1425 := P_x1.keep K1409 (ninS (Ne.symm n_a1_x1) (ninS (Ne.symm n_HA_x1) (ninS (Ne.symm n_FA_x1) (ninS (Ne.symm n_x0_x1) nin0))))
      have f1426 := VO.keep K1409 (ninS (Ne.symm n_a1_a3) (ninS n_a3_HA (ninS n_a3_FA (ninS n_a3_x0 nin0))))
      have f1427 := VC.keep K1409 (ninS (Ne.symm n_a1_a4) (ninS n_a4_HA (ninS n_a4_FA (ninS n_a4_x0 nin0))))
      have f1428 := O0.keep K1409 (allS g_a1 (allS g_HA (allS g_FA (allS g_x0 all0))))
      have f1429 := VT.keep K1409 (ninS (Ne.symm n_a1_a2) (ninS n_a2_HA (ninS n_a2_FA (ninS n_a2_x0 nin0))))
      refine Goes.of (fun t k => st1409.trans k) ?_
      show Goes p e below (T1409.setTop (mkF m 37 #[.val (.ref a1), .val (.ref a2), .val (.ref a3), .val (.ref a4), .val (.int p5), .val (.int (1 : Int32)), .val (.int (0 : Int32)), .unset, .unset] [(.ref x0)])) _
      refine Goes.of (fun t k => XS.astore X1409.here hx rfl (hb hby d9_37) rfl rfl (l' := #[.val (.ref a1), .val (.ref a2), .val (.ref a3), .val (.ref a4), .val (.int p5), .val (.int (1 : Int32)), .val (.int (0 : Int32)), .val (.ref x0), .unset]) rfl k) ?_
      show Goes p e below (T1409.setTop (mkF m 39 #[.val (.ref a1), .val (.ref a2), .val (.ref a3), .val (.ref a4), .val (.int p5), .val (.int (1 : Int32)), .val (.int (0 : Int32)), .val (.ref x0), .unset] [])) _
      refine Goes.of (fun t k => XS.aload X1409.here hx rfl (hb hby d9_39) rfl rfl k) ?_
      show Goes p e below (T1409.setTop (mkF m 41 #[.val (.ref a1), .val (.ref a2), .val (.ref a3), .val (.ref a4), .val (.int p5), .val (.int (1 : Int32)), .val (.int (0 : Int32)), .val (.ref x0), .unset] [(.ref x0)])) _
      refine Goes.of (fun t k => XS.aloadN X1409.here hx rfl (hb hby d9_41) rfl rfl k) ?_
      show Goes p e below (T1409.setTop (mkF m 42 #[.val (.ref a1), .val (.ref a2), .val (.ref a3), .val (.ref a4), .val (.int p5), .val (.int (1 : Int32)), .val (.int (0 : Int32)), .val (.ref x0), .unset] [(.ref a2), (.ref x0)])) _
      refine Goes.of (fun t k => XS.iload X1409.here hx rfl (hb hby d9_42) rfl k) ?_
      have Vc1430 := f1429
      obtain ⟨clc1430, Arc1430, qc1430, Sc1430, Nc1430, Hc1430, Gc1430⟩ := Vc1430
      have hin1431 : ¬ ((0 : Int32) < 0 ∨ clc1430.slots.size ≤ ((0 : Int32)).toNatClampNeg) := inb_of Sc1430 ⟨by decide, by decide⟩
      have hat1432 : clc1430.slots[((0 : Int32)).toNatClampNeg]? = some (.ref x0) := Hc1430.at hin1431 rfl
      refine Goes.of (fun t k => X1409.aaload hx (j := (0 : Int32)) (v := (.ref x0)) Arc1430.1 (State.isArrayOf_alike hZ.alike Arc1430.2.1) rfl Arc1430.2.2 hin1431 hat1432 (g := (mkF m 44 #[.val (.ref a1), .val (.ref a2), .val (.ref a3), .val (.ref a4), .val (.int p5), .val (.int (1 : Int32)), .val (.int (0 : Int32)), .val (.ref x0), .unset] [(.int (0 : Int32)), (.ref a2), (.ref x0)])) rfl rfl (hb hby d9_44) _ k) ?_
      show Goes p e below (T1409.setTop (mkF m 45 #[.val (.ref a1), .val (.ref a2), .val (.ref a3), .val (.ref a4), .val (.int p5), .val (.int (1 : Int32)), .val (.int (0 : Int32)), .val (.ref x0), .unset] [(.ref x0), (.ref x0)])) _
      refine Goes.of (fun t k => Jvm.RoadKit.acmp (g := (mkF m 45 #[.val (.ref a1), .val (.ref a2), .val (.ref a3), .val (.ref a4), .val (.int p5), .val (.int (1 : Int32)), .val (.int (0 : Int32)), .val (.ref x0), .unset] [(.ref x0), (.ref x0)])) X1409 hx rfl rfl rfl (pc0 := 45) (pc' := 48) (same := true) rfl (hb hby d9_45) rfl (decide_eq_true (congrArg Value.ref rfl)) (by decide) (by decide) k) ?_
      show Goes p e below (T1409.setTop (mkF m 48 #[.val (.ref a1), .val (.ref a2), .val (.ref a3), .val (.ref a4), .val (.int p5), .val (.int (1 : Int32)), .val (.int (0 : Int32)), .val (.ref x0), .unset] [])) _
      refine Goes.of (fun t k => XS.iconst X1409.here hx rfl (hb hby d9_48) k) ?_
      show Goes p e below (T1409.setTop (mkF m 49 #[.val (.ref a1), .val (.ref a2), .val (.ref a3), .val (.ref a4), .val (.int p5), .val (.int (1 : Int32)), .val (.int (0 : Int32)), .val (.ref x0), .unset] [(.int (1 : Int32))])) _
      refine Goes.of (fun t k => XS.goto X1409.here hx rfl (pc0 := 49) (pc' := 53) rfl (hb hby d9_49) (by decide) (by decide) k) ?_
      show Goes p e below (T1409.setTop (mkF m 53 #[.val (.ref a1), .val (.ref a2), .val (.ref a3), .val (.ref a4), .val (.int p5), .val (.int (1 : Int32)), .val (.int (0 : Int32)), .val (.ref x0), .unset] [(.int (1 : Int32))])) _
      refine Goes.of (fun t k => XS.istore X1409.here hx rfl (hb hby d9_53) rfl (l' := #[.val (.ref a1), .val (.ref a2), .val (.ref a3), .val (.ref a4), .val (.int p5), .val (.int (1 : Int32)), .val (.int (0 : Int32)), .val (.ref x0), .val (.int (1 : Int32))]) rfl k) ?_
      show Goes p e below (T1409.setTop (mkF m 55 #[.val (.ref a1), .val (.ref a2), .val (.ref a3), .val (.ref a4), .val (.int p5), .val (.int (1 : Int32)), .val (.int (0 : Int32)), .val (.ref x0), .val (.int (1 : Int32))] [])) _
      refine Goes.of (fun t k => XS.aloadN X1409.here hx rfl (hb hby d9_55) rfl rfl k) ?_
      show Goes p e below (T1409.setTop (mkF m 56 #[.val (.ref a1), .val (.ref a2), .val (.ref a3), .val (.ref a4), .val (.int p5), .val (.int (1 : Int32)), .val (.int (0 : Int32)), .val (.ref x0), .val (.int (1 : Int32))] [(.ref a3)])) _
      refine Goes.of (fun t k => XS.iload X1409.here hx rfl (hb hby d9_56) rfl k) ?_
      show Goes p e below (T1409.setTop (mkF m 58 #[.val (.ref a1), .val (.ref a2), .val (.ref a3), .val (.ref a4), .val (.int p5), .val (.int (1 : Int32)), .val (.int (0 : Int32)), .val (.ref x0), .val (.int (1 : Int32))] [(.int (0 : Int32)), (.ref a3)])) _
      refine Goes.of (fun t k => XS.iconst X1409.here hx rfl (hb hby d9_58) k) ?_
      have Vc1433 := f1426
      obtain ⟨clc1433, Arc1433, qc1433, Sc1433, Nc1433, Hc1433, Gc1433⟩ := Vc1433
      have hin1434 : ¬ ((0 : Int32) < 0 ∨ clc1433.slots.size ≤ ((0 : Int32)).toNatClampNeg) := inb_of Sc1433 ⟨by decide, by decide⟩
      obtain ⟨T1435, h1435, X1435, e1435, W1435, st1435⟩ := stZ X1409 hx hZ rfl Arc1433 (j := (0 : Int32)) hin1434 (g := (mkF m 59 #[.val (.ref a1), .val (.ref a2), .val (.ref a3), .val (.ref a4), .val (.int p5), .val (.int (1 : Int32)), .val (.int (0 : Int32)), .val (.ref x0), .val (.int (1 : Int32))] [(.int (0 : Int32)), (.int (0 : Int32)), (.ref a3)])) rfl rfl (hb hby d9_59)
      have V1435 : Arv Z h1435 a3 kO .boolean (2 : Int32) [(.int (nar .boolean (0 : Int32))), (.int (0 : Int32))] (.int (0 : Int32)) := Arv.set Arc1433 qc1433 Sc1433 Nc1433 Hc1433 Gc1433 (fits_nar_bool _) W1435 0 rfl (Nat.le_of_ble_eq_true rfl)
      have K1436 : Keep h0 h1435 [a1, a3, a4, HA, FA, x0, x1] := K1410.wr W1435 (Or.inl (List.mem_of_getElem? (i := 1) rfl))
      have z1437 : n0 ≤ h1435.size := Nat.le_trans z1411 (Keep.of_wr W1435).1
      have f1438 := E_1409.wr W1435
      have f1439 := E_x0_1409.wr W1435
      have f1440 := f1424.wr W1435
      have f1441 := f1425.other W1435 (Or.inl (Ne.symm n_a3_x1))
      have f1443 := f1427.other W1435 (Ne.symm n_a3_a4)
      have f1444 := f1428.wr W1435 g_a3
      have f1445 := f1429.other W1435 n_a2_a3
      have f1446 := F_heap_1409.other W1435 (Or.inl n_a1_a3)
      have f1447 := F_heapSize_1409.other W1435 (Or.inl n_a1_a3)
      have f1448 := F_gone_1409.other W1435 (Or.inl n_a1_a3)
      have f1449 := F_disordered_1409.other W1435 (Or.inl n_a1_a3)
      have f1450 := F_fresh_1409.other W1435 (Or.inl n_a1_a3)
      have f1451 := F_freshSize_1409.other W1435 (Or.inl n_a1_a3)
      have f1452 := F_size_1409.other W1435 (Or.inl n_a1_a3)
      have f1453 := VH_1409.other W1435 (Ne.symm n_a3_HA)
      have f1454 := VF_1409.other W1435 (Ne.symm n_a3_FA)
      have f1455 := P_x0_1409.other W1435 (Or.inl (Ne.symm n_a3_x0))
      have N1435 := Fr.snoc X1435 N1409 g_a3
      refine Goes.of st1435 ?_
      show Goes p e below (T1435.setTop (mkF m 60 #[.val (.ref a1), .val (.ref a2), .val (.ref a3), .val (.ref a4), .val (.int p5), .val (.int (1 : Int32)), .val (.int (0 : Int32)), .val (.ref x0), .val (.int (1 : Int32))] [])) _
      refine Goes.of (fun t k => XS.aloadN X1435.here hx rfl (hb hby d9_60) rfl rfl k) ?_
      show Goes p e below (T1435.setTop (mkF m 61 #[.val (.ref a1), .val (.ref a2), .val (.ref a3), .val (.ref a4), .val (.int p5), .val (.int (1 : Int32)), .val (.int (0 : Int32)), .val (.ref x0), .val (.int (1 : Int32))] [(.ref a4)])) _
      refine Goes.of (fun t k => XS.iconst X1435.here hx rfl (hb hby d9_61) k) ?_
      show Goes p e below (T1435.setTop (mkF m 62 #[.val (.ref a1), .val (.ref a2), .val (.ref a3), .val (.ref a4), .val (.int p5), .val (.int (1 : Int32)), .val (.int (0 : Int32)), .val (.ref x0), .val (.int (1 : Int32))] [(.int (0 : Int32)), (.ref a4)])) _
      refine Goes.of (fun t k => XS.iconst X1435.here hx rfl (hb hby d9_62) k) ?_
      have Vc1456 := f1443
      obtain ⟨clc1456, Arc1456, qc1456, Sc1456, Nc1456, Hc1456, Gc1456⟩ := Vc1456
      have hin1457 : ¬ ((0 : Int32) < 0 ∨ clc1456.slots.size ≤ ((0 : Int32)).toNatClampNeg) := inb_of Sc1456 ⟨by decide, by decide⟩
      obtain ⟨T1458, h1458, X1458, e1458, W1458, st1458⟩ := stI X1435 hx hZ e1435 Arc1456 (j := (0 : Int32)) hin1457 (g := (mkF m 63 #[.val (.ref a1), .val (.ref a2), .val (.ref a3), .val (.ref a4), .val (.int p5), .val (.int (1 : Int32)), .val (.int (0 : Int32)), .val (.ref x0), .val (.int (1 : Int32))] [(.int (0 : Int32)), (.int (0 : Int32)), (.ref a4)])) rfl rfl (hb hby d9_63)
      have V1458 : Arv Z h1458 a4 kC .int (1 : Int32) [(.int (0 : Int32))] (.int (0 : Int32)) := Arv.set Arc1456 qc1456 Sc1456 Nc1456 Hc1456 Gc1456 rfl W1458 0 rfl (Nat.le_of_ble_eq_true rfl)
      have K1459 : Keep h0 h1458 [a1, a3, a4, HA, FA, x0, x1] := K1436.wr W1458 (Or.inl (List.mem_of_getElem? (i := 2) rfl))
      have z1460 : n0 ≤ h1458.size := Nat.le_trans z1437 (Keep.of_wr W1458).1
      have f1461 := f1438.wr W1458
      have f1462 := f1439.wr W1458
      have f1463 := f1440.wr W1458
      have f1464 := f1441.other W1458 (Or.inl (Ne.symm n_a4_x1))
      have f1465 := V1435.other W1458 n_a3_a4
      have f1467 := f1444.wr W1458 g_a4
      have f1468 := f1445.other W1458 n_a2_a4
      have f1469 := f1446.other W1458 (Or.inl n_a1_a4)
      have f1470 := f1447.other W1458 (Or.inl n_a1_a4)
      have f1471 := f1448.other W1458 (Or.inl n_a1_a4)
      have f1472 := f1449.other W1458 (Or.inl n_a1_a4)
      have f1473 := f1450.other W1458 (Or.inl n_a1_a4)
      have f1474 := f1451.other W1458 (Or.inl n_a1_a4)
      have f1475 := f1452.other W1458 (Or.inl n_a1_a4)
      have f1476 := f1453.other W1458 (Ne.symm n_a4_HA)
      have f1477 := f1454.other W1458 (Ne.symm n_a4_FA)
      have f1478 := f1455.other W1458 (Or.inl (Ne.symm n_a4_x0))
      have N1458 := Fr.snoc X1458 N1435 g_a4
      refine Goes.of st1458 ?_
      show Goes p e below (T1458.setTop (mkF m 64 #[.val (.ref a1), .val (.ref a2), .val (.ref a3), .val (.ref a4), .val (.int p5), .val (.int (1 : Int32)), .val (.int (0 : Int32)), .val (.ref x0), .val (.int (1 : Int32))] [])) _
      refine Goes.of (fun t k => XS.iload X1458.here hx rfl (hb hby d9_64) rfl k) ?_
      show Goes p e below (T1458.setTop (mkF m 66 #[.val (.ref a1), .val (.ref a2), .val (.ref a3), .val (.ref a4), .val (.int p5), .val (.int (1 : Int32)), .val (.int (0 : Int32)), .val (.ref x0), .val (.int (1 : Int32))] [(.int (1 : Int32))])) _
      refine Goes.of (fun t k => XS.ifNo X1458.here hx rfl (hb hby d9_66) rfl ((if0 _ _).trans (feq (by decide)).1) k) ?_
      show Goes p e below (T1458.setTop (mkF m 69 #[.val (.ref a1), .val (.ref a2), .val (.ref a3), .val (.ref a4), .val (.int p5), .val (.int (1 : Int32)), .val (.int (0 : Int32)), .val (.ref x0), .val (.int (1 : Int32))] [])) _
      refine Goes.of (fun t k => XS.aloadN X1458.here hx rfl (hb hby d9_69) rfl rfl k) ?_
      obtain ⟨cq1479, kq1479, q1479a, q1479b, q1479c⟩ := isOf hZ e1458 f1461
      obtain ⟨_, _, ⟨T1479, L1479, k1479, n1479⟩, -, X1479, ⟨Lc1479, hQ1479, l1479, y1479, z1479⟩, st1479⟩ := X1458.virtualBack hx (y := (⟨"com/example/ripplematch/ripplematch/core/Agenda", "isEmpty", "()Z"⟩ : MethodName)) (z := (⟨"com/example/ripplematch/ripplematch/core/Agenda", "isEmpty", "()Z"⟩ : MethodName)) hown (mvT hZ (wd hw 64 rfl)) (mvT hZ (wd hw 65 rfl)) (notFace_of_selects (args := #[]) (mvT hZ (wd hw 67 rfl))) (mvT hZ (wd hw 67 rfl)) (mvT hZ (wd hw 66 rfl)) (by decide) (backOf (W := 0) (rm8 l Z a0 hw [] a1 (0 : Int32) h1458 n0 z1460 f1475) hZ (wd hw 68 rfl) (wd hw 2 rfl) (by decide) (by decide)) q1479a q1479c (g := (mkF m 70 #[.val (.ref a1), .val (.ref a2), .val (.ref a3), .val (.ref a4), .val (.int p5), .val (.int (1 : Int32)), .val (.int (0 : Int32)), .val (.ref x0), .val (.int (1 : Int32))] [(.ref a1)])) rfl (by rw [hml]; rfl) (Steps.refl _) (argsL := []) (rest := []) (lenOf pd_6 rfl) rfl (by show 2 * 0 + _ ≤ _; exact Nat.le_of_eq rfl) (hb hby d9_70) (fun _ _ => ⟨rfl, e1458, (by decide : 0 + 0 ≤ _), (by decide : 0 + 0 ≤ _)⟩)
      dsimp only [Pt.U, Pt.locs, Pt.cells, Pt.slots] at X1479 l1479 y1479 z1479 st1479 hQ1479
      subst l1479 y1479 z1479
      obtain ⟨rfl, N1479q, e1479⟩ := hQ1479
      have N1479 := Fr.app N1458 N1479q
      refine Goes.of (fun t k => st1479.trans k) ?_
      show Goes p e below (T1479.setTop (mkF m 73 #[.val (.ref a1), .val (.ref a2), .val (.ref a3), .val (.ref a4), .val (.int p5), .val (.int (1 : Int32)), .val (.int (0 : Int32)), .val (.ref x0), .val (.int (1 : Int32))] [(.int (1 : Int32))])) _
      refine Goes.of (fun t k => XS.ifNo X1479.here hx rfl (hb hby d9_73) rfl ((if0 _ _).trans (feq (by decide)).1) k) ?_
      show Goes p e below (T1479.setTop (mkF m 76 #[.val (.ref a1), .val (.ref a2), .val (.ref a3), .val (.ref a4), .val (.int p5), .val (.int (1 : Int32)), .val (.int (0 : Int32)), .val (.ref x0), .val (.int (1 : Int32))] [])) _
      refine Goes.of (fun t k => XS.iconst X1479.here hx rfl (hb hby d9_76) k) ?_
      show Goes p e below (T1479.setTop (mkF m 77 #[.val (.ref a1), .val (.ref a2), .val (.ref a3), .val (.ref a4), .val (.int p5), .val (.int (1 : Int32)), .val (.int (0 : Int32)), .val (.ref x0), .val (.int (1 : Int32))] [(.int (1 : Int32))])) _
      refine Goes.of (fun t k => XS.goto X1479.here hx rfl (pc0 := 77) (pc' := 81) rfl (hb hby d9_77) (by decide) (by decide) k) ?_
      show Goes p e below (T1479.setTop (mkF m 81 #[.val (.ref a1), .val (.ref a2), .val (.ref a3), .val (.ref a4), .val (.int p5), .val (.int (1 : Int32)), .val (.int (0 : Int32)), .val (.ref x0), .val (.int (1 : Int32))] [(.int (1 : Int32))])) _
      have eh : T1479.heap = h1458 := e1479
      exact Goes.retN (t := .boolean) X1479 hx Bd.returns (by simp) hlocks (hb hby d9_81) (⟨rfl, N1479, by rw [eh]; exact K1459, Or.inl ⟨by rw [eh]; exact f1461, by rw [eh]; exact f1469, by rw [eh]; exact f1470, by rw [eh]; exact f1471, by rw [eh]; exact f1472, by rw [eh]; exact f1473, by rw [eh]; exact f1474, by rw [eh]; exact f1475, by rw [eh]; exact f1476, by rw [eh]; exact f1477, by rw [eh]; exact f1462, by rw [eh]; exact f1478, by rw [eh]; exact f1463, by rw [eh]; exact f1464, by rw [eh]; exact f1465, by rw [eh]; exact V1458⟩⟩) (by decide) (by decide)
theorem ef_9_1480 (m : MethodId) (x0 : Addr) (x1 : Addr) (x2 : Addr) (x3 : Addr) (x4 : Int32) : entryFrame m #[(.ref x0), (.ref x1), (.ref x2), (.ref x3), (.int x4)] 9 = mkF m 0 #[.val (.ref x0), .val (.ref x1), .val (.ref x2), .val (.ref x3), .val (.int x4), .unset, .unset, .unset, .unset] [] := by first | (simp [entryFrame, mkF, argsToLocals, Value.category]; done) | rfl
def Q9_1480 (Z : State) (a1 : Addr) (a2 : Addr) (a3 : Addr) (a4 : Addr) (p5 : Int32) (HA : Addr) (FA : Addr) (x0 : Addr) (x1 : Addr) (kH : ClassId) (kF : ClassId) (kO : ClassId) (kC : ClassId) (kT : ClassId) (h0 : Heap) (n0 : Nat) (v : Option Value) (h : Heap) (L : List Loc) : Prop := v = some (.int 1) ∧ Fr n0 L ∧ Keep h0 h [a1, a3, a4, HA, FA, x0, x1] ∧ own_st Z h a1 a2 a3 a4 HA FA x0 x1 kH kF kO kC
set_option maxRecDepth 65536 in
set_option maxHeartbeats 40000000 in
theorem rm9_1480 (l : Launch) (Z : State) (a0 : Array Value) (hw : ∀ d ∈ tables_1, d.before a0 Z = true) (ws : List Jvm.Cond) (a1 : Addr) (a2 : Addr) (a3 : Addr) (a4 : Addr) (p5 : Int32) (HA : Addr) (FA : Addr) (x0 : Addr) (x1 : Addr) (kH : ClassId) (kF : ClassId) (kO : ClassId) (kC : ClassId) (kT : ClassId) (h0 : Heap) (n0 : Nat) (Z0 : n0 ≤ h0.size) (O0 : Old Z n0 h0) (SA : Sta Z Z.heap "com/example/ripplematch/ripplematch/core/Agenda" "$assertionsDisabled" "Z" (.int (1 : Int32))) (E : Exa Z h0 a1 "com/example/ripplematch/ripplematch/core/Agenda") (F_heap : Fld Z h0 a1 "com/example/ripplematch/ripplematch/core/Agenda" "heap" "[Lcom/example/ripplematch/ripplematch/core/Activation;" (.ref HA)) (F_heapSize : Fld Z h0 a1 "com/example/ripplematch/ripplematch/core/Agenda" "heapSize" "I" (.int (0 : Int32))) (F_gone : Fld Z h0 a1 "com/example/ripplematch/ripplematch/core/Agenda" "gone" "I" (.int (0 : Int32))) (F_disordered : Fld Z h0 a1 "com/example/ripplematch/ripplematch/core/Agenda" "disordered" "Z" (.int (0 : Int32))) (F_fresh : Fld Z h0 a1 "com/example/ripplematch/ripplematch/core/Agenda" "fresh" "[Lcom/example/ripplematch/ripplematch/core/Activation;" (.ref FA)) (F_freshSize : Fld Z h0 a1 "com/example/ripplematch/ripplematch/core/Agenda" "freshSize" "I" (.int (1 : Int32))) (F_size : Fld Z h0 a1 "com/example/ripplematch/ripplematch/core/Agenda" "size" "I" (.int (1 : Int32))) (VH : Arv Z h0 HA kH (.object "com/example/ripplematch/ripplematch/core/Activation") (16 : Int32) [.null, .null, .null, .null, .null, .null, .null, .null, .null, .null, .null, .null, .null, .null, .null, .null] .null) (VF : Arv Z h0 FA kF (.object "com/example/ripplematch/ripplematch/core/Activation") (16 : Int32) [(.ref x1), .null, .null, .null, .null, .null, .null, .null, .null, .null, .null, .null, .null, .null, .null, .null] .null) (E_x0 : Exa Z h0 x0 "com/example/ripplematch/ripplematch/core/Activation") (P_x0 : Fld Z h0 x0 "com/example/ripplematch/ripplematch/core/Activation" "place" "I" (.int (-1 : Int32))) (E_x1 : Exa Z h0 x1 "com/example/ripplematch/ripplematch/core/Activation") (P_x1 : Fld Z h0 x1 "com/example/ripplematch/ripplematch/core/Activation" "place" "I" (.int (-2 : Int32))) (VO : Arv Z h0 a3 kO .boolean (2 : Int32) [(.int (0 : Int32)), (.int (1 : Int32))] (.int (0 : Int32))) (VC : Arv Z h0 a4 kC .int (1 : Int32) [(.int (1 : Int32))] (.int (0 : Int32))) (VT : Arv Z h0 a2 kT (.object "com/example/ripplematch/ripplematch/core/Activation") (2 : Int32) [(.ref x0), (.ref x1)] .null) (g_a1 : n0 ≤ a1) (g_a3 : n0 ≤ a3) (g_a4 : n0 ≤ a4) (g_HA : n0 ≤ HA) (g_FA : n0 ≤ FA) (g_x0 : n0 ≤ x0) (g_x1 : n0 ≤ x1) (n_a1_a2 : a1 ≠ a2) (n_a1_a3 : a1 ≠ a3) (n_a1_a4 : a1 ≠ a4) (n_a1_HA : a1 ≠ HA) (n_a1_FA : a1 ≠ FA) (n_a1_x0 : a1 ≠ x0) (n_a1_x1 : a1 ≠ x1) (n_a2_a3 : a2 ≠ a3) (n_a2_a4 : a2 ≠ a4) (n_a2_HA : a2 ≠ HA) (n_a2_FA : a2 ≠ FA) (n_a2_x0 : a2 ≠ x0) (n_a2_x1 : a2 ≠ x1) (n_a3_a4 : a3 ≠ a4) (n_a3_HA : a3 ≠ HA) (n_a3_FA : a3 ≠ FA) (n_a3_x0 : a3 ≠ x0) (n_a3_x1 : a3 ≠ x1) (n_a4_HA : a4 ≠ HA) (n_a4_FA : a4 ≠ FA) (n_a4_x0 : a4 ≠ x0) (n_a4_x1 : a4 ≠ x1) (n_HA_FA : HA ≠ FA) (n_HA_x0 : HA ≠ x0) (n_HA_x1 : HA ≠ x1) (n_FA_x0 : FA ≠ x0) (n_FA_x1 : FA ≠ x1) (n_x0_x1 : x0 ≠ x1) (OH : Ovr Z kH "com/example/ripplematch/ripplematch/core/Activation") (OF : Ovr Z kF "com/example/ripplematch/ripplematch/core/Activation") :
    MetFree l (⟨"com/example/ripplematch/ripplematch/core/AgendaIsEmptyPinLaw", "step", "(Lcom/example/ripplematch/ripplematch/core/Agenda;[Lcom/example/ripplematch/ripplematch/core/Activation;[Z[II)Z"⟩ : MethodName) (head1 (Jvm.Cond.code (⟨"com/example/ripplematch/ripplematch/core/AgendaIsEmptyPinLaw", "step", "(Lcom/example/ripplematch/ripplematch/core/Agenda;[Lcom/example/ripplematch/ripplematch/core/Activation;[Z[II)Z"⟩ : MethodName) method_3_code 9 (some .boolean) :: ws) ({ frames := 4, cells := 0, slots := 0, locals := 60 } : Room)) (fun a U => a = #[(.ref a1), (.ref a2), (.ref a3), (.ref a4), (.int p5)] ∧ Z.Warmed39 U.vm ∧ U.heap = h0) (fun _ _ _ _ _ => True) (fun _ U o U' => ∃ v L, o = .returned v ∧ Q9_1480 Z a1 a2 a3 a4 p5 HA FA x0 x1 kH kF kO kC kT h0 n0 v U'.heap L ∧ FrameEnd U o U' L ({ frames := 4, cells := 0, slots := 0, locals := 60 } : Room).cells ({ frames := 4, cells := 0, slots := 0, locals := 60 } : Room).slots) := by
  refine MetFree.of_bodySF (plainFor_of_name pn_4) hisR ?_
  intro p e s m args below meth c s₁ Bd hml0 hP hK
  obtain ⟨rfl, hZ, hh⟩ := hP
  have hx := Bd.exec
  have hby := Bd.bytes
  have hml : c.maxLocals = 9 := hml0
  have hown : s.vm.findClass "com/example/ripplematch/ripplematch/core/AgendaIsEmptyPinLaw" = some m.cls := findClass_of_methodNamed Bd.named
  have hnm := (name_of_methodNamed Bd.named Bd.method).1
  have hlocks : meth.locks = false := BodyLoose.notSynchronized Bd
  have X0 : Stand p l e ({ frames := 4, cells := 0, slots := 0, locals := 60 } : Room) s m #[(.ref a1), (.ref a2), (.ref a3), (.ref a4), (.int p5)] below meth c s₁ [] 0 0 := Stand.of_body Bd
  have e0 : s₁.heap = h0 := by rw [← hh, Bd.state]; rfl
  have N0 := Fr.nil n0
  show Goes p e below (s₁.setTop (entryFrame m #[(.ref a1), (.ref a2), (.ref a3), (.ref a4), (.int p5)] 9)) (Fin s (Q9_1480 Z a1 a2 a3 a4 p5 HA FA x0 x1 kH kF kO kC kT h0 n0) ({ frames := 4, cells := 0, slots := 0, locals := 60 } : Room).cells ({ frames := 4, cells := 0, slots := 0, locals := 60 } : Room).slots)
  refine Goes.of (fun t k => castTop (ef_9_1480 m a1 a2 a3 a4 p5) k) ?_
  have K0 : Keep h0 h0 [a1, a3, a4, HA, FA, x0, x1] := Keep.refl _ _
  show Goes p e below (s₁.setTop (mkF m 0 #[.val (.ref a1), .val (.ref a2), .val (.ref a3), .val (.ref a4), .val (.int p5), .unset, .unset, .unset, .unset] [])) _
  refine Goes.of (fun t k => XS.iload X0.here hx rfl (hb hby d9_0) rfl k) ?_
  show Goes p e below (s₁.setTop (mkF m 2 #[.val (.ref a1), .val (.ref a2), .val (.ref a3), .val (.ref a4), .val (.int p5), .unset, .unset, .unset, .unset] [(.int p5)])) _
  refine Goes.of (fun t k => XS.iconst X0.here hx rfl (hb hby d9_2) k) ?_
  show Goes p e below (s₁.setTop (mkF m 3 #[.val (.ref a1), .val (.ref a2), .val (.ref a3), .val (.ref a4), .val (.int p5), .unset, .unset, .unset, .unset] [(.int (1 : Int32)), (.int p5)])) _
  refine Goes.of (fun t k => XS.iand X0.here hx rfl (hb hby d9_3) rfl k) ?_
  show Goes p e below (s₁.setTop (mkF m 4 #[.val (.ref a1), .val (.ref a2), .val (.ref a3), .val (.ref a4), .val (.int p5), .unset, .unset, .unset, .unset] [(.int (p5 &&& (1 : Int32)))])) _
  refine Goes.of (fun t k => XS.istore X0.here hx rfl (hb hby d9_4) rfl (l' := #[.val (.ref a1), .val (.ref a2), .val (.ref a3), .val (.ref a4), .val (.int p5), .val (.int (p5 &&& (1 : Int32))), .unset, .unset, .unset]) rfl k) ?_
  show Goes p e below (s₁.setTop (mkF m 6 #[.val (.ref a1), .val (.ref a2), .val (.ref a3), .val (.ref a4), .val (.int p5), .val (.int (p5 &&& (1 : Int32))), .unset, .unset, .unset] [])) _
  rcases own_and1 p5 with hi | hi
  · rw [hi]
    show Goes p e below (s₁.setTop (mkF m 6 #[.val (.ref a1), .val (.ref a2), .val (.ref a3), .val (.ref a4), .val (.int p5), .val (.int (0 : Int32)), .unset, .unset, .unset] [])) _
    refine Goes.of (fun t k => XS.iload X0.here hx rfl (hb hby d9_6) rfl k) ?_
    show Goes p e below (s₁.setTop (mkF m 8 #[.val (.ref a1), .val (.ref a2), .val (.ref a3), .val (.ref a4), .val (.int p5), .val (.int (0 : Int32)), .unset, .unset, .unset] [(.int p5)])) _
    refine Goes.of (fun t k => XS.iconst X0.here hx rfl (hb hby d9_8) k) ?_
    show Goes p e below (s₁.setTop (mkF m 9 #[.val (.ref a1), .val (.ref a2), .val (.ref a3), .val (.ref a4), .val (.int p5), .val (.int (0 : Int32)), .unset, .unset, .unset] [(.int (2 : Int32)), (.int p5)])) _
    refine Goes.of (fun t k => XS.iand X0.here hx rfl (hb hby d9_9) rfl k) ?_
    show Goes p e below (s₁.setTop (mkF m 10 #[.val (.ref a1), .val (.ref a2), .val (.ref a3), .val (.ref a4), .val (.int p5), .val (.int (0 : Int32)), .unset, .unset, .unset] [(.int (p5 &&& (2 : Int32)))])) _
    by_cases hc10_1481 : (p5 &&& (2 : Int32)) = (0 : Int32)
    · refine Goes.of (fun t k => XS.ifYes X0.here hx rfl (pc0 := 10) (pc' := 82) rfl (hb hby d9_10) rfl ((if0 _ _).trans (teq hc10_1481).1) (by decide) (by decide) k) ?_
      show Goes p e below (s₁.setTop (mkF m 82 #[.val (.ref a1), .val (.ref a2), .val (.ref a3), .val (.ref a4), .val (.int p5), .val (.int (0 : Int32)), .unset, .unset, .unset] [])) _
      refine Goes.of (fun t k => XS.aloadN X0.here hx rfl (hb hby d9_82) rfl rfl k) ?_
      show Goes p e below (s₁.setTop (mkF m 83 #[.val (.ref a1), .val (.ref a2), .val (.ref a3), .val (.ref a4), .val (.int p5), .val (.int (0 : Int32)), .unset, .unset, .unset] [(.ref a3)])) _
      refine Goes.of (fun t k => XS.iload X0.here hx rfl (hb hby d9_83) rfl k) ?_
      have Vc1482 := VO
      obtain ⟨clc1482, Arc1482, qc1482, Sc1482, Nc1482, Hc1482, Gc1482⟩ := Vc1482
      have hin1483 : ¬ ((0 : Int32) < 0 ∨ clc1482.slots.size ≤ ((0 : Int32)).toNatClampNeg) := inb_of Sc1482 ⟨by decide, by decide⟩
      have hat1484 : clc1482.slots[((0 : Int32)).toNatClampNeg]? = some (.int (0 : Int32)) := Hc1482.at hin1483 rfl
      refine Goes.of (fun t k => X0.baloadBooleans hx (j := (0 : Int32)) (v := (.int (0 : Int32))) (by rw [e0]; exact Arc1482.1) (State.isArrayOf_alike hZ.alike Arc1482.2.1) Arc1482.2.2 hin1483 hat1484 (g := (mkF m 85 #[.val (.ref a1), .val (.ref a2), .val (.ref a3), .val (.ref a4), .val (.int p5), .val (.int (0 : Int32)), .unset, .unset, .unset] [(.int (0 : Int32)), (.ref a3)])) rfl rfl (hb hby d9_85) _ k) ?_
      show Goes p e below (s₁.setTop (mkF m 86 #[.val (.ref a1), .val (.ref a2), .val (.ref a3), .val (.ref a4), .val (.int p5), .val (.int (0 : Int32)), .unset, .unset, .unset] [(.int (0 : Int32))])) _
      refine Goes.of (fun t k => XS.ifYes X0.here hx rfl (pc0 := 86) (pc' := 113) rfl (hb hby d9_86) rfl ((if0 _ _).trans (teq (by decide)).1) (by decide) (by decide) k) ?_
      show Goes p e below (s₁.setTop (mkF m 113 #[.val (.ref a1), .val (.ref a2), .val (.ref a3), .val (.ref a4), .val (.int p5), .val (.int (0 : Int32)), .unset, .unset, .unset] [])) _
      refine Goes.of (fun t k => XS.aloadN X0.here hx rfl (hb hby d9_113) rfl rfl k) ?_
      show Goes p e below (s₁.setTop (mkF m 114 #[.val (.ref a1), .val (.ref a2), .val (.ref a3), .val (.ref a4), .val (.int p5), .val (.int (0 : Int32)), .unset, .unset, .unset] [(.ref a1)])) _
      refine Goes.of (fun t k => XS.aloadN X0.here hx rfl (hb hby d9_114) rfl rfl k) ?_
      show Goes p e below (s₁.setTop (mkF m 115 #[.val (.ref a1), .val (.ref a2), .val (.ref a3), .val (.ref a4), .val (.int p5), .val (.int (0 : Int32)), .unset, .unset, .unset] [(.ref a2), (.ref a1)])) _
      refine Goes.of (fun t k => XS.iload X0.here hx rfl (hb hby d9_115) rfl k) ?_
      have Vc1485 := VT
      obtain ⟨clc1485, Arc1485, qc1485, Sc1485, Nc1485, Hc1485, Gc1485⟩ := Vc1485
      have hin1486 : ¬ ((0 : Int32) < 0 ∨ clc1485.slots.size ≤ ((0 : Int32)).toNatClampNeg) := inb_of Sc1485 ⟨by decide, by decide⟩
      have hat1487 : clc1485.slots[((0 : Int32)).toNatClampNeg]? = some (.ref x0) := Hc1485.at hin1486 rfl
      refine Goes.of (fun t k => X0.aaload hx (j := (0 : Int32)) (v := (.ref x0)) (by rw [e0]; exact Arc1485.1) (State.isArrayOf_alike hZ.alike Arc1485.2.1) rfl Arc1485.2.2 hin1486 hat1487 (g := (mkF m 117 #[.val (.ref a1), .val (.ref a2), .val (.ref a3), .val (.ref a4), .val (.int p5), .val (.int (0 : Int32)), .unset, .unset, .unset] [(.int (0 : Int32)), (.ref a2), (.ref a1)])) rfl rfl (hb hby d9_117) _ k) ?_
      obtain ⟨cq1488, kq1488, q1488a, q1488b, q1488c⟩ := isOf hZ e0 E
      obtain ⟨_, _, ⟨T1488, L1488, k1488, n1488⟩, -, X1488, ⟨Lc1488, hQ1488, l1488, y1488, z1488⟩, st1488⟩ := X0.virtualBack hx (y := (⟨"com/example/ripplematch/ripplematch/core/Agenda", "add", "(Lcom/example/ripplematch/ripplematch/core/Activation;)V"⟩ : MethodName)) (z := (⟨"com/example/ripplematch/ripplematch/core/Agenda", "add", "(Lcom/example/ripplematch/ripplematch/core/Activation;)V"⟩ : MethodName)) hown (mvT hZ (wd hw 75 rfl)) (mvT hZ (wd hw 76 rfl)) (notFace_of_selects (args := #[]) (mvT hZ (wd hw 78 rfl))) (mvT hZ (wd hw 78 rfl)) (mvT hZ (wd hw 77 rfl)) (by decide) (backOf (W := 0) (rm10_382 l Z a0 hw [] a1 x0 HA FA x1 _ _ h0 n0 Z0 O0 SA E F_heap F_heapSize F_gone F_disordered F_fresh F_freshSize F_size VH VF E_x0 P_x0 g_a1 g_HA g_FA g_x0 n_a1_HA n_a1_FA n_a1_x0 n_HA_FA n_HA_x0 n_FA_x0 OH OF) hZ (wd hw 79 rfl) (wd hw 2 rfl) (by decide) (by decide)) q1488a q1488c (g := (mkF m 118 #[.val (.ref a1), .val (.ref a2), .val (.ref a3), .val (.ref a4), .val (.int p5), .val (.int (0 : Int32)), .unset, .unset, .unset] [(.ref x0), (.ref a1)])) rfl (by rw [hml]; rfl) (Steps.refl _) (argsL := [(.ref x0)]) (rest := []) (lenOf pd_5 rfl) rfl (by show 2 * 0 + _ ≤ _; exact Nat.le_of_eq rfl) (hb hby d9_118) (fun _ _ => ⟨rfl, e0, (by decide : 0 + 0 ≤ _), (by decide : 0 + 0 ≤ _)⟩)
      dsimp only [Pt.U, Pt.locs, Pt.cells, Pt.slots] at X1488 l1488 y1488 z1488 st1488 hQ1488
      subst l1488 y1488 z1488
      obtain ⟨rfl, N1488q, K1488, E_1488, F_heap_1488, F_heapSize_1488, F_gone_1488, F_disordered_1488, F_fresh_1488, F_freshSize_1488, F_size_1488, VH_1488, VF_1488, E_x0_1488, P_x0_1488⟩ := hQ1488
      have N1488 := Fr.app N0 N1488q
      have K1489 : Keep h0 T1488.heap [a1, a3, a4, HA, FA, x0, x1] := K0.trans K1488 (allS (Or.inl (List.mem_of_getElem? (i := 0) rfl)) (allS (Or.inl (List.mem_of_getElem? (i := 4) rfl)) (allS (Or.inl (List.mem_of_getElem? (i := 5) rfl)) all0)))
      have z1490 : n0 ≤ T1488.heap.size := Nat.le_trans Z0 K1488.1
      have f1491 := E.keep K1488
      have f1499 := VH.keep K1488 (ninS (Ne.symm n_a1_HA) (ninS n_HA_FA (ninS n_HA_x0 nin0)))
      have f1501 := E_x0.keep K1488
      have f1503 := E_x1.keep K1488
      have f1504 := P_x1.keep K1488 (ninS (Ne.symm n_a1_x1) (ninS (Ne.symm n_FA_x1) (ninS (Ne.symm n_x0_x1) nin0)))
      have f1505 := VO.keep K1488 (ninS (Ne.symm n_a1_a3) (ninS n_a3_FA (ninS n_a3_x0 nin0)))
      have f1506 := VC.keep K1488 (ninS (Ne.symm n_a1_a4) (ninS n_a4_FA (ninS n_a4_x0 nin0)))
      have f1507 := O0.keep K1488 (allS g_a1 (allS g_FA (allS g_x0 all0)))
      have f1508 := VT.keep K1488 (ninS (Ne.symm n_a1_a2) (ninS n_a2_FA (ninS n_a2_x0 nin0)))
      refine Goes.of (fun t k => st1488.trans k) ?_
      show Goes p e below (T1488.setTop (mkF m 121 #[.val (.ref a1), .val (.ref a2), .val (.ref a3), .val (.ref a4), .val (.int p5), .val (.int (0 : Int32)), .unset, .unset, .unset] [])) _
      refine Goes.of (fun t k => XS.aloadN X1488.here hx rfl (hb hby d9_121) rfl rfl k) ?_
      show Goes p e below (T1488.setTop (mkF m 122 #[.val (.ref a1), .val (.ref a2), .val (.ref a3), .val (.ref a4), .val (.int p5), .val (.int (0 : Int32)), .unset, .unset, .unset] [(.ref a3)])) _
      refine Goes.of (fun t k => XS.iload X1488.here hx rfl (hb hby d9_122) rfl k) ?_
      show Goes p e below (T1488.setTop (mkF m 124 #[.val (.ref a1), .val (.ref a2), .val (.ref a3), .val (.ref a4), .val (.int p5), .val (.int (0 : Int32)), .unset, .unset, .unset] [(.int (0 : Int32)), (.ref a3)])) _
      refine Goes.of (fun t k => XS.iconst X1488.here hx rfl (hb hby d9_124) k) ?_
      have Vc1509 := f1505
      obtain ⟨clc1509, Arc1509, qc1509, Sc1509, Nc1509, Hc1509, Gc1509⟩ := Vc1509
      have hin1510 : ¬ ((0 : Int32) < 0 ∨ clc1509.slots.size ≤ ((0 : Int32)).toNatClampNeg) := inb_of Sc1509 ⟨by decide, by decide⟩
      obtain ⟨T1511, h1511, X1511, e1511, W1511, st1511⟩ := stZ X1488 hx hZ rfl Arc1509 (j := (0 : Int32)) hin1510 (g := (mkF m 125 #[.val (.ref a1), .val (.ref a2), .val (.ref a3), .val (.ref a4), .val (.int p5), .val (.int (0 : Int32)), .unset, .unset, .unset] [(.int (1 : Int32)), (.int (0 : Int32)), (.ref a3)])) rfl rfl (hb hby d9_125)
      have V1511 : Arv Z h1511 a3 kO .boolean (2 : Int32) [(.int (nar .boolean (1 : Int32))), (.int (1 : Int32))] (.int (0 : Int32)) := Arv.set Arc1509 qc1509 Sc1509 Nc1509 Hc1509 Gc1509 (fits_nar_bool _) W1511 0 rfl (Nat.le_of_ble_eq_true rfl)
      have K1512 : Keep h0 h1511 [a1, a3, a4, HA, FA, x0, x1] := K1489.wr W1511 (Or.inl (List.mem_of_getElem? (i := 1) rfl))
      have z1513 : n0 ≤ h1511.size := Nat.le_trans z1490 (Keep.of_wr W1511).1
      have f1514 := E_1488.wr W1511
      have f1515 := VH_1488.other W1511 (Ne.symm n_a3_HA)
      have f1516 := E_x0_1488.wr W1511
      have f1517 := f1503.wr W1511
      have f1518 := f1504.other W1511 (Or.inl (Ne.symm n_a3_x1))
      have f1520 := f1506.other W1511 (Ne.symm n_a3_a4)
      have f1521 := f1507.wr W1511 g_a3
      have f1522 := f1508.other W1511 n_a2_a3
      have f1523 := F_heap_1488.other W1511 (Or.inl n_a1_a3)
      have f1524 := F_heapSize_1488.other W1511 (Or.inl n_a1_a3)
      have f1525 := F_gone_1488.other W1511 (Or.inl n_a1_a3)
      have f1526 := F_disordered_1488.other W1511 (Or.inl n_a1_a3)
      have f1527 := F_fresh_1488.other W1511 (Or.inl n_a1_a3)
      have f1528 := F_freshSize_1488.other W1511 (Or.inl n_a1_a3)
      have f1529 := F_size_1488.other W1511 (Or.inl n_a1_a3)
      have f1530 := VF_1488.other W1511 (Ne.symm n_a3_FA)
      have f1531 := P_x0_1488.other W1511 (Or.inl (Ne.symm n_a3_x0))
      have N1511 := Fr.snoc X1511 N1488 g_a3
      refine Goes.of st1511 ?_
      show Goes p e below (T1511.setTop (mkF m 126 #[.val (.ref a1), .val (.ref a2), .val (.ref a3), .val (.ref a4), .val (.int p5), .val (.int (0 : Int32)), .unset, .unset, .unset] [])) _
      refine Goes.of (fun t k => XS.aloadN X1511.here hx rfl (hb hby d9_126) rfl rfl k) ?_
      show Goes p e below (T1511.setTop (mkF m 127 #[.val (.ref a1), .val (.ref a2), .val (.ref a3), .val (.ref a4), .val (.int p5), .val (.int (0 : Int32)), .unset, .unset, .unset] [(.ref a4)])) _
      refine Goes.of (fun t k => XS.iconst X1511.here hx rfl (hb hby d9_127) k) ?_
      show Goes p e below (T1511.setTop (mkF m 128 #[.val (.ref a1), .val (.ref a2), .val (.ref a3), .val (.ref a4), .val (.int p5), .val (.int (0 : Int32)), .unset, .unset, .unset] [(.int (0 : Int32)), (.ref a4)])) _
      refine Goes.of (fun t k => XS.aloadN X1511.here hx rfl (hb hby d9_128) rfl rfl k) ?_
      show Goes p e below (T1511.setTop (mkF m 129 #[.val (.ref a1), .val (.ref a2), .val (.ref a3), .val (.ref a4), .val (.int p5), .val (.int (0 : Int32)), .unset, .unset, .unset] [(.ref a4), (.int (0 : Int32)), (.ref a4)])) _
      refine Goes.of (fun t k => XS.iconst X1511.here hx rfl (hb hby d9_129) k) ?_
      have Vc1532 := f1520
      obtain ⟨clc1532, Arc1532, qc1532, Sc1532, Nc1532, Hc1532, Gc1532⟩ := Vc1532
      have hin1533 : ¬ ((0 : Int32) < 0 ∨ clc1532.slots.size ≤ ((0 : Int32)).toNatClampNeg) := inb_of Sc1532 ⟨by decide, by decide⟩
      have hat1534 : clc1532.slots[((0 : Int32)).toNatClampNeg]? = some (.int (1 : Int32)) := Hc1532.at hin1533 rfl
      refine Goes.of (fun t k => X1511.iaload hx (j := (0 : Int32)) (v := (.int (1 : Int32))) (by rw [e1511]; exact Arc1532.1) (State.isArrayOf_alike hZ.alike Arc1532.2.1) Arc1532.2.2 hin1533 hat1534 (g := (mkF m 130 #[.val (.ref a1), .val (.ref a2), .val (.ref a3), .val (.ref a4), .val (.int p5), .val (.int (0 : Int32)), .unset, .unset, .unset] [(.int (0 : Int32)), (.ref a4), (.int (0 : Int32)), (.ref a4)])) rfl rfl (hb hby d9_130) _ k) ?_
      show Goes p e below (T1511.setTop (mkF m 131 #[.val (.ref a1), .val (.ref a2), .val (.ref a3), .val (.ref a4), .val (.int p5), .val (.int (0 : Int32)), .unset, .unset, .unset] [(.int (1 : Int32)), (.int (0 : Int32)), (.ref a4)])) _
      refine Goes.of (fun t k => XS.iconst X1511.here hx rfl (hb hby d9_131) k) ?_
      show Goes p e below (T1511.setTop (mkF m 132 #[.val (.ref a1), .val (.ref a2), .val (.ref a3), .val (.ref a4), .val (.int p5), .val (.int (0 : Int32)), .unset, .unset, .unset] [(.int (1 : Int32)), (.int (1 : Int32)), (.int (0 : Int32)), (.ref a4)])) _
      refine Goes.of (fun t k => XS.iadd X1511.here hx rfl (hb hby d9_132) rfl k) ?_
      have Vc1535 := f1520
      obtain ⟨clc1535, Arc1535, qc1535, Sc1535, Nc1535, Hc1535, Gc1535⟩ := Vc1535
      have hin1536 : ¬ ((0 : Int32) < 0 ∨ clc1535.slots.size ≤ ((0 : Int32)).toNatClampNeg) := inb_of Sc1535 ⟨by decide, by decide⟩
      obtain ⟨T1537, h1537, X1537, e1537, W1537, st1537⟩ := stI X1511 hx hZ e1511 Arc1535 (j := (0 : Int32)) hin1536 (g := (mkF m 133 #[.val (.ref a1), .val (.ref a2), .val (.ref a3), .val (.ref a4), .val (.int p5), .val (.int (0 : Int32)), .unset, .unset, .unset] [(.int (2 : Int32)), (.int (0 : Int32)), (.ref a4)])) rfl rfl (hb hby d9_133)
      have V1537 : Arv Z h1537 a4 kC .int (1 : Int32) [(.int (2 : Int32))] (.int (0 : Int32)) := Arv.set Arc1535 qc1535 Sc1535 Nc1535 Hc1535 Gc1535 rfl W1537 0 rfl (Nat.le_of_ble_eq_true rfl)
      have K1538 : Keep h0 h1537 [a1, a3, a4, HA, FA, x0, x1] := K1512.wr W1537 (Or.inl (List.mem_of_getElem? (i := 2) rfl))
      have z1539 : n0 ≤ h1537.size := Nat.le_trans z1513 (Keep.of_wr W1537).1
      have f1540 := f1514.wr W1537
      have f1541 := f1515.other W1537 (Ne.symm n_a4_HA)
      have f1542 := f1516.wr W1537
      have f1543 := f1517.wr W1537
      have f1544 := f1518.other W1537 (Or.inl (Ne.symm n_a4_x1))
      have f1545 := V1511.other W1537 n_a3_a4
      have f1547 := f1521.wr W1537 g_a4
      have f1548 := f1522.other W1537 n_a2_a4
      have f1549 := f1523.other W1537 (Or.inl n_a1_a4)
      have f1550 := f1524.other W1537 (Or.inl n_a1_a4)
      have f1551 := f1525.other W1537 (Or.inl n_a1_a4)
      have f1552 := f1526.other W1537 (Or.inl n_a1_a4)
      have f1553 := f1527.other W1537 (Or.inl n_a1_a4)
      have f1554 := f1528.other W1537 (Or.inl n_a1_a4)
      have f1555 := f1529.other W1537 (Or.inl n_a1_a4)
      have f1556 := f1530.other W1537 (Ne.symm n_a4_FA)
      have f1557 := f1531.other W1537 (Or.inl (Ne.symm n_a4_x0))
      have N1537 := Fr.snoc X1537 N1511 g_a4
      refine Goes.of st1537 ?_
      show Goes p e below (T1537.setTop (mkF m 134 #[.val (.ref a1), .val (.ref a2), .val (.ref a3), .val (.ref a4), .val (.int p5), .val (.int (0 : Int32)), .unset, .unset, .unset] [])) _
      refine Goes.of (fun t k => XS.aloadN X1537.here hx rfl (hb hby d9_134) rfl rfl k) ?_
      obtain ⟨cq1558, kq1558, q1558a, q1558b, q1558c⟩ := isOf hZ e1537 f1540
      obtain ⟨_, _, ⟨T1558, L1558, k1558, n1558⟩, -, X1558, ⟨Lc1558, hQ1558, l1558, y1558, z1558⟩, st1558⟩ := X1537.virtualBack hx (y := (⟨"com/example/ripplematch/ripplematch/core/Agenda", "isEmpty", "()Z"⟩ : MethodName)) (z := (⟨"com/example/ripplematch/ripplematch/core/Agenda", "isEmpty", "()Z"⟩ : MethodName)) hown (mvT hZ (wd hw 64 rfl)) (mvT hZ (wd hw 65 rfl)) (notFace_of_selects (args := #[]) (mvT hZ (wd hw 67 rfl))) (mvT hZ (wd hw 67 rfl)) (mvT hZ (wd hw 66 rfl)) (by decide) (backOf (W := 0) (rm8 l Z a0 hw [] a1 (2 : Int32) h1537 n0 z1539 f1555) hZ (wd hw 68 rfl) (wd hw 2 rfl) (by decide) (by decide)) q1558a q1558c (g := (mkF m 135 #[.val (.ref a1), .val (.ref a2), .val (.ref a3), .val (.ref a4), .val (.int p5), .val (.int (0 : Int32)), .unset, .unset, .unset] [(.ref a1)])) rfl (by rw [hml]; rfl) (Steps.refl _) (argsL := []) (rest := []) (lenOf pd_6 rfl) rfl (by show 2 * 0 + _ ≤ _; exact Nat.le_of_eq rfl) (hb hby d9_135) (fun _ _ => ⟨rfl, e1537, (by decide : 0 + 0 ≤ _), (by decide : 0 + 0 ≤ _)⟩)
      dsimp only [Pt.U, Pt.locs, Pt.cells, Pt.slots] at X1558 l1558 y1558 z1558 st1558 hQ1558
      subst l1558 y1558 z1558
      obtain ⟨rfl, N1558q, e1558⟩ := hQ1558
      have N1558 := Fr.app N1537 N1558q
      refine Goes.of (fun t k => st1558.trans k) ?_
      show Goes p e below (T1558.setTop (mkF m 138 #[.val (.ref a1), .val (.ref a2), .val (.ref a3), .val (.ref a4), .val (.int p5), .val (.int (0 : Int32)), .unset, .unset, .unset] [(.int (0 : Int32))])) _
      refine Goes.of (fun t k => XS.aloadN X1558.here hx rfl (hb hby d9_138) rfl rfl k) ?_
      show Goes p e below (T1558.setTop (mkF m 139 #[.val (.ref a1), .val (.ref a2), .val (.ref a3), .val (.ref a4), .val (.int p5), .val (.int (0 : Int32)), .unset, .unset, .unset] [(.ref a4), (.int (0 : Int32))])) _
      refine Goes.of (fun t k => XS.iconst X1558.here hx rfl (hb hby d9_139) k) ?_
      have Vc1559 := V1537
      obtain ⟨clc1559, Arc1559, qc1559, Sc1559, Nc1559, Hc1559, Gc1559⟩ := Vc1559
      have hin1560 : ¬ ((0 : Int32) < 0 ∨ clc1559.slots.size ≤ ((0 : Int32)).toNatClampNeg) := inb_of Sc1559 ⟨by decide, by decide⟩
      have hat1561 : clc1559.slots[((0 : Int32)).toNatClampNeg]? = some (.int (2 : Int32)) := Hc1559.at hin1560 rfl
      refine Goes.of (fun t k => X1558.iaload hx (j := (0 : Int32)) (v := (.int (2 : Int32))) (by rw [e1558]; exact Arc1559.1) (State.isArrayOf_alike hZ.alike Arc1559.2.1) Arc1559.2.2 hin1560 hat1561 (g := (mkF m 140 #[.val (.ref a1), .val (.ref a2), .val (.ref a3), .val (.ref a4), .val (.int p5), .val (.int (0 : Int32)), .unset, .unset, .unset] [(.int (0 : Int32)), (.ref a4), (.int (0 : Int32))])) rfl rfl (hb hby d9_140) _ k) ?_
      show Goes p e below (T1558.setTop (mkF m 141 #[.val (.ref a1), .val (.ref a2), .val (.ref a3), .val (.ref a4), .val (.int p5), .val (.int (0 : Int32)), .unset, .unset, .unset] [(.int (2 : Int32)), (.int (0 : Int32))])) _
      refine Goes.of (fun t k => XS.ifYes X1558.here hx rfl (pc0 := 141) (pc' := 148) rfl (hb hby d9_141) rfl ((if0 _ _).trans (feq (by decide)).2) (by decide) (by decide) k) ?_
      show Goes p e below (T1558.setTop (mkF m 148 #[.val (.ref a1), .val (.ref a2), .val (.ref a3), .val (.ref a4), .val (.int p5), .val (.int (0 : Int32)), .unset, .unset, .unset] [(.int (0 : Int32))])) _
      refine Goes.of (fun t k => XS.iconst X1558.here hx rfl (hb hby d9_148) k) ?_
      show Goes p e below (T1558.setTop (mkF m 149 #[.val (.ref a1), .val (.ref a2), .val (.ref a3), .val (.ref a4), .val (.int p5), .val (.int (0 : Int32)), .unset, .unset, .unset] [(.int (0 : Int32)), (.int (0 : Int32))])) _
      refine Goes.of (fun t k => XS.icmpNo X1558.here hx rfl (hb hby d9_149) rfl (teq (by decide)).2 k) ?_
      show Goes p e below (T1558.setTop (mkF m 152 #[.val (.ref a1), .val (.ref a2), .val (.ref a3), .val (.ref a4), .val (.int p5), .val (.int (0 : Int32)), .unset, .unset, .unset] [])) _
      refine Goes.of (fun t k => XS.iconst X1558.here hx rfl (hb hby d9_152) k) ?_
      show Goes p e below (T1558.setTop (mkF m 153 #[.val (.ref a1), .val (.ref a2), .val (.ref a3), .val (.ref a4), .val (.int p5), .val (.int (0 : Int32)), .unset, .unset, .unset] [(.int (1 : Int32))])) _
      refine Goes.of (fun t k => XS.goto X1558.here hx rfl (pc0 := 153) (pc' := 157) rfl (hb hby d9_153) (by decide) (by decide) k) ?_
      show Goes p e below (T1558.setTop (mkF m 157 #[.val (.ref a1), .val (.ref a2), .val (.ref a3), .val (.ref a4), .val (.int p5), .val (.int (0 : Int32)), .unset, .unset, .unset] [(.int (1 : Int32))])) _
      have eh : T1558.heap = h1537 := e1558
      exact Goes.retN (t := .boolean) X1558 hx Bd.returns (by simp) hlocks (hb hby d9_157) (⟨rfl, N1558, by rw [eh]; exact K1538, Or.inr (Or.inr (Or.inr (Or.inr (⟨by rw [eh]; exact f1540, by rw [eh]; exact f1549, by rw [eh]; exact f1550, by rw [eh]; exact f1551, by rw [eh]; exact f1552, by rw [eh]; exact f1553, by rw [eh]; exact f1554, by rw [eh]; exact f1555, by rw [eh]; exact f1541, by rw [eh]; exact f1556, by rw [eh]; exact f1542, by rw [eh]; exact f1557, by rw [eh]; exact f1543, by rw [eh]; exact f1544, by rw [eh]; exact f1545, by rw [eh]; exact V1537⟩))))⟩) (by decide) (by decide)
    · refine Goes.of (fun t k => XS.ifNo X0.here hx rfl (hb hby d9_10) rfl ((if0 _ _).trans (feq hc10_1481).1) k) ?_
      show Goes p e below (s₁.setTop (mkF m 13 #[.val (.ref a1), .val (.ref a2), .val (.ref a3), .val (.ref a4), .val (.int p5), .val (.int (0 : Int32)), .unset, .unset, .unset] [])) _
      refine Goes.of (fun t k => XS.aloadN X0.here hx rfl (hb hby d9_13) rfl rfl k) ?_
      show Goes p e below (s₁.setTop (mkF m 14 #[.val (.ref a1), .val (.ref a2), .val (.ref a3), .val (.ref a4), .val (.int p5), .val (.int (0 : Int32)), .unset, .unset, .unset] [(.ref a4)])) _
      refine Goes.of (fun t k => XS.iconst X0.here hx rfl (hb hby d9_14) k) ?_
      have Vc1562 := VC
      obtain ⟨clc1562, Arc1562, qc1562, Sc1562, Nc1562, Hc1562, Gc1562⟩ := Vc1562
      have hin1563 : ¬ ((0 : Int32) < 0 ∨ clc1562.slots.size ≤ ((0 : Int32)).toNatClampNeg) := inb_of Sc1562 ⟨by decide, by decide⟩
      have hat1564 : clc1562.slots[((0 : Int32)).toNatClampNeg]? = some (.int (1 : Int32)) := Hc1562.at hin1563 rfl
      refine Goes.of (fun t k => X0.iaload hx (j := (0 : Int32)) (v := (.int (1 : Int32))) (by rw [e0]; exact Arc1562.1) (State.isArrayOf_alike hZ.alike Arc1562.2.1) Arc1562.2.2 hin1563 hat1564 (g := (mkF m 15 #[.val (.ref a1), .val (.ref a2), .val (.ref a3), .val (.ref a4), .val (.int p5), .val (.int (0 : Int32)), .unset, .unset, .unset] [(.int (0 : Int32)), (.ref a4)])) rfl rfl (hb hby d9_15) _ k) ?_
      show Goes p e below (s₁.setTop (mkF m 16 #[.val (.ref a1), .val (.ref a2), .val (.ref a3), .val (.ref a4), .val (.int p5), .val (.int (0 : Int32)), .unset, .unset, .unset] [(.int (1 : Int32))])) _
      refine Goes.of (fun t k => XS.iconst X0.here hx rfl (hb hby d9_16) k) ?_
      show Goes p e below (s₁.setTop (mkF m 17 #[.val (.ref a1), .val (.ref a2), .val (.ref a3), .val (.ref a4), .val (.int p5), .val (.int (0 : Int32)), .unset, .unset, .unset] [(.int (1 : Int32)), (.int (1 : Int32))])) _
      refine Goes.of (fun t k => XS.icmpNo X0.here hx rfl (hb hby d9_17) rfl (teq (by decide)).2 k) ?_
      show Goes p e below (s₁.setTop (mkF m 20 #[.val (.ref a1), .val (.ref a2), .val (.ref a3), .val (.ref a4), .val (.int p5), .val (.int (0 : Int32)), .unset, .unset, .unset] [])) _
      refine Goes.of (fun t k => XS.aloadN X0.here hx rfl (hb hby d9_20) rfl rfl k) ?_
      show Goes p e below (s₁.setTop (mkF m 21 #[.val (.ref a1), .val (.ref a2), .val (.ref a3), .val (.ref a4), .val (.int p5), .val (.int (0 : Int32)), .unset, .unset, .unset] [(.ref a3)])) _
      refine Goes.of (fun t k => XS.iconst X0.here hx rfl (hb hby d9_21) k) ?_
      have Vc1565 := VO
      obtain ⟨clc1565, Arc1565, qc1565, Sc1565, Nc1565, Hc1565, Gc1565⟩ := Vc1565
      have hin1566 : ¬ ((0 : Int32) < 0 ∨ clc1565.slots.size ≤ ((0 : Int32)).toNatClampNeg) := inb_of Sc1565 ⟨by decide, by decide⟩
      have hat1567 : clc1565.slots[((0 : Int32)).toNatClampNeg]? = some (.int (0 : Int32)) := Hc1565.at hin1566 rfl
      refine Goes.of (fun t k => X0.baloadBooleans hx (j := (0 : Int32)) (v := (.int (0 : Int32))) (by rw [e0]; exact Arc1565.1) (State.isArrayOf_alike hZ.alike Arc1565.2.1) Arc1565.2.2 hin1566 hat1567 (g := (mkF m 22 #[.val (.ref a1), .val (.ref a2), .val (.ref a3), .val (.ref a4), .val (.int p5), .val (.int (0 : Int32)), .unset, .unset, .unset] [(.int (0 : Int32)), (.ref a3)])) rfl rfl (hb hby d9_22) _ k) ?_
      show Goes p e below (s₁.setTop (mkF m 23 #[.val (.ref a1), .val (.ref a2), .val (.ref a3), .val (.ref a4), .val (.int p5), .val (.int (0 : Int32)), .unset, .unset, .unset] [(.int (0 : Int32))])) _
      refine Goes.of (fun t k => XS.ifYes X0.here hx rfl (pc0 := 23) (pc' := 30) rfl (hb hby d9_23) rfl ((if0 _ _).trans (teq (by decide)).1) (by decide) (by decide) k) ?_
      show Goes p e below (s₁.setTop (mkF m 30 #[.val (.ref a1), .val (.ref a2), .val (.ref a3), .val (.ref a4), .val (.int p5), .val (.int (0 : Int32)), .unset, .unset, .unset] [])) _
      refine Goes.of (fun t k => XS.iconst X0.here hx rfl (hb hby d9_30) k) ?_
      show Goes p e below (s₁.setTop (mkF m 31 #[.val (.ref a1), .val (.ref a2), .val (.ref a3), .val (.ref a4), .val (.int p5), .val (.int (0 : Int32)), .unset, .unset, .unset] [(.int (1 : Int32))])) _
      refine Goes.of (fun t k => XS.istore X0.here hx rfl (hb hby d9_31) rfl (l' := #[.val (.ref a1), .val (.ref a2), .val (.ref a3), .val (.ref a4), .val (.int p5), .val (.int (0 : Int32)), .val (.int (1 : Int32)), .unset, .unset]) rfl k) ?_
      show Goes p e below (s₁.setTop (mkF m 33 #[.val (.ref a1), .val (.ref a2), .val (.ref a3), .val (.ref a4), .val (.int p5), .val (.int (0 : Int32)), .val (.int (1 : Int32)), .unset, .unset] [])) _
      refine Goes.of (fun t k => XS.aloadN X0.here hx rfl (hb hby d9_33) rfl rfl k) ?_
      obtain ⟨cq1568, kq1568, q1568a, q1568b, q1568c⟩ := isOf hZ e0 E
      obtain ⟨_, _, ⟨T1568, L1568, k1568, n1568⟩, -, X1568, ⟨Lc1568, hQ1568, l1568, y1568, z1568⟩, st1568⟩ := X0.virtualBack hx (y := (⟨"com/example/ripplematch/ripplematch/core/Agenda", "pollFirst", "()Lcom/example/ripplematch/ripplematch/core/Activation;"⟩ : MethodName)) (z := (⟨"com/example/ripplematch/ripplematch/core/Agenda", "pollFirst", "()Lcom/example/ripplematch/ripplematch/core/Activation;"⟩ : MethodName)) hown (mvT hZ (wd hw 90 rfl)) (mvT hZ (wd hw 91 rfl)) (notFace_of_selects (args := #[]) (mvT hZ (wd hw 93 rfl))) (mvT hZ (wd hw 93 rfl)) (mvT hZ (wd hw 92 rfl)) (by decide) (backOf (W := 0) (rm12 l Z a0 hw [] a1 HA FA x1 _ _ h0 n0 Z0 O0 SA E F_heap F_heapSize F_gone F_disordered F_fresh F_freshSize F_size VH VF E_x1 P_x1 g_a1 g_HA g_FA g_x1 n_a1_HA n_a1_FA n_a1_x1 n_HA_FA n_HA_x1 n_FA_x1 OH OF) hZ (wd hw 94 rfl) (wd hw 2 rfl) (by decide) (by decide)) q1568a q1568c (g := (mkF m 34 #[.val (.ref a1), .val (.ref a2), .val (.ref a3), .val (.ref a4), .val (.int p5), .val (.int (0 : Int32)), .val (.int (1 : Int32)), .unset, .unset] [(.ref a1)])) rfl (by rw [hml]; rfl) (Steps.refl _) (argsL := []) (rest := []) (lenOf pd_7 rfl) rfl (by show 2 * 0 + _ ≤ _; exact Nat.le_of_eq rfl) (hb hby d9_34) (fun _ _ => ⟨rfl, e0, (by decide : 0 + 0 ≤ _), (by decide : 0 + 0 ≤ _)⟩)
      dsimp only [Pt.U, Pt.locs, Pt.cells, Pt.slots] at X1568 l1568 y1568 z1568 st1568 hQ1568
      subst l1568 y1568 z1568
      obtain ⟨rfl, N1568q, K1568, E_1568, F_heap_1568, F_heapSize_1568, F_gone_1568, F_disordered_1568, F_fresh_1568, F_freshSize_1568, F_size_1568, VH_1568, VF_1568, E_x1_1568, P_x1_1568⟩ := hQ1568
      have N1568 := Fr.app N0 N1568q
      have K1569 : Keep h0 T1568.heap [a1, a3, a4, HA, FA, x0, x1] := K0.trans K1568 (allS (Or.inl (List.mem_of_getElem? (i := 0) rfl)) (allS (Or.inl (List.mem_of_getElem? (i := 3) rfl)) (allS (Or.inl (List.mem_of_getElem? (i := 4) rfl)) (allS (Or.inl (List.mem_of_getElem? (i := 6) rfl)) all0))))
      have z1570 : n0 ≤ T1568.heap.size := Nat.le_trans Z0 K1568.1
      have f1571 := E.keep K1568
      have f1581 := E_x0.keep K1568
      have f1582 := P_x0.keep K1568 (ninS (Ne.symm n_a1_x0) (ninS (Ne.symm n_HA_x0) (ninS (Ne.symm n_FA_x0) (ninS n_x0_x1 nin0))))
      have f1583 := E_x1.keep K1568
      have f1585 := VO.keep K1568 (ninS (Ne.symm n_a1_a3) (ninS n_a3_HA (ninS n_a3_FA (ninS n_a3_x1 nin0))))
      have f1586 := VC.keep K1568 (ninS (Ne.symm n_a1_a4) (ninS n_a4_HA (ninS n_a4_FA (ninS n_a4_x1 nin0))))
      have f1587 := O0.keep K1568 (allS g_a1 (allS g_HA (allS g_FA (allS g_x1 all0))))
      have f1588 := VT.keep K1568 (ninS (Ne.symm n_a1_a2) (ninS n_a2_HA (ninS n_a2_FA (ninS n_a2_x1 nin0))))
      refine Goes.of (fun t k => st1568.trans k) ?_
      show Goes p e below (T1568.setTop (mkF m 37 #[.val (.ref a1), .val (.ref a2), .val (.ref a3), .val (.ref a4), .val (.int p5), .val (.int (0 : Int32)), .val (.int (1 : Int32)), .unset, .unset] [(.ref x1)])) _
      refine Goes.of (fun t k => XS.astore X1568.here hx rfl (hb hby d9_37) rfl rfl (l' := #[.val (.ref a1), .val (.ref a2), .val (.ref a3), .val (.ref a4), .val (.int p5), .val (.int (0 : Int32)), .val (.int (1 : Int32)), .val (.ref x1), .unset]) rfl k) ?_
      show Goes p e below (T1568.setTop (mkF m 39 #[.val (.ref a1), .val (.ref a2), .val (.ref a3), .val (.ref a4), .val (.int p5), .val (.int (0 : Int32)), .val (.int (1 : Int32)), .val (.ref x1), .unset] [])) _
      refine Goes.of (fun t k => XS.aload X1568.here hx rfl (hb hby d9_39) rfl rfl k) ?_
      show Goes p e below (T1568.setTop (mkF m 41 #[.val (.ref a1), .val (.ref a2), .val (.ref a3), .val (.ref a4), .val (.int p5), .val (.int (0 : Int32)), .val (.int (1 : Int32)), .val (.ref x1), .unset] [(.ref x1)])) _
      refine Goes.of (fun t k => XS.aloadN X1568.here hx rfl (hb hby d9_41) rfl rfl k) ?_
      show Goes p e below (T1568.setTop (mkF m 42 #[.val (.ref a1), .val (.ref a2), .val (.ref a3), .val (.ref a4), .val (.int p5), .val (.int (0 : Int32)), .val (.int (1 : Int32)), .val (.ref x1), .unset] [(.ref a2), (.ref x1)])) _
      refine Goes.of (fun t k => XS.iload X1568.here hx rfl (hb hby d9_42) rfl k) ?_
      have Vc1589 := f1588
      obtain ⟨clc1589, Arc1589, qc1589, Sc1589, Nc1589, Hc1589, Gc1589⟩ := Vc1589
      have hin1590 : ¬ ((1 : Int32) < 0 ∨ clc1589.slots.size ≤ ((1 : Int32)).toNatClampNeg) := inb_of Sc1589 ⟨by decide, by decide⟩
      have hat1591 : clc1589.slots[((1 : Int32)).toNatClampNeg]? = some (.ref x1) := Hc1589.at hin1590 rfl
      refine Goes.of (fun t k => X1568.aaload hx (j := (1 : Int32)) (v := (.ref x1)) Arc1589.1 (State.isArrayOf_alike hZ.alike Arc1589.2.1) rfl Arc1589.2.2 hin1590 hat1591 (g := (mkF m 44 #[.val (.ref a1), .val (.ref a2), .val (.ref a3), .val (.ref a4), .val (.int p5), .val (.int (0 : Int32)), .val (.int (1 : Int32)), .val (.ref x1), .unset] [(.int (1 : Int32)), (.ref a2), (.ref x1)])) rfl rfl (hb hby d9_44) _ k) ?_
      show Goes p e below (T1568.setTop (mkF m 45 #[.val (.ref a1), .val (.ref a2), .val (.ref a3), .val (.ref a4), .val (.int p5), .val (.int (0 : Int32)), .val (.int (1 : Int32)), .val (.ref x1), .unset] [(.ref x1), (.ref x1)])) _
      refine Goes.of (fun t k => Jvm.RoadKit.acmp (g := (mkF m 45 #[.val (.ref a1), .val (.ref a2), .val (.ref a3), .val (.ref a4), .val (.int p5), .val (.int (0 : Int32)), .val (.int (1 : Int32)), .val (.ref x1), .unset] [(.ref x1), (.ref x1)])) X1568 hx rfl rfl rfl (pc0 := 45) (pc' := 48) (same := true) rfl (hb hby d9_45) rfl (decide_eq_true (congrArg Value.ref rfl)) (by decide) (by decide) k) ?_
      show Goes p e below (T1568.setTop (mkF m 48 #[.val (.ref a1), .val (.ref a2), .val (.ref a3), .val (.ref a4), .val (.int p5), .val (.int (0 : Int32)), .val (.int (1 : Int32)), .val (.ref x1), .unset] [])) _
      refine Goes.of (fun t k => XS.iconst X1568.here hx rfl (hb hby d9_48) k) ?_
      show Goes p e below (T1568.setTop (mkF m 49 #[.val (.ref a1), .val (.ref a2), .val (.ref a3), .val (.ref a4), .val (.int p5), .val (.int (0 : Int32)), .val (.int (1 : Int32)), .val (.ref x1), .unset] [(.int (1 : Int32))])) _
      refine Goes.of (fun t k => XS.goto X1568.here hx rfl (pc0 := 49) (pc' := 53) rfl (hb hby d9_49) (by decide) (by decide) k) ?_
      show Goes p e below (T1568.setTop (mkF m 53 #[.val (.ref a1), .val (.ref a2), .val (.ref a3), .val (.ref a4), .val (.int p5), .val (.int (0 : Int32)), .val (.int (1 : Int32)), .val (.ref x1), .unset] [(.int (1 : Int32))])) _
      refine Goes.of (fun t k => XS.istore X1568.here hx rfl (hb hby d9_53) rfl (l' := #[.val (.ref a1), .val (.ref a2), .val (.ref a3), .val (.ref a4), .val (.int p5), .val (.int (0 : Int32)), .val (.int (1 : Int32)), .val (.ref x1), .val (.int (1 : Int32))]) rfl k) ?_
      show Goes p e below (T1568.setTop (mkF m 55 #[.val (.ref a1), .val (.ref a2), .val (.ref a3), .val (.ref a4), .val (.int p5), .val (.int (0 : Int32)), .val (.int (1 : Int32)), .val (.ref x1), .val (.int (1 : Int32))] [])) _
      refine Goes.of (fun t k => XS.aloadN X1568.here hx rfl (hb hby d9_55) rfl rfl k) ?_
      show Goes p e below (T1568.setTop (mkF m 56 #[.val (.ref a1), .val (.ref a2), .val (.ref a3), .val (.ref a4), .val (.int p5), .val (.int (0 : Int32)), .val (.int (1 : Int32)), .val (.ref x1), .val (.int (1 : Int32))] [(.ref a3)])) _
      refine Goes.of (fun t k => XS.iload X1568.here hx rfl (hb hby d9_56) rfl k) ?_
      show Goes p e below (T1568.setTop (mkF m 58 #[.val (.ref a1), .val (.ref a2), .val (.ref a3), .val (.ref a4), .val (.int p5), .val (.int (0 : Int32)), .val (.int (1 : Int32)), .val (.ref x1), .val (.int (1 : Int32))] [(.int (1 : Int32)), (.ref a3)])) _
      refine Goes.of (fun t k => XS.iconst X1568.here hx rfl (hb hby d9_58) k) ?_
      have Vc1592 := f1585
      obtain ⟨clc1592, Arc1592, qc1592, Sc1592, Nc1592, Hc1592, Gc1592⟩ := Vc1592
      have hin1593 : ¬ ((1 : Int32) < 0 ∨ clc1592.slots.size ≤ ((1 : Int32)).toNatClampNeg) := inb_of Sc1592 ⟨by decide, by decide⟩
      obtain ⟨T1594, h1594, X1594, e1594, W1594, st1594⟩ := stZ X1568 hx hZ rfl Arc1592 (j := (1 : Int32)) hin1593 (g := (mkF m 59 #[.val (.ref a1), .val (.ref a2), .val (.ref a3), .val (.ref a4), .val (.int p5), .val (.int (0 : Int32)), .val (.int (1 : Int32)), .val (.ref x1), .val (.int (1 : Int32))] [(.int (0 : Int32)), (.int (1 : Int32)), (.ref a3)])) rfl rfl (hb hby d9_59)
      have V1594 : Arv Z h1594 a3 kO .boolean (2 : Int32) [(.int (0 : Int32)), (.int (nar .boolean (0 : Int32)))] (.int (0 : Int32)) := Arv.set Arc1592 qc1592 Sc1592 Nc1592 Hc1592 Gc1592 (fits_nar_bool _) W1594 1 rfl (Nat.le_of_ble_eq_true rfl)
      have K1595 : Keep h0 h1594 [a1, a3, a4, HA, FA, x0, x1] := K1569.wr W1594 (Or.inl (List.mem_of_getElem? (i := 1) rfl))
      have z1596 : n0 ≤ h1594.size := Nat.le_trans z1570 (Keep.of_wr W1594).1
      have f1597 := E_1568.wr W1594
      have f1598 := f1581.wr W1594
      have f1599 := f1582.other W1594 (Or.inl (Ne.symm n_a3_x0))
      have f1600 := E_x1_1568.wr W1594
      have f1602 := f1586.other W1594 (Ne.symm n_a3_a4)
      have f1603 := f1587.wr W1594 g_a3
      have f1604 := f1588.other W1594 n_a2_a3
      have f1605 := F_heap_1568.other W1594 (Or.inl n_a1_a3)
      have f1606 := F_heapSize_1568.other W1594 (Or.inl n_a1_a3)
      have f1607 := F_gone_1568.other W1594 (Or.inl n_a1_a3)
      have f1608 := F_disordered_1568.other W1594 (Or.inl n_a1_a3)
      have f1609 := F_fresh_1568.other W1594 (Or.inl n_a1_a3)
      have f1610 := F_freshSize_1568.other W1594 (Or.inl n_a1_a3)
      have f1611 := F_size_1568.other W1594 (Or.inl n_a1_a3)
      have f1612 := VH_1568.other W1594 (Ne.symm n_a3_HA)
      have f1613 := VF_1568.other W1594 (Ne.symm n_a3_FA)
      have f1614 := P_x1_1568.other W1594 (Or.inl (Ne.symm n_a3_x1))
      have N1594 := Fr.snoc X1594 N1568 g_a3
      refine Goes.of st1594 ?_
      show Goes p e below (T1594.setTop (mkF m 60 #[.val (.ref a1), .val (.ref a2), .val (.ref a3), .val (.ref a4), .val (.int p5), .val (.int (0 : Int32)), .val (.int (1 : Int32)), .val (.ref x1), .val (.int (1 : Int32))] [])) _
      refine Goes.of (fun t k => XS.aloadN X1594.here hx rfl (hb hby d9_60) rfl rfl k) ?_
      show Goes p e below (T1594.setTop (mkF m 61 #[.val (.ref a1), .val (.ref a2), .val (.ref a3), .val (.ref a4), .val (.int p5), .val (.int (0 : Int32)), .val (.int (1 : Int32)), .val (.ref x1), .val (.int (1 : Int32))] [(.ref a4)])) _
      refine Goes.of (fun t k => XS.iconst X1594.here hx rfl (hb hby d9_61) k) ?_
      show Goes p e below (T1594.setTop (mkF m 62 #[.val (.ref a1), .val (.ref a2), .val (.ref a3), .val (.ref a4), .val (.int p5), .val (.int (0 : Int32)), .val (.int (1 : Int32)), .val (.ref x1), .val (.int (1 : Int32))] [(.int (0 : Int32)), (.ref a4)])) _
      refine Goes.of (fun t k => XS.iconst X1594.here hx rfl (hb hby d9_62) k) ?_
      have Vc1615 := f1602
      obtain ⟨clc1615, Arc1615, qc1615, Sc1615, Nc1615, Hc1615, Gc1615⟩ := Vc1615
      have hin1616 : ¬ ((0 : Int32) < 0 ∨ clc1615.slots.size ≤ ((0 : Int32)).toNatClampNeg) := inb_of Sc1615 ⟨by decide, by decide⟩
      obtain ⟨T1617, h1617, X1617, e1617, W1617, st1617⟩ := stI X1594 hx hZ e1594 Arc1615 (j := (0 : Int32)) hin1616 (g := (mkF m 63 #[.val (.ref a1), .val (.ref a2), .val (.ref a3), .val (.ref a4), .val (.int p5), .val (.int (0 : Int32)), .val (.int (1 : Int32)), .val (.ref x1), .val (.int (1 : Int32))] [(.int (0 : Int32)), (.int (0 : Int32)), (.ref a4)])) rfl rfl (hb hby d9_63)
      have V1617 : Arv Z h1617 a4 kC .int (1 : Int32) [(.int (0 : Int32))] (.int (0 : Int32)) := Arv.set Arc1615 qc1615 Sc1615 Nc1615 Hc1615 Gc1615 rfl W1617 0 rfl (Nat.le_of_ble_eq_true rfl)
      have K1618 : Keep h0 h1617 [a1, a3, a4, HA, FA, x0, x1] := K1595.wr W1617 (Or.inl (List.mem_of_getElem? (i := 2) rfl))
      have z1619 : n0 ≤ h1617.size := Nat.le_trans z1596 (Keep.of_wr W1617).1
      have f1620 := f1597.wr W1617
      have f1621 := f1598.wr W1617
      have f1622 := f1599.other W1617 (Or.inl (Ne.symm n_a4_x0))
      have f1623 := f1600.wr W1617
      have f1624 := V1594.other W1617 n_a3_a4
      have f1626 := f1603.wr W1617 g_a4
      have f1627 := f1604.other W1617 n_a2_a4
      have f1628 := f1605.other W1617 (Or.inl n_a1_a4)
      have f1629 := f1606.other W1617 (Or.inl n_a1_a4)
      have f1630 := f1607.other W1617 (Or.inl n_a1_a4)
      have f1631 := f1608.other W1617 (Or.inl n_a1_a4)
      have f1632 := f1609.other W1617 (Or.inl n_a1_a4)
      have f1633 := f1610.other W1617 (Or.inl n_a1_a4)
      have f1634 := f1611.other W1617 (Or.inl n_a1_a4)
      have f1635 := f1612.other W1617 (Ne.symm n_a4_HA)
      have f1636 := f1613.other W1617 (Ne.symm n_a4_FA)
      have f1637 := f1614.other W1617 (Or.inl (Ne.symm n_a4_x1))
      have N1617 := Fr.snoc X1617 N1594 g_a4
      refine Goes.of st1617 ?_
      show Goes p e below (T1617.setTop (mkF m 64 #[.val (.ref a1), .val (.ref a2), .val (.ref a3), .val (.ref a4), .val (.int p5), .val (.int (0 : Int32)), .val (.int (1 : Int32)), .val (.ref x1), .val (.int (1 : Int32))] [])) _
      refine Goes.of (fun t k => XS.iload X1617.here hx rfl (hb hby d9_64) rfl k) ?_
      show Goes p e below (T1617.setTop (mkF m 66 #[.val (.ref a1), .val (.ref a2), .val (.ref a3), .val (.ref a4), .val (.int p5), .val (.int (0 : Int32)), .val (.int (1 : Int32)), .val (.ref x1), .val (.int (1 : Int32))] [(.int (1 : Int32))])) _
      refine Goes.of (fun t k => XS.ifNo X1617.here hx rfl (hb hby d9_66) rfl ((if0 _ _).trans (feq (by decide)).1) k) ?_
      show Goes p e below (T1617.setTop (mkF m 69 #[.val (.ref a1), .val (.ref a2), .val (.ref a3), .val (.ref a4), .val (.int p5), .val (.int (0 : Int32)), .val (.int (1 : Int32)), .val (.ref x1), .val (.int (1 : Int32))] [])) _
      refine Goes.of (fun t k => XS.aloadN X1617.here hx rfl (hb hby d9_69) rfl rfl k) ?_
      obtain ⟨cq1638, kq1638, q1638a, q1638b, q1638c⟩ := isOf hZ e1617 f1620
      obtain ⟨_, _, ⟨T1638, L1638, k1638, n1638⟩, -, X1638, ⟨Lc1638, hQ1638, l1638, y1638, z1638⟩, st1638⟩ := X1617.virtualBack hx (y := (⟨"com/example/ripplematch/ripplematch/core/Agenda", "isEmpty", "()Z"⟩ : MethodName)) (z := (⟨"com/example/ripplematch/ripplematch/core/Agenda", "isEmpty", "()Z"⟩ : MethodName)) hown (mvT hZ (wd hw 64 rfl)) (mvT hZ (wd hw 65 rfl)) (notFace_of_selects (args := #[]) (mvT hZ (wd hw 67 rfl))) (mvT hZ (wd hw 67 rfl)) (mvT hZ (wd hw 66 rfl)) (by decide) (backOf (W := 0) (rm8 l Z a0 hw [] a1 (0 : Int32) h1617 n0 z1619 f1634) hZ (wd hw 68 rfl) (wd hw 2 rfl) (by decide) (by decide)) q1638a q1638c (g := (mkF m 70 #[.val (.ref a1), .val (.ref a2), .val (.ref a3), .val (.ref a4), .val (.int p5), .val (.int (0 : Int32)), .val (.int (1 : Int32)), .val (.ref x1), .val (.int (1 : Int32))] [(.ref a1)])) rfl (by rw [hml]; rfl) (Steps.refl _) (argsL := []) (rest := []) (lenOf pd_6 rfl) rfl (by show 2 * 0 + _ ≤ _; exact Nat.le_of_eq rfl) (hb hby d9_70) (fun _ _ => ⟨rfl, e1617, (by decide : 0 + 0 ≤ _), (by decide : 0 + 0 ≤ _)⟩)
      dsimp only [Pt.U, Pt.locs, Pt.cells, Pt.slots] at X1638 l1638 y1638 z1638 st1638 hQ1638
      subst l1638 y1638 z1638
      obtain ⟨rfl, N1638q, e1638⟩ := hQ1638
      have N1638 := Fr.app N1617 N1638q
      refine Goes.of (fun t k => st1638.trans k) ?_
      show Goes p e below (T1638.setTop (mkF m 73 #[.val (.ref a1), .val (.ref a2), .val (.ref a3), .val (.ref a4), .val (.int p5), .val (.int (0 : Int32)), .val (.int (1 : Int32)), .val (.ref x1), .val (.int (1 : Int32))] [(.int (1 : Int32))])) _
      refine Goes.of (fun t k => XS.ifNo X1638.here hx rfl (hb hby d9_73) rfl ((if0 _ _).trans (feq (by decide)).1) k) ?_
      show Goes p e below (T1638.setTop (mkF m 76 #[.val (.ref a1), .val (.ref a2), .val (.ref a3), .val (.ref a4), .val (.int p5), .val (.int (0 : Int32)), .val (.int (1 : Int32)), .val (.ref x1), .val (.int (1 : Int32))] [])) _
      refine Goes.of (fun t k => XS.iconst X1638.here hx rfl (hb hby d9_76) k) ?_
      show Goes p e below (T1638.setTop (mkF m 77 #[.val (.ref a1), .val (.ref a2), .val (.ref a3), .val (.ref a4), .val (.int p5), .val (.int (0 : Int32)), .val (.int (1 : Int32)), .val (.ref x1), .val (.int (1 : Int32))] [(.int (1 : Int32))])) _
      refine Goes.of (fun t k => XS.goto X1638.here hx rfl (pc0 := 77) (pc' := 81) rfl (hb hby d9_77) (by decide) (by decide) k) ?_
      show Goes p e below (T1638.setTop (mkF m 81 #[.val (.ref a1), .val (.ref a2), .val (.ref a3), .val (.ref a4), .val (.int p5), .val (.int (0 : Int32)), .val (.int (1 : Int32)), .val (.ref x1), .val (.int (1 : Int32))] [(.int (1 : Int32))])) _
      have eh : T1638.heap = h1617 := e1638
      exact Goes.retN (t := .boolean) X1638 hx Bd.returns (by simp) hlocks (hb hby d9_81) (⟨rfl, N1638, by rw [eh]; exact K1618, Or.inl ⟨by rw [eh]; exact f1620, by rw [eh]; exact f1628, by rw [eh]; exact f1629, by rw [eh]; exact f1630, by rw [eh]; exact f1631, by rw [eh]; exact f1632, by rw [eh]; exact f1633, by rw [eh]; exact f1634, by rw [eh]; exact f1635, by rw [eh]; exact f1636, by rw [eh]; exact f1621, by rw [eh]; exact f1622, by rw [eh]; exact f1623, by rw [eh]; exact f1637, by rw [eh]; exact f1624, by rw [eh]; exact V1617⟩⟩) (by decide) (by decide)
  · rw [hi]
    show Goes p e below (s₁.setTop (mkF m 6 #[.val (.ref a1), .val (.ref a2), .val (.ref a3), .val (.ref a4), .val (.int p5), .val (.int (1 : Int32)), .unset, .unset, .unset] [])) _
    refine Goes.of (fun t k => XS.iload X0.here hx rfl (hb hby d9_6) rfl k) ?_
    show Goes p e below (s₁.setTop (mkF m 8 #[.val (.ref a1), .val (.ref a2), .val (.ref a3), .val (.ref a4), .val (.int p5), .val (.int (1 : Int32)), .unset, .unset, .unset] [(.int p5)])) _
    refine Goes.of (fun t k => XS.iconst X0.here hx rfl (hb hby d9_8) k) ?_
    show Goes p e below (s₁.setTop (mkF m 9 #[.val (.ref a1), .val (.ref a2), .val (.ref a3), .val (.ref a4), .val (.int p5), .val (.int (1 : Int32)), .unset, .unset, .unset] [(.int (2 : Int32)), (.int p5)])) _
    refine Goes.of (fun t k => XS.iand X0.here hx rfl (hb hby d9_9) rfl k) ?_
    show Goes p e below (s₁.setTop (mkF m 10 #[.val (.ref a1), .val (.ref a2), .val (.ref a3), .val (.ref a4), .val (.int p5), .val (.int (1 : Int32)), .unset, .unset, .unset] [(.int (p5 &&& (2 : Int32)))])) _
    by_cases hc10_1639 : (p5 &&& (2 : Int32)) = (0 : Int32)
    · refine Goes.of (fun t k => XS.ifYes X0.here hx rfl (pc0 := 10) (pc' := 82) rfl (hb hby d9_10) rfl ((if0 _ _).trans (teq hc10_1639).1) (by decide) (by decide) k) ?_
      show Goes p e below (s₁.setTop (mkF m 82 #[.val (.ref a1), .val (.ref a2), .val (.ref a3), .val (.ref a4), .val (.int p5), .val (.int (1 : Int32)), .unset, .unset, .unset] [])) _
      refine Goes.of (fun t k => XS.aloadN X0.here hx rfl (hb hby d9_82) rfl rfl k) ?_
      show Goes p e below (s₁.setTop (mkF m 83 #[.val (.ref a1), .val (.ref a2), .val (.ref a3), .val (.ref a4), .val (.int p5), .val (.int (1 : Int32)), .unset, .unset, .unset] [(.ref a3)])) _
      refine Goes.of (fun t k => XS.iload X0.here hx rfl (hb hby d9_83) rfl k) ?_
      have Vc1640 := VO
      obtain ⟨clc1640, Arc1640, qc1640, Sc1640, Nc1640, Hc1640, Gc1640⟩ := Vc1640
      have hin1641 : ¬ ((1 : Int32) < 0 ∨ clc1640.slots.size ≤ ((1 : Int32)).toNatClampNeg) := inb_of Sc1640 ⟨by decide, by decide⟩
      have hat1642 : clc1640.slots[((1 : Int32)).toNatClampNeg]? = some (.int (1 : Int32)) := Hc1640.at hin1641 rfl
      refine Goes.of (fun t k => X0.baloadBooleans hx (j := (1 : Int32)) (v := (.int (1 : Int32))) (by rw [e0]; exact Arc1640.1) (State.isArrayOf_alike hZ.alike Arc1640.2.1) Arc1640.2.2 hin1641 hat1642 (g := (mkF m 85 #[.val (.ref a1), .val (.ref a2), .val (.ref a3), .val (.ref a4), .val (.int p5), .val (.int (1 : Int32)), .unset, .unset, .unset] [(.int (1 : Int32)), (.ref a3)])) rfl rfl (hb hby d9_85) _ k) ?_
      show Goes p e below (s₁.setTop (mkF m 86 #[.val (.ref a1), .val (.ref a2), .val (.ref a3), .val (.ref a4), .val (.int p5), .val (.int (1 : Int32)), .unset, .unset, .unset] [(.int (1 : Int32))])) _
      refine Goes.of (fun t k => XS.ifNo X0.here hx rfl (hb hby d9_86) rfl ((if0 _ _).trans (feq (by decide)).1) k) ?_
      show Goes p e below (s₁.setTop (mkF m 89 #[.val (.ref a1), .val (.ref a2), .val (.ref a3), .val (.ref a4), .val (.int p5), .val (.int (1 : Int32)), .unset, .unset, .unset] [])) _
      refine Goes.of (fun t k => XS.aloadN X0.here hx rfl (hb hby d9_89) rfl rfl k) ?_
      show Goes p e below (s₁.setTop (mkF m 90 #[.val (.ref a1), .val (.ref a2), .val (.ref a3), .val (.ref a4), .val (.int p5), .val (.int (1 : Int32)), .unset, .unset, .unset] [(.ref a1)])) _
      refine Goes.of (fun t k => XS.aloadN X0.here hx rfl (hb hby d9_90) rfl rfl k) ?_
      show Goes p e below (s₁.setTop (mkF m 91 #[.val (.ref a1), .val (.ref a2), .val (.ref a3), .val (.ref a4), .val (.int p5), .val (.int (1 : Int32)), .unset, .unset, .unset] [(.ref a2), (.ref a1)])) _
      refine Goes.of (fun t k => XS.iload X0.here hx rfl (hb hby d9_91) rfl k) ?_
      have Vc1643 := VT
      obtain ⟨clc1643, Arc1643, qc1643, Sc1643, Nc1643, Hc1643, Gc1643⟩ := Vc1643
      have hin1644 : ¬ ((1 : Int32) < 0 ∨ clc1643.slots.size ≤ ((1 : Int32)).toNatClampNeg) := inb_of Sc1643 ⟨by decide, by decide⟩
      have hat1645 : clc1643.slots[((1 : Int32)).toNatClampNeg]? = some (.ref x1) := Hc1643.at hin1644 rfl
      refine Goes.of (fun t k => X0.aaload hx (j := (1 : Int32)) (v := (.ref x1)) (by rw [e0]; exact Arc1643.1) (State.isArrayOf_alike hZ.alike Arc1643.2.1) rfl Arc1643.2.2 hin1644 hat1645 (g := (mkF m 93 #[.val (.ref a1), .val (.ref a2), .val (.ref a3), .val (.ref a4), .val (.int p5), .val (.int (1 : Int32)), .unset, .unset, .unset] [(.int (1 : Int32)), (.ref a2), (.ref a1)])) rfl rfl (hb hby d9_93) _ k) ?_
      obtain ⟨cq1646, kq1646, q1646a, q1646b, q1646c⟩ := isOf hZ e0 E
      obtain ⟨_, _, ⟨T1646, L1646, k1646, n1646⟩, -, X1646, ⟨Lc1646, hQ1646, l1646, y1646, z1646⟩, st1646⟩ := X0.virtualBack hx (y := (⟨"com/example/ripplematch/ripplematch/core/Agenda", "remove", "(Lcom/example/ripplematch/ripplematch/core/Activation;)V"⟩ : MethodName)) (z := (⟨"com/example/ripplematch/ripplematch/core/Agenda", "remove", "(Lcom/example/ripplematch/ripplematch/core/Activation;)V"⟩ : MethodName)) hown (mvT hZ (wd hw 85 rfl)) (mvT hZ (wd hw 86 rfl)) (notFace_of_selects (args := #[]) (mvT hZ (wd hw 88 rfl))) (mvT hZ (wd hw 88 rfl)) (mvT hZ (wd hw 87 rfl)) (by decide) (backOf (W := 0) (rm11 l Z a0 hw [] a1 x1 HA FA _ _ h0 n0 Z0 O0 SA E F_heap F_heapSize F_gone F_disordered F_fresh F_freshSize F_size VH VF E_x1 P_x1 g_a1 g_HA g_FA g_x1 n_a1_HA n_a1_FA n_a1_x1 n_HA_FA n_HA_x1 n_FA_x1 OH OF) hZ (wd hw 89 rfl) (wd hw 2 rfl) (by decide) (by decide)) q1646a q1646c (g := (mkF m 94 #[.val (.ref a1), .val (.ref a2), .val (.ref a3), .val (.ref a4), .val (.int p5), .val (.int (1 : Int32)), .unset, .unset, .unset] [(.ref x1), (.ref a1)])) rfl (by rw [hml]; rfl) (Steps.refl _) (argsL := [(.ref x1)]) (rest := []) (lenOf pd_5 rfl) rfl (by show 2 * 0 + _ ≤ _; exact Nat.le_of_eq rfl) (hb hby d9_94) (fun _ _ => ⟨rfl, e0, (by decide : 0 + 0 ≤ _), (by decide : 0 + 0 ≤ _)⟩)
      dsimp only [Pt.U, Pt.locs, Pt.cells, Pt.slots] at X1646 l1646 y1646 z1646 st1646 hQ1646
      subst l1646 y1646 z1646
      obtain ⟨rfl, N1646q, K1646, E_1646, F_heap_1646, F_heapSize_1646, F_gone_1646, F_disordered_1646, F_fresh_1646, F_freshSize_1646, F_size_1646, VH_1646, VF_1646, E_x1_1646, P_x1_1646⟩ := hQ1646
      have N1646 := Fr.app N0 N1646q
      have K1647 : Keep h0 T1646.heap [a1, a3, a4, HA, FA, x0, x1] := K0.trans K1646 (allS (Or.inl (List.mem_of_getElem? (i := 0) rfl)) (allS (Or.inl (List.mem_of_getElem? (i := 4) rfl)) (allS (Or.inl (List.mem_of_getElem? (i := 6) rfl)) all0)))
      have z1648 : n0 ≤ T1646.heap.size := Nat.le_trans Z0 K1646.1
      have f1649 := E.keep K1646
      have f1657 := VH.keep K1646 (ninS (Ne.symm n_a1_HA) (ninS n_HA_FA (ninS n_HA_x1 nin0)))
      have f1659 := E_x0.keep K1646
      have f1660 := P_x0.keep K1646 (ninS (Ne.symm n_a1_x0) (ninS (Ne.symm n_FA_x0) (ninS n_x0_x1 nin0)))
      have f1661 := E_x1.keep K1646
      have f1663 := VO.keep K1646 (ninS (Ne.symm n_a1_a3) (ninS n_a3_FA (ninS n_a3_x1 nin0)))
      have f1664 := VC.keep K1646 (ninS (Ne.symm n_a1_a4) (ninS n_a4_FA (ninS n_a4_x1 nin0)))
      have f1665 := O0.keep K1646 (allS g_a1 (allS g_FA (allS g_x1 all0)))
      have f1666 := VT.keep K1646 (ninS (Ne.symm n_a1_a2) (ninS n_a2_FA (ninS n_a2_x1 nin0)))
      refine Goes.of (fun t k => st1646.trans k) ?_
      show Goes p e below (T1646.setTop (mkF m 97 #[.val (.ref a1), .val (.ref a2), .val (.ref a3), .val (.ref a4), .val (.int p5), .val (.int (1 : Int32)), .unset, .unset, .unset] [])) _
      refine Goes.of (fun t k => XS.aloadN X1646.here hx rfl (hb hby d9_97) rfl rfl k) ?_
      show Goes p e below (T1646.setTop (mkF m 98 #[.val (.ref a1), .val (.ref a2), .val (.ref a3), .val (.ref a4), .val (.int p5), .val (.int (1 : Int32)), .unset, .unset, .unset] [(.ref a3)])) _
      refine Goes.of (fun t k => XS.iload X1646.here hx rfl (hb hby d9_98) rfl k) ?_
      show Goes p e below (T1646.setTop (mkF m 100 #[.val (.ref a1), .val (.ref a2), .val (.ref a3), .val (.ref a4), .val (.int p5), .val (.int (1 : Int32)), .unset, .unset, .unset] [(.int (1 : Int32)), (.ref a3)])) _
      refine Goes.of (fun t k => XS.iconst X1646.here hx rfl (hb hby d9_100) k) ?_
      have Vc1667 := f1663
      obtain ⟨clc1667, Arc1667, qc1667, Sc1667, Nc1667, Hc1667, Gc1667⟩ := Vc1667
      have hin1668 : ¬ ((1 : Int32) < 0 ∨ clc1667.slots.size ≤ ((1 : Int32)).toNatClampNeg) := inb_of Sc1667 ⟨by decide, by decide⟩
      obtain ⟨T1669, h1669, X1669, e1669, W1669, st1669⟩ := stZ X1646 hx hZ rfl Arc1667 (j := (1 : Int32)) hin1668 (g := (mkF m 101 #[.val (.ref a1), .val (.ref a2), .val (.ref a3), .val (.ref a4), .val (.int p5), .val (.int (1 : Int32)), .unset, .unset, .unset] [(.int (0 : Int32)), (.int (1 : Int32)), (.ref a3)])) rfl rfl (hb hby d9_101)
      have V1669 : Arv Z h1669 a3 kO .boolean (2 : Int32) [(.int (0 : Int32)), (.int (nar .boolean (0 : Int32)))] (.int (0 : Int32)) := Arv.set Arc1667 qc1667 Sc1667 Nc1667 Hc1667 Gc1667 (fits_nar_bool _) W1669 1 rfl (Nat.le_of_ble_eq_true rfl)
      have K1670 : Keep h0 h1669 [a1, a3, a4, HA, FA, x0, x1] := K1647.wr W1669 (Or.inl (List.mem_of_getElem? (i := 1) rfl))
      have z1671 : n0 ≤ h1669.size := Nat.le_trans z1648 (Keep.of_wr W1669).1
      have f1672 := E_1646.wr W1669
      have f1673 := VH_1646.other W1669 (Ne.symm n_a3_HA)
      have f1674 := f1659.wr W1669
      have f1675 := f1660.other W1669 (Or.inl (Ne.symm n_a3_x0))
      have f1676 := E_x1_1646.wr W1669
      have f1678 := f1664.other W1669 (Ne.symm n_a3_a4)
      have f1679 := f1665.wr W1669 g_a3
      have f1680 := f1666.other W1669 n_a2_a3
      have f1681 := F_heap_1646.other W1669 (Or.inl n_a1_a3)
      have f1682 := F_heapSize_1646.other W1669 (Or.inl n_a1_a3)
      have f1683 := F_gone_1646.other W1669 (Or.inl n_a1_a3)
      have f1684 := F_disordered_1646.other W1669 (Or.inl n_a1_a3)
      have f1685 := F_fresh_1646.other W1669 (Or.inl n_a1_a3)
      have f1686 := F_freshSize_1646.other W1669 (Or.inl n_a1_a3)
      have f1687 := F_size_1646.other W1669 (Or.inl n_a1_a3)
      have f1688 := VF_1646.other W1669 (Ne.symm n_a3_FA)
      have f1689 := P_x1_1646.other W1669 (Or.inl (Ne.symm n_a3_x1))
      have N1669 := Fr.snoc X1669 N1646 g_a3
      refine Goes.of st1669 ?_
      show Goes p e below (T1669.setTop (mkF m 102 #[.val (.ref a1), .val (.ref a2), .val (.ref a3), .val (.ref a4), .val (.int p5), .val (.int (1 : Int32)), .unset, .unset, .unset] [])) _
      refine Goes.of (fun t k => XS.aloadN X1669.here hx rfl (hb hby d9_102) rfl rfl k) ?_
      show Goes p e below (T1669.setTop (mkF m 103 #[.val (.ref a1), .val (.ref a2), .val (.ref a3), .val (.ref a4), .val (.int p5), .val (.int (1 : Int32)), .unset, .unset, .unset] [(.ref a4)])) _
      refine Goes.of (fun t k => XS.iconst X1669.here hx rfl (hb hby d9_103) k) ?_
      show Goes p e below (T1669.setTop (mkF m 104 #[.val (.ref a1), .val (.ref a2), .val (.ref a3), .val (.ref a4), .val (.int p5), .val (.int (1 : Int32)), .unset, .unset, .unset] [(.int (0 : Int32)), (.ref a4)])) _
      refine Goes.of (fun t k => XS.aloadN X1669.here hx rfl (hb hby d9_104) rfl rfl k) ?_
      show Goes p e below (T1669.setTop (mkF m 105 #[.val (.ref a1), .val (.ref a2), .val (.ref a3), .val (.ref a4), .val (.int p5), .val (.int (1 : Int32)), .unset, .unset, .unset] [(.ref a4), (.int (0 : Int32)), (.ref a4)])) _
      refine Goes.of (fun t k => XS.iconst X1669.here hx rfl (hb hby d9_105) k) ?_
      have Vc1690 := f1678
      obtain ⟨clc1690, Arc1690, qc1690, Sc1690, Nc1690, Hc1690, Gc1690⟩ := Vc1690
      have hin1691 : ¬ ((0 : Int32) < 0 ∨ clc1690.slots.size ≤ ((0 : Int32)).toNatClampNeg) := inb_of Sc1690 ⟨by decide, by decide⟩
      have hat1692 : clc1690.slots[((0 : Int32)).toNatClampNeg]? = some (.int (1 : Int32)) := Hc1690.at hin1691 rfl
      refine Goes.of (fun t k => X1669.iaload hx (j := (0 : Int32)) (v := (.int (1 : Int32))) (by rw [e1669]; exact Arc1690.1) (State.isArrayOf_alike hZ.alike Arc1690.2.1) Arc1690.2.2 hin1691 hat1692 (g := (mkF m 106 #[.val (.ref a1), .val (.ref a2), .val (.ref a3), .val (.ref a4), .val (.int p5), .val (.int (1 : Int32)), .unset, .unset, .unset] [(.int (0 : Int32)), (.ref a4), (.int (0 : Int32)), (.ref a4)])) rfl rfl (hb hby d9_106) _ k) ?_
      show Goes p e below (T1669.setTop (mkF m 107 #[.val (.ref a1), .val (.ref a2), .val (.ref a3), .val (.ref a4), .val (.int p5), .val (.int (1 : Int32)), .unset, .unset, .unset] [(.int (1 : Int32)), (.int (0 : Int32)), (.ref a4)])) _
      refine Goes.of (fun t k => XS.iconst X1669.here hx rfl (hb hby d9_107) k) ?_
      show Goes p e below (T1669.setTop (mkF m 108 #[.val (.ref a1), .val (.ref a2), .val (.ref a3), .val (.ref a4), .val (.int p5), .val (.int (1 : Int32)), .unset, .unset, .unset] [(.int (1 : Int32)), (.int (1 : Int32)), (.int (0 : Int32)), (.ref a4)])) _
      refine Goes.of (fun t k => XS.isub X1669.here hx rfl (hb hby d9_108) rfl k) ?_
      have Vc1693 := f1678
      obtain ⟨clc1693, Arc1693, qc1693, Sc1693, Nc1693, Hc1693, Gc1693⟩ := Vc1693
      have hin1694 : ¬ ((0 : Int32) < 0 ∨ clc1693.slots.size ≤ ((0 : Int32)).toNatClampNeg) := inb_of Sc1693 ⟨by decide, by decide⟩
      obtain ⟨T1695, h1695, X1695, e1695, W1695, st1695⟩ := stI X1669 hx hZ e1669 Arc1693 (j := (0 : Int32)) hin1694 (g := (mkF m 109 #[.val (.ref a1), .val (.ref a2), .val (.ref a3), .val (.ref a4), .val (.int p5), .val (.int (1 : Int32)), .unset, .unset, .unset] [(.int (0 : Int32)), (.int (0 : Int32)), (.ref a4)])) rfl rfl (hb hby d9_109)
      have V1695 : Arv Z h1695 a4 kC .int (1 : Int32) [(.int (0 : Int32))] (.int (0 : Int32)) := Arv.set Arc1693 qc1693 Sc1693 Nc1693 Hc1693 Gc1693 rfl W1695 0 rfl (Nat.le_of_ble_eq_true rfl)
      have K1696 : Keep h0 h1695 [a1, a3, a4, HA, FA, x0, x1] := K1670.wr W1695 (Or.inl (List.mem_of_getElem? (i := 2) rfl))
      have z1697 : n0 ≤ h1695.size := Nat.le_trans z1671 (Keep.of_wr W1695).1
      have f1698 := f1672.wr W1695
      have f1699 := f1673.other W1695 (Ne.symm n_a4_HA)
      have f1700 := f1674.wr W1695
      have f1701 := f1675.other W1695 (Or.inl (Ne.symm n_a4_x0))
      have f1702 := f1676.wr W1695
      have f1703 := V1669.other W1695 n_a3_a4
      have f1705 := f1679.wr W1695 g_a4
      have f1706 := f1680.other W1695 n_a2_a4
      have f1707 := f1681.other W1695 (Or.inl n_a1_a4)
      have f1708 := f1682.other W1695 (Or.inl n_a1_a4)
      have f1709 := f1683.other W1695 (Or.inl n_a1_a4)
      have f1710 := f1684.other W1695 (Or.inl n_a1_a4)
      have f1711 := f1685.other W1695 (Or.inl n_a1_a4)
      have f1712 := f1686.other W1695 (Or.inl n_a1_a4)
      have f1713 := f1687.other W1695 (Or.inl n_a1_a4)
      have f1714 := f1688.other W1695 (Ne.symm n_a4_FA)
      have f1715 := f1689.other W1695 (Or.inl (Ne.symm n_a4_x1))
      have N1695 := Fr.snoc X1695 N1669 g_a4
      refine Goes.of st1695 ?_
      show Goes p e below (T1695.setTop (mkF m 110 #[.val (.ref a1), .val (.ref a2), .val (.ref a3), .val (.ref a4), .val (.int p5), .val (.int (1 : Int32)), .unset, .unset, .unset] [])) _
      refine Goes.of (fun t k => XS.goto X1695.here hx rfl (pc0 := 110) (pc' := 134) rfl (hb hby d9_110) (by decide) (by decide) k) ?_
      show Goes p e below (T1695.setTop (mkF m 134 #[.val (.ref a1), .val (.ref a2), .val (.ref a3), .val (.ref a4), .val (.int p5), .val (.int (1 : Int32)), .unset, .unset, .unset] [])) _
      refine Goes.of (fun t k => XS.aloadN X1695.here hx rfl (hb hby d9_134) rfl rfl k) ?_
      obtain ⟨cq1716, kq1716, q1716a, q1716b, q1716c⟩ := isOf hZ e1695 f1698
      obtain ⟨_, _, ⟨T1716, L1716, k1716, n1716⟩, -, X1716, ⟨Lc1716, hQ1716, l1716, y1716, z1716⟩, st1716⟩ := X1695.virtualBack hx (y := (⟨"com/example/ripplematch/ripplematch/core/Agenda", "isEmpty", "()Z"⟩ : MethodName)) (z := (⟨"com/example/ripplematch/ripplematch/core/Agenda", "isEmpty", "()Z"⟩ : MethodName)) hown (mvT hZ (wd hw 64 rfl)) (mvT hZ (wd hw 65 rfl)) (notFace_of_selects (args := #[]) (mvT hZ (wd hw 67 rfl))) (mvT hZ (wd hw 67 rfl)) (mvT hZ (wd hw 66 rfl)) (by decide) (backOf (W := 0) (rm8 l Z a0 hw [] a1 (0 : Int32) h1695 n0 z1697 f1713) hZ (wd hw 68 rfl) (wd hw 2 rfl) (by decide) (by decide)) q1716a q1716c (g := (mkF m 135 #[.val (.ref a1), .val (.ref a2), .val (.ref a3), .val (.ref a4), .val (.int p5), .val (.int (1 : Int32)), .unset, .unset, .unset] [(.ref a1)])) rfl (by rw [hml]; rfl) (Steps.refl _) (argsL := []) (rest := []) (lenOf pd_6 rfl) rfl (by show 2 * 0 + _ ≤ _; exact Nat.le_of_eq rfl) (hb hby d9_135) (fun _ _ => ⟨rfl, e1695, (by decide : 0 + 0 ≤ _), (by decide : 0 + 0 ≤ _)⟩)
      dsimp only [Pt.U, Pt.locs, Pt.cells, Pt.slots] at X1716 l1716 y1716 z1716 st1716 hQ1716
      subst l1716 y1716 z1716
      obtain ⟨rfl, N1716q, e1716⟩ := hQ1716
      have N1716 := Fr.app N1695 N1716q
      refine Goes.of (fun t k => st1716.trans k) ?_
      show Goes p e below (T1716.setTop (mkF m 138 #[.val (.ref a1), .val (.ref a2), .val (.ref a3), .val (.ref a4), .val (.int p5), .val (.int (1 : Int32)), .unset, .unset, .unset] [(.int (1 : Int32))])) _
      refine Goes.of (fun t k => XS.aloadN X1716.here hx rfl (hb hby d9_138) rfl rfl k) ?_
      show Goes p e below (T1716.setTop (mkF m 139 #[.val (.ref a1), .val (.ref a2), .val (.ref a3), .val (.ref a4), .val (.int p5), .val (.int (1 : Int32)), .unset, .unset, .unset] [(.ref a4), (.int (1 : Int32))])) _
      refine Goes.of (fun t k => XS.iconst X1716.here hx rfl (hb hby d9_139) k) ?_
      have Vc1717 := V1695
      obtain ⟨clc1717, Arc1717, qc1717, Sc1717, Nc1717, Hc1717, Gc1717⟩ := Vc1717
      have hin1718 : ¬ ((0 : Int32) < 0 ∨ clc1717.slots.size ≤ ((0 : Int32)).toNatClampNeg) := inb_of Sc1717 ⟨by decide, by decide⟩
      have hat1719 : clc1717.slots[((0 : Int32)).toNatClampNeg]? = some (.int (0 : Int32)) := Hc1717.at hin1718 rfl
      refine Goes.of (fun t k => X1716.iaload hx (j := (0 : Int32)) (v := (.int (0 : Int32))) (by rw [e1716]; exact Arc1717.1) (State.isArrayOf_alike hZ.alike Arc1717.2.1) Arc1717.2.2 hin1718 hat1719 (g := (mkF m 140 #[.val (.ref a1), .val (.ref a2), .val (.ref a3), .val (.ref a4), .val (.int p5), .val (.int (1 : Int32)), .unset, .unset, .unset] [(.int (0 : Int32)), (.ref a4), (.int (1 : Int32))])) rfl rfl (hb hby d9_140) _ k) ?_
      show Goes p e below (T1716.setTop (mkF m 141 #[.val (.ref a1), .val (.ref a2), .val (.ref a3), .val (.ref a4), .val (.int p5), .val (.int (1 : Int32)), .unset, .unset, .unset] [(.int (0 : Int32)), (.int (1 : Int32))])) _
      refine Goes.of (fun t k => XS.ifNo X1716.here hx rfl (hb hby d9_141) rfl ((if0 _ _).trans (teq (by decide)).2) k) ?_
      show Goes p e below (T1716.setTop (mkF m 144 #[.val (.ref a1), .val (.ref a2), .val (.ref a3), .val (.ref a4), .val (.int p5), .val (.int (1 : Int32)), .unset, .unset, .unset] [(.int (1 : Int32))])) _
      refine Goes.of (fun t k => XS.iconst X1716.here hx rfl (hb hby d9_144) k) ?_
      show Goes p e below (T1716.setTop (mkF m 145 #[.val (.ref a1), .val (.ref a2), .val (.ref a3), .val (.ref a4), .val (.int p5), .val (.int (1 : Int32)), .unset, .unset, .unset] [(.int (1 : Int32)), (.int (1 : Int32))])) _
      refine Goes.of (fun t k => XS.goto X1716.here hx rfl (pc0 := 145) (pc' := 149) rfl (hb hby d9_145) (by decide) (by decide) k) ?_
      show Goes p e below (T1716.setTop (mkF m 149 #[.val (.ref a1), .val (.ref a2), .val (.ref a3), .val (.ref a4), .val (.int p5), .val (.int (1 : Int32)), .unset, .unset, .unset] [(.int (1 : Int32)), (.int (1 : Int32))])) _
      refine Goes.of (fun t k => XS.icmpNo X1716.here hx rfl (hb hby d9_149) rfl (teq (by decide)).2 k) ?_
      show Goes p e below (T1716.setTop (mkF m 152 #[.val (.ref a1), .val (.ref a2), .val (.ref a3), .val (.ref a4), .val (.int p5), .val (.int (1 : Int32)), .unset, .unset, .unset] [])) _
      refine Goes.of (fun t k => XS.iconst X1716.here hx rfl (hb hby d9_152) k) ?_
      show Goes p e below (T1716.setTop (mkF m 153 #[.val (.ref a1), .val (.ref a2), .val (.ref a3), .val (.ref a4), .val (.int p5), .val (.int (1 : Int32)), .unset, .unset, .unset] [(.int (1 : Int32))])) _
      refine Goes.of (fun t k => XS.goto X1716.here hx rfl (pc0 := 153) (pc' := 157) rfl (hb hby d9_153) (by decide) (by decide) k) ?_
      show Goes p e below (T1716.setTop (mkF m 157 #[.val (.ref a1), .val (.ref a2), .val (.ref a3), .val (.ref a4), .val (.int p5), .val (.int (1 : Int32)), .unset, .unset, .unset] [(.int (1 : Int32))])) _
      have eh : T1716.heap = h1695 := e1716
      exact Goes.retN (t := .boolean) X1716 hx Bd.returns (by simp) hlocks (hb hby d9_157) (⟨rfl, N1716, by rw [eh]; exact K1696, Or.inl ⟨by rw [eh]; exact f1698, by rw [eh]; exact f1707, by rw [eh]; exact f1708, by rw [eh]; exact f1709, by rw [eh]; exact f1710, by rw [eh]; exact f1711, by rw [eh]; exact f1712, by rw [eh]; exact f1713, by rw [eh]; exact f1699, by rw [eh]; exact f1714, by rw [eh]; exact f1700, by rw [eh]; exact f1701, by rw [eh]; exact f1702, by rw [eh]; exact f1715, by rw [eh]; exact f1703, by rw [eh]; exact V1695⟩⟩) (by decide) (by decide)
    · refine Goes.of (fun t k => XS.ifNo X0.here hx rfl (hb hby d9_10) rfl ((if0 _ _).trans (feq hc10_1639).1) k) ?_
      show Goes p e below (s₁.setTop (mkF m 13 #[.val (.ref a1), .val (.ref a2), .val (.ref a3), .val (.ref a4), .val (.int p5), .val (.int (1 : Int32)), .unset, .unset, .unset] [])) _
      refine Goes.of (fun t k => XS.aloadN X0.here hx rfl (hb hby d9_13) rfl rfl k) ?_
      show Goes p e below (s₁.setTop (mkF m 14 #[.val (.ref a1), .val (.ref a2), .val (.ref a3), .val (.ref a4), .val (.int p5), .val (.int (1 : Int32)), .unset, .unset, .unset] [(.ref a4)])) _
      refine Goes.of (fun t k => XS.iconst X0.here hx rfl (hb hby d9_14) k) ?_
      have Vc1720 := VC
      obtain ⟨clc1720, Arc1720, qc1720, Sc1720, Nc1720, Hc1720, Gc1720⟩ := Vc1720
      have hin1721 : ¬ ((0 : Int32) < 0 ∨ clc1720.slots.size ≤ ((0 : Int32)).toNatClampNeg) := inb_of Sc1720 ⟨by decide, by decide⟩
      have hat1722 : clc1720.slots[((0 : Int32)).toNatClampNeg]? = some (.int (1 : Int32)) := Hc1720.at hin1721 rfl
      refine Goes.of (fun t k => X0.iaload hx (j := (0 : Int32)) (v := (.int (1 : Int32))) (by rw [e0]; exact Arc1720.1) (State.isArrayOf_alike hZ.alike Arc1720.2.1) Arc1720.2.2 hin1721 hat1722 (g := (mkF m 15 #[.val (.ref a1), .val (.ref a2), .val (.ref a3), .val (.ref a4), .val (.int p5), .val (.int (1 : Int32)), .unset, .unset, .unset] [(.int (0 : Int32)), (.ref a4)])) rfl rfl (hb hby d9_15) _ k) ?_
      show Goes p e below (s₁.setTop (mkF m 16 #[.val (.ref a1), .val (.ref a2), .val (.ref a3), .val (.ref a4), .val (.int p5), .val (.int (1 : Int32)), .unset, .unset, .unset] [(.int (1 : Int32))])) _
      refine Goes.of (fun t k => XS.iconst X0.here hx rfl (hb hby d9_16) k) ?_
      show Goes p e below (s₁.setTop (mkF m 17 #[.val (.ref a1), .val (.ref a2), .val (.ref a3), .val (.ref a4), .val (.int p5), .val (.int (1 : Int32)), .unset, .unset, .unset] [(.int (1 : Int32)), (.int (1 : Int32))])) _
      refine Goes.of (fun t k => XS.icmpNo X0.here hx rfl (hb hby d9_17) rfl (teq (by decide)).2 k) ?_
      show Goes p e below (s₁.setTop (mkF m 20 #[.val (.ref a1), .val (.ref a2), .val (.ref a3), .val (.ref a4), .val (.int p5), .val (.int (1 : Int32)), .unset, .unset, .unset] [])) _
      refine Goes.of (fun t k => XS.aloadN X0.here hx rfl (hb hby d9_20) rfl rfl k) ?_
      show Goes p e below (s₁.setTop (mkF m 21 #[.val (.ref a1), .val (.ref a2), .val (.ref a3), .val (.ref a4), .val (.int p5), .val (.int (1 : Int32)), .unset, .unset, .unset] [(.ref a3)])) _
      refine Goes.of (fun t k => XS.iconst X0.here hx rfl (hb hby d9_21) k) ?_
      have Vc1723 := VO
      obtain ⟨clc1723, Arc1723, qc1723, Sc1723, Nc1723, Hc1723, Gc1723⟩ := Vc1723
      have hin1724 : ¬ ((0 : Int32) < 0 ∨ clc1723.slots.size ≤ ((0 : Int32)).toNatClampNeg) := inb_of Sc1723 ⟨by decide, by decide⟩
      have hat1725 : clc1723.slots[((0 : Int32)).toNatClampNeg]? = some (.int (0 : Int32)) := Hc1723.at hin1724 rfl
      refine Goes.of (fun t k => X0.baloadBooleans hx (j := (0 : Int32)) (v := (.int (0 : Int32))) (by rw [e0]; exact Arc1723.1) (State.isArrayOf_alike hZ.alike Arc1723.2.1) Arc1723.2.2 hin1724 hat1725 (g := (mkF m 22 #[.val (.ref a1), .val (.ref a2), .val (.ref a3), .val (.ref a4), .val (.int p5), .val (.int (1 : Int32)), .unset, .unset, .unset] [(.int (0 : Int32)), (.ref a3)])) rfl rfl (hb hby d9_22) _ k) ?_
      show Goes p e below (s₁.setTop (mkF m 23 #[.val (.ref a1), .val (.ref a2), .val (.ref a3), .val (.ref a4), .val (.int p5), .val (.int (1 : Int32)), .unset, .unset, .unset] [(.int (0 : Int32))])) _
      refine Goes.of (fun t k => XS.ifYes X0.here hx rfl (pc0 := 23) (pc' := 30) rfl (hb hby d9_23) rfl ((if0 _ _).trans (teq (by decide)).1) (by decide) (by decide) k) ?_
      show Goes p e below (s₁.setTop (mkF m 30 #[.val (.ref a1), .val (.ref a2), .val (.ref a3), .val (.ref a4), .val (.int p5), .val (.int (1 : Int32)), .unset, .unset, .unset] [])) _
      refine Goes.of (fun t k => XS.iconst X0.here hx rfl (hb hby d9_30) k) ?_
      show Goes p e below (s₁.setTop (mkF m 31 #[.val (.ref a1), .val (.ref a2), .val (.ref a3), .val (.ref a4), .val (.int p5), .val (.int (1 : Int32)), .unset, .unset, .unset] [(.int (1 : Int32))])) _
      refine Goes.of (fun t k => XS.istore X0.here hx rfl (hb hby d9_31) rfl (l' := #[.val (.ref a1), .val (.ref a2), .val (.ref a3), .val (.ref a4), .val (.int p5), .val (.int (1 : Int32)), .val (.int (1 : Int32)), .unset, .unset]) rfl k) ?_
      show Goes p e below (s₁.setTop (mkF m 33 #[.val (.ref a1), .val (.ref a2), .val (.ref a3), .val (.ref a4), .val (.int p5), .val (.int (1 : Int32)), .val (.int (1 : Int32)), .unset, .unset] [])) _
      refine Goes.of (fun t k => XS.aloadN X0.here hx rfl (hb hby d9_33) rfl rfl k) ?_
      obtain ⟨cq1726, kq1726, q1726a, q1726b, q1726c⟩ := isOf hZ e0 E
      obtain ⟨_, _, ⟨T1726, L1726, k1726, n1726⟩, -, X1726, ⟨Lc1726, hQ1726, l1726, y1726, z1726⟩, st1726⟩ := X0.virtualBack hx (y := (⟨"com/example/ripplematch/ripplematch/core/Agenda", "pollFirst", "()Lcom/example/ripplematch/ripplematch/core/Activation;"⟩ : MethodName)) (z := (⟨"com/example/ripplematch/ripplematch/core/Agenda", "pollFirst", "()Lcom/example/ripplematch/ripplematch/core/Activation;"⟩ : MethodName)) hown (mvT hZ (wd hw 90 rfl)) (mvT hZ (wd hw 91 rfl)) (notFace_of_selects (args := #[]) (mvT hZ (wd hw 93 rfl))) (mvT hZ (wd hw 93 rfl)) (mvT hZ (wd hw 92 rfl)) (by decide) (backOf (W := 0) (rm12 l Z a0 hw [] a1 HA FA x1 _ _ h0 n0 Z0 O0 SA E F_heap F_heapSize F_gone F_disordered F_fresh F_freshSize F_size VH VF E_x1 P_x1 g_a1 g_HA g_FA g_x1 n_a1_HA n_a1_FA n_a1_x1 n_HA_FA n_HA_x1 n_FA_x1 OH OF) hZ (wd hw 94 rfl) (wd hw 2 rfl) (by decide) (by decide)) q1726a q1726c (g := (mkF m 34 #[.val (.ref a1), .val (.ref a2), .val (.ref a3), .val (.ref a4), .val (.int p5), .val (.int (1 : Int32)), .val (.int (1 : Int32)), .unset, .unset] [(.ref a1)])) rfl (by rw [hml]; rfl) (Steps.refl _) (argsL := []) (rest := []) (lenOf pd_7 rfl) rfl (by show 2 * 0 + _ ≤ _; exact Nat.le_of_eq rfl) (hb hby d9_34) (fun _ _ => ⟨rfl, e0, (by decide : 0 + 0 ≤ _), (by decide : 0 + 0 ≤ _)⟩)
      dsimp only [Pt.U, Pt.locs, Pt.cells, Pt.slots] at X1726 l1726 y1726 z1726 st1726 hQ1726
      subst l1726 y1726 z1726
      obtain ⟨rfl, N1726q, K1726, E_1726, F_heap_1726, F_heapSize_1726, F_gone_1726, F_disordered_1726, F_fresh_1726, F_freshSize_1726, F_size_1726, VH_1726, VF_1726, E_x1_1726, P_x1_1726⟩ := hQ1726
      have N1726 := Fr.app N0 N1726q
      have K1727 : Keep h0 T1726.heap [a1, a3, a4, HA, FA, x0, x1] := K0.trans K1726 (allS (Or.inl (List.mem_of_getElem? (i := 0) rfl)) (allS (Or.inl (List.mem_of_getElem? (i := 3) rfl)) (allS (Or.inl (List.mem_of_getElem? (i := 4) rfl)) (allS (Or.inl (List.mem_of_getElem? (i := 6) rfl)) all0))))
      have z1728 : n0 ≤ T1726.heap.size := Nat.le_trans Z0 K1726.1
      have f1729 := E.keep K1726
      have f1739 := E_x0.keep K1726
      have f1740 := P_x0.keep K1726 (ninS (Ne.symm n_a1_x0) (ninS (Ne.symm n_HA_x0) (ninS (Ne.symm n_FA_x0) (ninS n_x0_x1 nin0))))
      have f1741 := E_x1.keep K1726
      have f1743 := VO.keep K1726 (ninS (Ne.symm n_a1_a3) (ninS n_a3_HA (ninS n_a3_FA (ninS n_a3_x1 nin0))))
      have f1744 := VC.keep K1726 (ninS (Ne.symm n_a1_a4) (ninS n_a4_HA (ninS n_a4_FA (ninS n_a4_x1 nin0))))
      have f1745 := O0.keep K1726 (allS g_a1 (allS g_HA (allS g_FA (allS g_x1 all0))))
      have f1746 := VT.keep K1726 (ninS (Ne.symm n_a1_a2) (ninS n_a2_HA (ninS n_a2_FA (ninS n_a2_x1 nin0))))
      refine Goes.of (fun t k => st1726.trans k) ?_
      show Goes p e below (T1726.setTop (mkF m 37 #[.val (.ref a1), .val (.ref a2), .val (.ref a3), .val (.ref a4), .val (.int p5), .val (.int (1 : Int32)), .val (.int (1 : Int32)), .unset, .unset] [(.ref x1)])) _
      refine Goes.of (fun t k => XS.astore X1726.here hx rfl (hb hby d9_37) rfl rfl (l' := #[.val (.ref a1), .val (.ref a2), .val (.ref a3), .val (.ref a4), .val (.int p5), .val (.int (1 : Int32)), .val (.int (1 : Int32)), .val (.ref x1), .unset]) rfl k) ?_
      show Goes p e below (T1726.setTop (mkF m 39 #[.val (.ref a1), .val (.ref a2), .val (.ref a3), .val (.ref a4), .val (.int p5), .val (.int (1 : Int32)), .val (.int (1 : Int32)), .val (.ref x1), .unset] [])) _
      refine Goes.of (fun t k => XS.aload X1726.here hx rfl (hb hby d9_39) rfl rfl k) ?_
      show Goes p e below (T1726.setTop (mkF m 41 #[.val (.ref a1), .val (.ref a2), .val (.ref a3), .val (.ref a4), .val (.int p5), .val (.int (1 : Int32)), .val (.int (1 : Int32)), .val (.ref x1), .unset] [(.ref x1)])) _
      refine Goes.of (fun t k => XS.aloadN X1726.here hx rfl (hb hby d9_41) rfl rfl k) ?_
      show Goes p e below (T1726.setTop (mkF m 42 #[.val (.ref a1), .val (.ref a2), .val (.ref a3), .val (.ref a4), .val (.int p5), .val (.int (1 : Int32)), .val (.int (1 : Int32)), .val (.ref x1), .unset] [(.ref a2), (.ref x1)])) _
      refine Goes.of (fun t k => XS.iload X1726.here hx rfl (hb hby d9_42) rfl k) ?_
      have Vc1747 := f1746
      obtain ⟨clc1747, Arc1747, qc1747, Sc1747, Nc1747, Hc1747, Gc1747⟩ := Vc1747
      have hin1748 : ¬ ((1 : Int32) < 0 ∨ clc1747.slots.size ≤ ((1 : Int32)).toNatClampNeg) := inb_of Sc1747 ⟨by decide, by decide⟩
      have hat1749 : clc1747.slots[((1 : Int32)).toNatClampNeg]? = some (.ref x1) := Hc1747.at hin1748 rfl
      refine Goes.of (fun t k => X1726.aaload hx (j := (1 : Int32)) (v := (.ref x1)) Arc1747.1 (State.isArrayOf_alike hZ.alike Arc1747.2.1) rfl Arc1747.2.2 hin1748 hat1749 (g := (mkF m 44 #[.val (.ref a1), .val (.ref a2), .val (.ref a3), .val (.ref a4), .val (.int p5), .val (.int (1 : Int32)), .val (.int (1 : Int32)), .val (.ref x1), .unset] [(.int (1 : Int32)), (.ref a2), (.ref x1)])) rfl rfl (hb hby d9_44) _ k) ?_
      show Goes p e below (T1726.setTop (mkF m 45 #[.val (.ref a1), .val (.ref a2), .val (.ref a3), .val (.ref a4), .val (.int p5), .val (.int (1 : Int32)), .val (.int (1 : Int32)), .val (.ref x1), .unset] [(.ref x1), (.ref x1)])) _
      refine Goes.of (fun t k => Jvm.RoadKit.acmp (g := (mkF m 45 #[.val (.ref a1), .val (.ref a2), .val (.ref a3), .val (.ref a4), .val (.int p5), .val (.int (1 : Int32)), .val (.int (1 : Int32)), .val (.ref x1), .unset] [(.ref x1), (.ref x1)])) X1726 hx rfl rfl rfl (pc0 := 45) (pc' := 48) (same := true) rfl (hb hby d9_45) rfl (decide_eq_true (congrArg Value.ref rfl)) (by decide) (by decide) k) ?_
      show Goes p e below (T1726.setTop (mkF m 48 #[.val (.ref a1), .val (.ref a2), .val (.ref a3), .val (.ref a4), .val (.int p5), .val (.int (1 : Int32)), .val (.int (1 : Int32)), .val (.ref x1), .unset] [])) _
      refine Goes.of (fun t k => XS.iconst X1726.here hx rfl (hb hby d9_48) k) ?_
      show Goes p e below (T1726.setTop (mkF m 49 #[.val (.ref a1), .val (.ref a2), .val (.ref a3), .val (.ref a4), .val (.int p5), .val (.int (1 : Int32)), .val (.int (1 : Int32)), .val (.ref x1), .unset] [(.int (1 : Int32))])) _
      refine Goes.of (fun t k => XS.goto X1726.here hx rfl (pc0 := 49) (pc' := 53) rfl (hb hby d9_49) (by decide) (by decide) k) ?_
      show Goes p e below (T1726.setTop (mkF m 53 #[.val (.ref a1), .val (.ref a2), .val (.ref a3), .val (.ref a4), .val (.int p5), .val (.int (1 : Int32)), .val (.int (1 : Int32)), .val (.ref x1), .unset] [(.int (1 : Int32))])) _
      refine Goes.of (fun t k => XS.istore X1726.here hx rfl (hb hby d9_53) rfl (l' := #[.val (.ref a1), .val (.ref a2), .val (.ref a3), .val (.ref a4), .val (.int p5), .val (.int (1 : Int32)), .val (.int (1 : Int32)), .val (.ref x1), .val (.int (1 : Int32))]) rfl k) ?_
      show Goes p e below (T1726.setTop (mkF m 55 #[.val (.ref a1), .val (.ref a2), .val (.ref a3), .val (.ref a4), .val (.int p5), .val (.int (1 : Int32)), .val (.int (1 : Int32)), .val (.ref x1), .val (.int (1 : Int32))] [])) _
      refine Goes.of (fun t k => XS.aloadN X1726.here hx rfl (hb hby d9_55) rfl rfl k) ?_
      show Goes p e below (T1726.setTop (mkF m 56 #[.val (.ref a1), .val (.ref a2), .val (.ref a3), .val (.ref a4), .val (.int p5), .val (.int (1 : Int32)), .val (.int (1 : Int32)), .val (.ref x1), .val (.int (1 : Int32))] [(.ref a3)])) _
      refine Goes.of (fun t k => XS.iload X1726.here hx rfl (hb hby d9_56) rfl k) ?_
      show Goes p e below (T1726.setTop (mkF m 58 #[.val (.ref a1), .val (.ref a2), .val (.ref a3), .val (.ref a4), .val (.int p5), .val (.int (1 : Int32)), .val (.int (1 : Int32)), .val (.ref x1), .val (.int (1 : Int32))] [(.int (1 : Int32)), (.ref a3)])) _
      refine Goes.of (fun t k => XS.iconst X1726.here hx rfl (hb hby d9_58) k) ?_
      have Vc1750 := f1743
      obtain ⟨clc1750, Arc1750, qc1750, Sc1750, Nc1750, Hc1750, Gc1750⟩ := Vc1750
      have hin1751 : ¬ ((1 : Int32) < 0 ∨ clc1750.slots.size ≤ ((1 : Int32)).toNatClampNeg) := inb_of Sc1750 ⟨by decide, by decide⟩
      obtain ⟨T1752, h1752, X1752, e1752, W1752, st1752⟩ := stZ X1726 hx hZ rfl Arc1750 (j := (1 : Int32)) hin1751 (g := (mkF m 59 #[.val (.ref a1), .val (.ref a2), .val (.ref a3), .val (.ref a4), .val (.int p5), .val (.int (1 : Int32)), .val (.int (1 : Int32)), .val (.ref x1), .val (.int (1 : Int32))] [(.int (0 : Int32)), (.int (1 : Int32)), (.ref a3)])) rfl rfl (hb hby d9_59)
      have V1752 : Arv Z h1752 a3 kO .boolean (2 : Int32) [(.int (0 : Int32)), (.int (nar .boolean (0 : Int32)))] (.int (0 : Int32)) := Arv.set Arc1750 qc1750 Sc1750 Nc1750 Hc1750 Gc1750 (fits_nar_bool _) W1752 1 rfl (Nat.le_of_ble_eq_true rfl)
      have K1753 : Keep h0 h1752 [a1, a3, a4, HA, FA, x0, x1] := K1727.wr W1752 (Or.inl (List.mem_of_getElem? (i := 1) rfl))
      have z1754 : n0 ≤ h1752.size := Nat.le_trans z1728 (Keep.of_wr W1752).1
      have f1755 := E_1726.wr W1752
      have f1756 := f1739.wr W1752
      have f1757 := f1740.other W1752 (Or.inl (Ne.symm n_a3_x0))
      have f1758 := E_x1_1726.wr W1752
      have f1760 := f1744.other W1752 (Ne.symm n_a3_a4)
      have f1761 := f1745.wr W1752 g_a3
      have f1762 := f1746.other W1752 n_a2_a3
      have f1763 := F_heap_1726.other W1752 (Or.inl n_a1_a3)
      have f1764 := F_heapSize_1726.other W1752 (Or.inl n_a1_a3)
      have f1765 := F_gone_1726.other W1752 (Or.inl n_a1_a3)
      have f1766 := F_disordered_1726.other W1752 (Or.inl n_a1_a3)
      have f1767 := F_fresh_1726.other W1752 (Or.inl n_a1_a3)
      have f1768 := F_freshSize_1726.other W1752 (Or.inl n_a1_a3)
      have f1769 := F_size_1726.other W1752 (Or.inl n_a1_a3)
      have f1770 := VH_1726.other W1752 (Ne.symm n_a3_HA)
      have f1771 := VF_1726.other W1752 (Ne.symm n_a3_FA)
      have f1772 := P_x1_1726.other W1752 (Or.inl (Ne.symm n_a3_x1))
      have N1752 := Fr.snoc X1752 N1726 g_a3
      refine Goes.of st1752 ?_
      show Goes p e below (T1752.setTop (mkF m 60 #[.val (.ref a1), .val (.ref a2), .val (.ref a3), .val (.ref a4), .val (.int p5), .val (.int (1 : Int32)), .val (.int (1 : Int32)), .val (.ref x1), .val (.int (1 : Int32))] [])) _
      refine Goes.of (fun t k => XS.aloadN X1752.here hx rfl (hb hby d9_60) rfl rfl k) ?_
      show Goes p e below (T1752.setTop (mkF m 61 #[.val (.ref a1), .val (.ref a2), .val (.ref a3), .val (.ref a4), .val (.int p5), .val (.int (1 : Int32)), .val (.int (1 : Int32)), .val (.ref x1), .val (.int (1 : Int32))] [(.ref a4)])) _
      refine Goes.of (fun t k => XS.iconst X1752.here hx rfl (hb hby d9_61) k) ?_
      show Goes p e below (T1752.setTop (mkF m 62 #[.val (.ref a1), .val (.ref a2), .val (.ref a3), .val (.ref a4), .val (.int p5), .val (.int (1 : Int32)), .val (.int (1 : Int32)), .val (.ref x1), .val (.int (1 : Int32))] [(.int (0 : Int32)), (.ref a4)])) _
      refine Goes.of (fun t k => XS.iconst X1752.here hx rfl (hb hby d9_62) k) ?_
      have Vc1773 := f1760
      obtain ⟨clc1773, Arc1773, qc1773, Sc1773, Nc1773, Hc1773, Gc1773⟩ := Vc1773
      have hin1774 : ¬ ((0 : Int32) < 0 ∨ clc1773.slots.size ≤ ((0 : Int32)).toNatClampNeg) := inb_of Sc1773 ⟨by decide, by decide⟩
      obtain ⟨T1775, h1775, X1775, e1775, W1775, st1775⟩ := stI X1752 hx hZ e1752 Arc1773 (j := (0 : Int32)) hin1774 (g := (mkF m 63 #[.val (.ref a1), .val (.ref a2), .val (.ref a3), .val (.ref a4), .val (.int p5), .val (.int (1 : Int32)), .val (.int (1 : Int32)), .val (.ref x1), .val (.int (1 : Int32))] [(.int (0 : Int32)), (.int (0 : Int32)), (.ref a4)])) rfl rfl (hb hby d9_63)
      have V1775 : Arv Z h1775 a4 kC .int (1 : Int32) [(.int (0 : Int32))] (.int (0 : Int32)) := Arv.set Arc1773 qc1773 Sc1773 Nc1773 Hc1773 Gc1773 rfl W1775 0 rfl (Nat.le_of_ble_eq_true rfl)
      have K1776 : Keep h0 h1775 [a1, a3, a4, HA, FA, x0, x1] := K1753.wr W1775 (Or.inl (List.mem_of_getElem? (i := 2) rfl))
      have z1777 : n0 ≤ h1775.size := Nat.le_trans z1754 (Keep.of_wr W1775).1
      have f1778 := f1755.wr W1775
      have f1779 := f1756.wr W1775
      have f1780 := f1757.other W1775 (Or.inl (Ne.symm n_a4_x0))
      have f1781 := f1758.wr W1775
      have f1782 := V1752.other W1775 n_a3_a4
      have f1784 := f1761.wr W1775 g_a4
      have f1785 := f1762.other W1775 n_a2_a4
      have f1786 := f1763.other W1775 (Or.inl n_a1_a4)
      have f1787 := f1764.other W1775 (Or.inl n_a1_a4)
      have f1788 := f1765.other W1775 (Or.inl n_a1_a4)
      have f1789 := f1766.other W1775 (Or.inl n_a1_a4)
      have f1790 := f1767.other W1775 (Or.inl n_a1_a4)
      have f1791 := f1768.other W1775 (Or.inl n_a1_a4)
      have f1792 := f1769.other W1775 (Or.inl n_a1_a4)
      have f1793 := f1770.other W1775 (Ne.symm n_a4_HA)
      have f1794 := f1771.other W1775 (Ne.symm n_a4_FA)
      have f1795 := f1772.other W1775 (Or.inl (Ne.symm n_a4_x1))
      have N1775 := Fr.snoc X1775 N1752 g_a4
      refine Goes.of st1775 ?_
      show Goes p e below (T1775.setTop (mkF m 64 #[.val (.ref a1), .val (.ref a2), .val (.ref a3), .val (.ref a4), .val (.int p5), .val (.int (1 : Int32)), .val (.int (1 : Int32)), .val (.ref x1), .val (.int (1 : Int32))] [])) _
      refine Goes.of (fun t k => XS.iload X1775.here hx rfl (hb hby d9_64) rfl k) ?_
      show Goes p e below (T1775.setTop (mkF m 66 #[.val (.ref a1), .val (.ref a2), .val (.ref a3), .val (.ref a4), .val (.int p5), .val (.int (1 : Int32)), .val (.int (1 : Int32)), .val (.ref x1), .val (.int (1 : Int32))] [(.int (1 : Int32))])) _
      refine Goes.of (fun t k => XS.ifNo X1775.here hx rfl (hb hby d9_66) rfl ((if0 _ _).trans (feq (by decide)).1) k) ?_
      show Goes p e below (T1775.setTop (mkF m 69 #[.val (.ref a1), .val (.ref a2), .val (.ref a3), .val (.ref a4), .val (.int p5), .val (.int (1 : Int32)), .val (.int (1 : Int32)), .val (.ref x1), .val (.int (1 : Int32))] [])) _
      refine Goes.of (fun t k => XS.aloadN X1775.here hx rfl (hb hby d9_69) rfl rfl k) ?_
      obtain ⟨cq1796, kq1796, q1796a, q1796b, q1796c⟩ := isOf hZ e1775 f1778
      obtain ⟨_, _, ⟨T1796, L1796, k1796, n1796⟩, -, X1796, ⟨Lc1796, hQ1796, l1796, y1796, z1796⟩, st1796⟩ := X1775.virtualBack hx (y := (⟨"com/example/ripplematch/ripplematch/core/Agenda", "isEmpty", "()Z"⟩ : MethodName)) (z := (⟨"com/example/ripplematch/ripplematch/core/Agenda", "isEmpty", "()Z"⟩ : MethodName)) hown (mvT hZ (wd hw 64 rfl)) (mvT hZ (wd hw 65 rfl)) (notFace_of_selects (args := #[]) (mvT hZ (wd hw 67 rfl))) (mvT hZ (wd hw 67 rfl)) (mvT hZ (wd hw 66 rfl)) (by decide) (backOf (W := 0) (rm8 l Z a0 hw [] a1 (0 : Int32) h1775 n0 z1777 f1792) hZ (wd hw 68 rfl) (wd hw 2 rfl) (by decide) (by decide)) q1796a q1796c (g := (mkF m 70 #[.val (.ref a1), .val (.ref a2), .val (.ref a3), .val (.ref a4), .val (.int p5), .val (.int (1 : Int32)), .val (.int (1 : Int32)), .val (.ref x1), .val (.int (1 : Int32))] [(.ref a1)])) rfl (by rw [hml]; rfl) (Steps.refl _) (argsL := []) (rest := []) (lenOf pd_6 rfl) rfl (by show 2 * 0 + _ ≤ _; exact Nat.le_of_eq rfl) (hb hby d9_70) (fun _ _ => ⟨rfl, e1775, (by decide : 0 + 0 ≤ _), (by decide : 0 + 0 ≤ _)⟩)
      dsimp only [Pt.U, Pt.locs, Pt.cells, Pt.slots] at X1796 l1796 y1796 z1796 st1796 hQ1796
      subst l1796 y1796 z1796
      obtain ⟨rfl, N1796q, e1796⟩ := hQ1796
      have N1796 := Fr.app N1775 N1796q
      refine Goes.of (fun t k => st1796.trans k) ?_
      show Goes p e below (T1796.setTop (mkF m 73 #[.val (.ref a1), .val (.ref a2), .val (.ref a3), .val (.ref a4), .val (.int p5), .val (.int (1 : Int32)), .val (.int (1 : Int32)), .val (.ref x1), .val (.int (1 : Int32))] [(.int (1 : Int32))])) _
      refine Goes.of (fun t k => XS.ifNo X1796.here hx rfl (hb hby d9_73) rfl ((if0 _ _).trans (feq (by decide)).1) k) ?_
      show Goes p e below (T1796.setTop (mkF m 76 #[.val (.ref a1), .val (.ref a2), .val (.ref a3), .val (.ref a4), .val (.int p5), .val (.int (1 : Int32)), .val (.int (1 : Int32)), .val (.ref x1), .val (.int (1 : Int32))] [])) _
      refine Goes.of (fun t k => XS.iconst X1796.here hx rfl (hb hby d9_76) k) ?_
      show Goes p e below (T1796.setTop (mkF m 77 #[.val (.ref a1), .val (.ref a2), .val (.ref a3), .val (.ref a4), .val (.int p5), .val (.int (1 : Int32)), .val (.int (1 : Int32)), .val (.ref x1), .val (.int (1 : Int32))] [(.int (1 : Int32))])) _
      refine Goes.of (fun t k => XS.goto X1796.here hx rfl (pc0 := 77) (pc' := 81) rfl (hb hby d9_77) (by decide) (by decide) k) ?_
      show Goes p e below (T1796.setTop (mkF m 81 #[.val (.ref a1), .val (.ref a2), .val (.ref a3), .val (.ref a4), .val (.int p5), .val (.int (1 : Int32)), .val (.int (1 : Int32)), .val (.ref x1), .val (.int (1 : Int32))] [(.int (1 : Int32))])) _
      have eh : T1796.heap = h1775 := e1796
      exact Goes.retN (t := .boolean) X1796 hx Bd.returns (by simp) hlocks (hb hby d9_81) (⟨rfl, N1796, by rw [eh]; exact K1776, Or.inl ⟨by rw [eh]; exact f1778, by rw [eh]; exact f1786, by rw [eh]; exact f1787, by rw [eh]; exact f1788, by rw [eh]; exact f1789, by rw [eh]; exact f1790, by rw [eh]; exact f1791, by rw [eh]; exact f1792, by rw [eh]; exact f1793, by rw [eh]; exact f1794, by rw [eh]; exact f1779, by rw [eh]; exact f1780, by rw [eh]; exact f1781, by rw [eh]; exact f1795, by rw [eh]; exact f1782, by rw [eh]; exact V1775⟩⟩) (by decide) (by decide)
theorem ef_9_1797 (m : MethodId) (x0 : Addr) (x1 : Addr) (x2 : Addr) (x3 : Addr) (x4 : Int32) : entryFrame m #[(.ref x0), (.ref x1), (.ref x2), (.ref x3), (.int x4)] 9 = mkF m 0 #[.val (.ref x0), .val (.ref x1), .val (.ref x2), .val (.ref x3), .val (.int x4), .unset, .unset, .unset, .unset] [] := by first | (simp [entryFrame, mkF, argsToLocals, Value.category]; done) | rfl
def Q9_1797 (Z : State) (a1 : Addr) (a2 : Addr) (a3 : Addr) (a4 : Addr) (p5 : Int32) (HA : Addr) (FA : Addr) (x0 : Addr) (x1 : Addr) (kH : ClassId) (kF : ClassId) (kO : ClassId) (kC : ClassId) (kT : ClassId) (h0 : Heap) (n0 : Nat) (v : Option Value) (h : Heap) (L : List Loc) : Prop := v = some (.int 1) ∧ Fr n0 L ∧ Keep h0 h [a1, a3, a4, HA, FA, x0, x1] ∧ own_st Z h a1 a2 a3 a4 HA FA x0 x1 kH kF kO kC
set_option maxRecDepth 65536 in
set_option maxHeartbeats 40000000 in
theorem rm9_1797 (l : Launch) (Z : State) (a0 : Array Value) (hw : ∀ d ∈ tables_1, d.before a0 Z = true) (ws : List Jvm.Cond) (a1 : Addr) (a2 : Addr) (a3 : Addr) (a4 : Addr) (p5 : Int32) (HA : Addr) (FA : Addr) (x0 : Addr) (x1 : Addr) (kH : ClassId) (kF : ClassId) (kO : ClassId) (kC : ClassId) (kT : ClassId) (h0 : Heap) (n0 : Nat) (Z0 : n0 ≤ h0.size) (O0 : Old Z n0 h0) (SA : Sta Z Z.heap "com/example/ripplematch/ripplematch/core/Agenda" "$assertionsDisabled" "Z" (.int (1 : Int32))) (E : Exa Z h0 a1 "com/example/ripplematch/ripplematch/core/Agenda") (F_heap : Fld Z h0 a1 "com/example/ripplematch/ripplematch/core/Agenda" "heap" "[Lcom/example/ripplematch/ripplematch/core/Activation;" (.ref HA)) (F_heapSize : Fld Z h0 a1 "com/example/ripplematch/ripplematch/core/Agenda" "heapSize" "I" (.int (0 : Int32))) (F_gone : Fld Z h0 a1 "com/example/ripplematch/ripplematch/core/Agenda" "gone" "I" (.int (0 : Int32))) (F_disordered : Fld Z h0 a1 "com/example/ripplematch/ripplematch/core/Agenda" "disordered" "Z" (.int (0 : Int32))) (F_fresh : Fld Z h0 a1 "com/example/ripplematch/ripplematch/core/Agenda" "fresh" "[Lcom/example/ripplematch/ripplematch/core/Activation;" (.ref FA)) (F_freshSize : Fld Z h0 a1 "com/example/ripplematch/ripplematch/core/Agenda" "freshSize" "I" (.int (2 : Int32))) (F_size : Fld Z h0 a1 "com/example/ripplematch/ripplematch/core/Agenda" "size" "I" (.int (2 : Int32))) (VH : Arv Z h0 HA kH (.object "com/example/ripplematch/ripplematch/core/Activation") (16 : Int32) [.null, .null, .null, .null, .null, .null, .null, .null, .null, .null, .null, .null, .null, .null, .null, .null] .null) (VF : Arv Z h0 FA kF (.object "com/example/ripplematch/ripplematch/core/Activation") (16 : Int32) [(.ref x0), (.ref x1), .null, .null, .null, .null, .null, .null, .null, .null, .null, .null, .null, .null, .null, .null] .null) (E_x0 : Exa Z h0 x0 "com/example/ripplematch/ripplematch/core/Activation") (P_x0 : Fld Z h0 x0 "com/example/ripplematch/ripplematch/core/Activation" "place" "I" (.int (-2 : Int32))) (E_x1 : Exa Z h0 x1 "com/example/ripplematch/ripplematch/core/Activation") (P_x1 : Fld Z h0 x1 "com/example/ripplematch/ripplematch/core/Activation" "place" "I" (.int (-3 : Int32))) (VO : Arv Z h0 a3 kO .boolean (2 : Int32) [(.int (1 : Int32)), (.int (1 : Int32))] (.int (0 : Int32))) (VC : Arv Z h0 a4 kC .int (1 : Int32) [(.int (2 : Int32))] (.int (0 : Int32))) (VT : Arv Z h0 a2 kT (.object "com/example/ripplematch/ripplematch/core/Activation") (2 : Int32) [(.ref x0), (.ref x1)] .null) (g_a1 : n0 ≤ a1) (g_a3 : n0 ≤ a3) (g_a4 : n0 ≤ a4) (g_HA : n0 ≤ HA) (g_FA : n0 ≤ FA) (g_x0 : n0 ≤ x0) (g_x1 : n0 ≤ x1) (n_a1_a2 : a1 ≠ a2) (n_a1_a3 : a1 ≠ a3) (n_a1_a4 : a1 ≠ a4) (n_a1_HA : a1 ≠ HA) (n_a1_FA : a1 ≠ FA) (n_a1_x0 : a1 ≠ x0) (n_a1_x1 : a1 ≠ x1) (n_a2_a3 : a2 ≠ a3) (n_a2_a4 : a2 ≠ a4) (n_a2_HA : a2 ≠ HA) (n_a2_FA : a2 ≠ FA) (n_a2_x0 : a2 ≠ x0) (n_a2_x1 : a2 ≠ x1) (n_a3_a4 : a3 ≠ a4) (n_a3_HA : a3 ≠ HA) (n_a3_FA : a3 ≠ FA) (n_a3_x0 : a3 ≠ x0) (n_a3_x1 : a3 ≠ x1) (n_a4_HA : a4 ≠ HA) (n_a4_FA : a4 ≠ FA) (n_a4_x0 : a4 ≠ x0) (n_a4_x1 : a4 ≠ x1) (n_HA_FA : HA ≠ FA) (n_HA_x0 : HA ≠ x0) (n_HA_x1 : HA ≠ x1) (n_FA_x0 : FA ≠ x0) (n_FA_x1 : FA ≠ x1) (n_x0_x1 : x0 ≠ x1) (OH : Ovr Z kH "com/example/ripplematch/ripplematch/core/Activation") (OF : Ovr Z kF "com/example/ripplematch/ripplematch/core/Activation") :
    MetFree l (⟨"com/example/ripplematch/ripplematch/core/AgendaIsEmptyPinLaw", "step", "(Lcom/example/ripplematch/ripplematch/core/Agenda;[Lcom/example/ripplematch/ripplematch/core/Activation;[Z[II)Z"⟩ : MethodName) (head1 (Jvm.Cond.code (⟨"com/example/ripplematch/ripplematch/core/AgendaIsEmptyPinLaw", "step", "(Lcom/example/ripplematch/ripplematch/core/Agenda;[Lcom/example/ripplematch/ripplematch/core/Activation;[Z[II)Z"⟩ : MethodName) method_3_code 9 (some .boolean) :: ws) ({ frames := 4, cells := 0, slots := 0, locals := 60 } : Room)) (fun a U => a = #[(.ref a1), (.ref a2), (.ref a3), (.ref a4), (.int p5)] ∧ Z.Warmed39 U.vm ∧ U.heap = h0) (fun _ _ _ _ _ => True) (fun _ U o U' => ∃ v L, o = .returned v ∧ Q9_1797 Z a1 a2 a3 a4 p5 HA FA x0 x1 kH kF kO kC kT h0 n0 v U'.heap L ∧ FrameEnd U o U' L ({ frames := 4, cells := 0, slots := 0, locals := 60 } : Room).cells ({ frames := 4, cells := 0, slots := 0, locals := 60 } : Room).slots) := by
  refine MetFree.of_bodySF (plainFor_of_name pn_4) hisR ?_
  intro p e s m args below meth c s₁ Bd hml0 hP hK
  obtain ⟨rfl, hZ, hh⟩ := hP
  have hx := Bd.exec
  have hby := Bd.bytes
  have hml : c.maxLocals = 9 := hml0
  have hown : s.vm.findClass "com/example/ripplematch/ripplematch/core/AgendaIsEmptyPinLaw" = some m.cls := findClass_of_methodNamed Bd.named
  have hnm := (name_of_methodNamed Bd.named Bd.method).1
  have hlocks : meth.locks = false := BodyLoose.notSynchronized Bd
  have X0 : Stand p l e ({ frames := 4, cells := 0, slots := 0, locals := 60 } : Room) s m #[(.ref a1), (.ref a2), (.ref a3), (.ref a4), (.int p5)] below meth c s₁ [] 0 0 := Stand.of_body Bd
  have e0 : s₁.heap = h0 := by rw [← hh, Bd.state]; rfl
  have N0 := Fr.nil n0
  show Goes p e below (s₁.setTop (entryFrame m #[(.ref a1), (.ref a2), (.ref a3), (.ref a4), (.int p5)] 9)) (Fin s (Q9_1797 Z a1 a2 a3 a4 p5 HA FA x0 x1 kH kF kO kC kT h0 n0) ({ frames := 4, cells := 0, slots := 0, locals := 60 } : Room).cells ({ frames := 4, cells := 0, slots := 0, locals := 60 } : Room).slots)
  refine Goes.of (fun t k => castTop (ef_9_1797 m a1 a2 a3 a4 p5) k) ?_
  have K0 : Keep h0 h0 [a1, a3, a4, HA, FA, x0, x1] := Keep.refl _ _
  show Goes p e below (s₁.setTop (mkF m 0 #[.val (.ref a1), .val (.ref a2), .val (.ref a3), .val (.ref a4), .val (.int p5), .unset, .unset, .unset, .unset] [])) _
  refine Goes.of (fun t k => XS.iload X0.here hx rfl (hb hby d9_0) rfl k) ?_
  show Goes p e below (s₁.setTop (mkF m 2 #[.val (.ref a1), .val (.ref a2), .val (.ref a3), .val (.ref a4), .val (.int p5), .unset, .unset, .unset, .unset] [(.int p5)])) _
  refine Goes.of (fun t k => XS.iconst X0.here hx rfl (hb hby d9_2) k) ?_
  show Goes p e below (s₁.setTop (mkF m 3 #[.val (.ref a1), .val (.ref a2), .val (.ref a3), .val (.ref a4), .val (.int p5), .unset, .unset, .unset, .unset] [(.int (1 : Int32)), (.int p5)])) _
  refine Goes.of (fun t k => XS.iand X0.here hx rfl (hb hby d9_3) rfl k) ?_
  show Goes p e below (s₁.setTop (mkF m 4 #[.val (.ref a1), .val (.ref a2), .val (.ref a3), .val (.ref a4), .val (.int p5), .unset, .unset, .unset, .unset] [(.int (p5 &&& (1 : Int32)))])) _
  refine Goes.of (fun t k => XS.istore X0.here hx rfl (hb hby d9_4) rfl (l' := #[.val (.ref a1), .val (.ref a2), .val (.ref a3), .val (.ref a4), .val (.int p5), .val (.int (p5 &&& (1 : Int32))), .unset, .unset, .unset]) rfl k) ?_
  show Goes p e below (s₁.setTop (mkF m 6 #[.val (.ref a1), .val (.ref a2), .val (.ref a3), .val (.ref a4), .val (.int p5), .val (.int (p5 &&& (1 : Int32))), .unset, .unset, .unset] [])) _
  rcases own_and1 p5 with hi | hi
  · rw [hi]
    show Goes p e below (s₁.setTop (mkF m 6 #[.val (.ref a1), .val (.ref a2), .val (.ref a3), .val (.ref a4), .val (.int p5), .val (.int (0 : Int32)), .unset, .unset, .unset] [])) _
    refine Goes.of (fun t k => XS.iload X0.here hx rfl (hb hby d9_6) rfl k) ?_
    show Goes p e below (s₁.setTop (mkF m 8 #[.val (.ref a1), .val (.ref a2), .val (.ref a3), .val (.ref a4), .val (.int p5), .val (.int (0 : Int32)), .unset, .unset, .unset] [(.int p5)])) _
    refine Goes.of (fun t k => XS.iconst X0.here hx rfl (hb hby d9_8) k) ?_
    show Goes p e below (s₁.setTop (mkF m 9 #[.val (.ref a1), .val (.ref a2), .val (.ref a3), .val (.ref a4), .val (.int p5), .val (.int (0 : Int32)), .unset, .unset, .unset] [(.int (2 : Int32)), (.int p5)])) _
    refine Goes.of (fun t k => XS.iand X0.here hx rfl (hb hby d9_9) rfl k) ?_
    show Goes p e below (s₁.setTop (mkF m 10 #[.val (.ref a1), .val (.ref a2), .val (.ref a3), .val (.ref a4), .val (.int p5), .val (.int (0 : Int32)), .unset, .unset, .unset] [(.int (p5 &&& (2 : Int32)))])) _
    by_cases hc10_1798 : (p5 &&& (2 : Int32)) = (0 : Int32)
    · refine Goes.of (fun t k => XS.ifYes X0.here hx rfl (pc0 := 10) (pc' := 82) rfl (hb hby d9_10) rfl ((if0 _ _).trans (teq hc10_1798).1) (by decide) (by decide) k) ?_
      show Goes p e below (s₁.setTop (mkF m 82 #[.val (.ref a1), .val (.ref a2), .val (.ref a3), .val (.ref a4), .val (.int p5), .val (.int (0 : Int32)), .unset, .unset, .unset] [])) _
      refine Goes.of (fun t k => XS.aloadN X0.here hx rfl (hb hby d9_82) rfl rfl k) ?_
      show Goes p e below (s₁.setTop (mkF m 83 #[.val (.ref a1), .val (.ref a2), .val (.ref a3), .val (.ref a4), .val (.int p5), .val (.int (0 : Int32)), .unset, .unset, .unset] [(.ref a3)])) _
      refine Goes.of (fun t k => XS.iload X0.here hx rfl (hb hby d9_83) rfl k) ?_
      have Vc1799 := VO
      obtain ⟨clc1799, Arc1799, qc1799, Sc1799, Nc1799, Hc1799, Gc1799⟩ := Vc1799
      have hin1800 : ¬ ((0 : Int32) < 0 ∨ clc1799.slots.size ≤ ((0 : Int32)).toNatClampNeg) := inb_of Sc1799 ⟨by decide, by decide⟩
      have hat1801 : clc1799.slots[((0 : Int32)).toNatClampNeg]? = some (.int (1 : Int32)) := Hc1799.at hin1800 rfl
      refine Goes.of (fun t k => X0.baloadBooleans hx (j := (0 : Int32)) (v := (.int (1 : Int32))) (by rw [e0]; exact Arc1799.1) (State.isArrayOf_alike hZ.alike Arc1799.2.1) Arc1799.2.2 hin1800 hat1801 (g := (mkF m 85 #[.val (.ref a1), .val (.ref a2), .val (.ref a3), .val (.ref a4), .val (.int p5), .val (.int (0 : Int32)), .unset, .unset, .unset] [(.int (0 : Int32)), (.ref a3)])) rfl rfl (hb hby d9_85) _ k) ?_
      show Goes p e below (s₁.setTop (mkF m 86 #[.val (.ref a1), .val (.ref a2), .val (.ref a3), .val (.ref a4), .val (.int p5), .val (.int (0 : Int32)), .unset, .unset, .unset] [(.int (1 : Int32))])) _
      refine Goes.of (fun t k => XS.ifNo X0.here hx rfl (hb hby d9_86) rfl ((if0 _ _).trans (feq (by decide)).1) k) ?_
      show Goes p e below (s₁.setTop (mkF m 89 #[.val (.ref a1), .val (.ref a2), .val (.ref a3), .val (.ref a4), .val (.int p5), .val (.int (0 : Int32)), .unset, .unset, .unset] [])) _
      refine Goes.of (fun t k => XS.aloadN X0.here hx rfl (hb hby d9_89) rfl rfl k) ?_
      show Goes p e below (s₁.setTop (mkF m 90 #[.val (.ref a1), .val (.ref a2), .val (.ref a3), .val (.ref a4), .val (.int p5), .val (.int (0 : Int32)), .unset, .unset, .unset] [(.ref a1)])) _
      refine Goes.of (fun t k => XS.aloadN X0.here hx rfl (hb hby d9_90) rfl rfl k) ?_
      show Goes p e below (s₁.setTop (mkF m 91 #[.val (.ref a1), .val (.ref a2), .val (.ref a3), .val (.ref a4), .val (.int p5), .val (.int (0 : Int32)), .unset, .unset, .unset] [(.ref a2), (.ref a1)])) _
      refine Goes.of (fun t k => XS.iload X0.here hx rfl (hb hby d9_91) rfl k) ?_
      have Vc1802 := VT
      obtain ⟨clc1802, Arc1802, qc1802, Sc1802, Nc1802, Hc1802, Gc1802⟩ := Vc1802
      have hin1803 : ¬ ((0 : Int32) < 0 ∨ clc1802.slots.size ≤ ((0 : Int32)).toNatClampNeg) := inb_of Sc1802 ⟨by decide, by decide⟩
      have hat1804 : clc1802.slots[((0 : Int32)).toNatClampNeg]? = some (.ref x0) := Hc1802.at hin1803 rfl
      refine Goes.of (fun t k => X0.aaload hx (j := (0 : Int32)) (v := (.ref x0)) (by rw [e0]; exact Arc1802.1) (State.isArrayOf_alike hZ.alike Arc1802.2.1) rfl Arc1802.2.2 hin1803 hat1804 (g := (mkF m 93 #[.val (.ref a1), .val (.ref a2), .val (.ref a3), .val (.ref a4), .val (.int p5), .val (.int (0 : Int32)), .unset, .unset, .unset] [(.int (0 : Int32)), (.ref a2), (.ref a1)])) rfl rfl (hb hby d9_93) _ k) ?_
      obtain ⟨cq1805, kq1805, q1805a, q1805b, q1805c⟩ := isOf hZ e0 E
      obtain ⟨_, _, ⟨T1805, L1805, k1805, n1805⟩, -, X1805, ⟨Lc1805, hQ1805, l1805, y1805, z1805⟩, st1805⟩ := X0.virtualBack hx (y := (⟨"com/example/ripplematch/ripplematch/core/Agenda", "remove", "(Lcom/example/ripplematch/ripplematch/core/Activation;)V"⟩ : MethodName)) (z := (⟨"com/example/ripplematch/ripplematch/core/Agenda", "remove", "(Lcom/example/ripplematch/ripplematch/core/Activation;)V"⟩ : MethodName)) hown (mvT hZ (wd hw 85 rfl)) (mvT hZ (wd hw 86 rfl)) (notFace_of_selects (args := #[]) (mvT hZ (wd hw 88 rfl))) (mvT hZ (wd hw 88 rfl)) (mvT hZ (wd hw 87 rfl)) (by decide) (backOf (W := 0) (rm11_576 l Z a0 hw [] a1 x0 HA FA x1 _ _ h0 n0 Z0 O0 SA E F_heap F_heapSize F_gone F_disordered F_fresh F_freshSize F_size VH VF E_x0 P_x0 E_x1 P_x1 g_a1 g_HA g_FA g_x0 g_x1 n_a1_HA n_a1_FA n_a1_x0 n_a1_x1 n_HA_FA n_HA_x0 n_HA_x1 n_FA_x0 n_FA_x1 n_x0_x1 OH OF) hZ (wd hw 89 rfl) (wd hw 2 rfl) (by decide) (by decide)) q1805a q1805c (g := (mkF m 94 #[.val (.ref a1), .val (.ref a2), .val (.ref a3), .val (.ref a4), .val (.int p5), .val (.int (0 : Int32)), .unset, .unset, .unset] [(.ref x0), (.ref a1)])) rfl (by rw [hml]; rfl) (Steps.refl _) (argsL := [(.ref x0)]) (rest := []) (lenOf pd_5 rfl) rfl (by show 2 * 0 + _ ≤ _; exact Nat.le_of_eq rfl) (hb hby d9_94) (fun _ _ => ⟨rfl, e0, (by decide : 0 + 0 ≤ _), (by decide : 0 + 0 ≤ _)⟩)
      dsimp only [Pt.U, Pt.locs, Pt.cells, Pt.slots] at X1805 l1805 y1805 z1805 st1805 hQ1805
      subst l1805 y1805 z1805
      obtain ⟨rfl, N1805q, K1805, E_1805, F_heap_1805, F_heapSize_1805, F_gone_1805, F_disordered_1805, F_fresh_1805, F_freshSize_1805, F_size_1805, VH_1805, VF_1805, E_x0_1805, P_x0_1805, E_x1_1805, P_x1_1805⟩ := hQ1805
      have N1805 := Fr.app N0 N1805q
      have K1806 : Keep h0 T1805.heap [a1, a3, a4, HA, FA, x0, x1] := K0.trans K1805 (allS (Or.inl (List.mem_of_getElem? (i := 0) rfl)) (allS (Or.inl (List.mem_of_getElem? (i := 4) rfl)) (allS (Or.inl (List.mem_of_getElem? (i := 5) rfl)) (allS (Or.inl (List.mem_of_getElem? (i := 6) rfl)) all0))))
      have z1807 : n0 ≤ T1805.heap.size := Nat.le_trans Z0 K1805.1
      have f1808 := E.keep K1805
      have f1816 := VH.keep K1805 (ninS (Ne.symm n_a1_HA) (ninS n_HA_FA (ninS n_HA_x0 (ninS n_HA_x1 nin0))))
      have f1818 := E_x0.keep K1805
      have f1820 := E_x1.keep K1805
      have f1822 := VO.keep K1805 (ninS (Ne.symm n_a1_a3) (ninS n_a3_FA (ninS n_a3_x0 (ninS n_a3_x1 nin0))))
      have f1823 := VC.keep K1805 (ninS (Ne.symm n_a1_a4) (ninS n_a4_FA (ninS n_a4_x0 (ninS n_a4_x1 nin0))))
      have f1824 := O0.keep K1805 (allS g_a1 (allS g_FA (allS g_x0 (allS g_x1 all0))))
      have f1825 := VT.keep K1805 (ninS (Ne.symm n_a1_a2) (ninS n_a2_FA (ninS n_a2_x0 (ninS n_a2_x1 nin0))))
      refine Goes.of (fun t k => st1805.trans k) ?_
      show Goes p e below (T1805.setTop (mkF m 97 #[.val (.ref a1), .val (.ref a2), .val (.ref a3), .val (.ref a4), .val (.int p5), .val (.int (0 : Int32)), .unset, .unset, .unset] [])) _
      refine Goes.of (fun t k => XS.aloadN X1805.here hx rfl (hb hby d9_97) rfl rfl k) ?_
      show Goes p e below (T1805.setTop (mkF m 98 #[.val (.ref a1), .val (.ref a2), .val (.ref a3), .val (.ref a4), .val (.int p5), .val (.int (0 : Int32)), .unset, .unset, .unset] [(.ref a3)])) _
      refine Goes.of (fun t k => XS.iload X1805.here hx rfl (hb hby d9_98) rfl k) ?_
      show Goes p e below (T1805.setTop (mkF m 100 #[.val (.ref a1), .val (.ref a2), .val (.ref a3), .val (.ref a4), .val (.int p5), .val (.int (0 : Int32)), .unset, .unset, .unset] [(.int (0 : Int32)), (.ref a3)])) _
      refine Goes.of (fun t k => XS.iconst X1805.here hx rfl (hb hby d9_100) k) ?_
      have Vc1826 := f1822
      obtain ⟨clc1826, Arc1826, qc1826, Sc1826, Nc1826, Hc1826, Gc1826⟩ := Vc1826
      have hin1827 : ¬ ((0 : Int32) < 0 ∨ clc1826.slots.size ≤ ((0 : Int32)).toNatClampNeg) := inb_of Sc1826 ⟨by decide, by decide⟩
      obtain ⟨T1828, h1828, X1828, e1828, W1828, st1828⟩ := stZ X1805 hx hZ rfl Arc1826 (j := (0 : Int32)) hin1827 (g := (mkF m 101 #[.val (.ref a1), .val (.ref a2), .val (.ref a3), .val (.ref a4), .val (.int p5), .val (.int (0 : Int32)), .unset, .unset, .unset] [(.int (0 : Int32)), (.int (0 : Int32)), (.ref a3)])) rfl rfl (hb hby d9_101)
      have V1828 : Arv Z h1828 a3 kO .boolean (2 : Int32) [(.int (nar .boolean (0 : Int32))), (.int (1 : Int32))] (.int (0 : Int32)) := Arv.set Arc1826 qc1826 Sc1826 Nc1826 Hc1826 Gc1826 (fits_nar_bool _) W1828 0 rfl (Nat.le_of_ble_eq_true rfl)
      have K1829 : Keep h0 h1828 [a1, a3, a4, HA, FA, x0, x1] := K1806.wr W1828 (Or.inl (List.mem_of_getElem? (i := 1) rfl))
      have z1830 : n0 ≤ h1828.size := Nat.le_trans z1807 (Keep.of_wr W1828).1
      have f1831 := E_1805.wr W1828
      have f1832 := VH_1805.other W1828 (Ne.symm n_a3_HA)
      have f1833 := E_x0_1805.wr W1828
      have f1834 := E_x1_1805.wr W1828
      have f1836 := f1823.other W1828 (Ne.symm n_a3_a4)
      have f1837 := f1824.wr W1828 g_a3
      have f1838 := f1825.other W1828 n_a2_a3
      have f1839 := F_heap_1805.other W1828 (Or.inl n_a1_a3)
      have f1840 := F_heapSize_1805.other W1828 (Or.inl n_a1_a3)
      have f1841 := F_gone_1805.other W1828 (Or.inl n_a1_a3)
      have f1842 := F_disordered_1805.other W1828 (Or.inl n_a1_a3)
      have f1843 := F_fresh_1805.other W1828 (Or.inl n_a1_a3)
      have f1844 := F_freshSize_1805.other W1828 (Or.inl n_a1_a3)
      have f1845 := F_size_1805.other W1828 (Or.inl n_a1_a3)
      have f1846 := VF_1805.other W1828 (Ne.symm n_a3_FA)
      have f1847 := P_x0_1805.other W1828 (Or.inl (Ne.symm n_a3_x0))
      have f1848 := P_x1_1805.other W1828 (Or.inl (Ne.symm n_a3_x1))
      have N1828 := Fr.snoc X1828 N1805 g_a3
      refine Goes.of st1828 ?_
      show Goes p e below (T1828.setTop (mkF m 102 #[.val (.ref a1), .val (.ref a2), .val (.ref a3), .val (.ref a4), .val (.int p5), .val (.int (0 : Int32)), .unset, .unset, .unset] [])) _
      refine Goes.of (fun t k => XS.aloadN X1828.here hx rfl (hb hby d9_102) rfl rfl k) ?_
      show Goes p e below (T1828.setTop (mkF m 103 #[.val (.ref a1), .val (.ref a2), .val (.ref a3), .val (.ref a4), .val (.int p5), .val (.int (0 : Int32)), .unset, .unset, .unset] [(.ref a4)])) _
      refine Goes.of (fun t k => XS.iconst X1828.here hx rfl (hb hby d9_103) k) ?_
      show Goes p e below (T1828.setTop (mkF m 104 #[.val (.ref a1), .val (.ref a2), .val (.ref a3), .val (.ref a4), .val (.int p5), .val (.int (0 : Int32)), .unset, .unset, .unset] [(.int (0 : Int32)), (.ref a4)])) _
      refine Goes.of (fun t k => XS.aloadN X1828.here hx rfl (hb hby d9_104) rfl rfl k) ?_
      show Goes p e below (T1828.setTop (mkF m 105 #[.val (.ref a1), .val (.ref a2), .val (.ref a3), .val (.ref a4), .val (.int p5), .val (.int (0 : Int32)), .unset, .unset, .unset] [(.ref a4), (.int (0 : Int32)), (.ref a4)])) _
      refine Goes.of (fun t k => XS.iconst X1828.here hx rfl (hb hby d9_105) k) ?_
      have Vc1849 := f1836
      obtain ⟨clc1849, Arc1849, qc1849, Sc1849, Nc1849, Hc1849, Gc1849⟩ := Vc1849
      have hin1850 : ¬ ((0 : Int32) < 0 ∨ clc1849.slots.size ≤ ((0 : Int32)).toNatClampNeg) := inb_of Sc1849 ⟨by decide, by decide⟩
      have hat1851 : clc1849.slots[((0 : Int32)).toNatClampNeg]? = some (.int (2 : Int32)) := Hc1849.at hin1850 rfl
      refine Goes.of (fun t k => X1828.iaload hx (j := (0 : Int32)) (v := (.int (2 : Int32))) (by rw [e1828]; exact Arc1849.1) (State.isArrayOf_alike hZ.alike Arc1849.2.1) Arc1849.2.2 hin1850 hat1851 (g := (mkF m 106 #[.val (.ref a1), .val (.ref a2), .val (.ref a3), .val (.ref a4), .val (.int p5), .val (.int (0 : Int32)), .unset, .unset, .unset] [(.int (0 : Int32)), (.ref a4), (.int (0 : Int32)), (.ref a4)])) rfl rfl (hb hby d9_106) _ k) ?_
      show Goes p e below (T1828.setTop (mkF m 107 #[.val (.ref a1), .val (.ref a2), .val (.ref a3), .val (.ref a4), .val (.int p5), .val (.int (0 : Int32)), .unset, .unset, .unset] [(.int (2 : Int32)), (.int (0 : Int32)), (.ref a4)])) _
      refine Goes.of (fun t k => XS.iconst X1828.here hx rfl (hb hby d9_107) k) ?_
      show Goes p e below (T1828.setTop (mkF m 108 #[.val (.ref a1), .val (.ref a2), .val (.ref a3), .val (.ref a4), .val (.int p5), .val (.int (0 : Int32)), .unset, .unset, .unset] [(.int (1 : Int32)), (.int (2 : Int32)), (.int (0 : Int32)), (.ref a4)])) _
      refine Goes.of (fun t k => XS.isub X1828.here hx rfl (hb hby d9_108) rfl k) ?_
      have Vc1852 := f1836
      obtain ⟨clc1852, Arc1852, qc1852, Sc1852, Nc1852, Hc1852, Gc1852⟩ := Vc1852
      have hin1853 : ¬ ((0 : Int32) < 0 ∨ clc1852.slots.size ≤ ((0 : Int32)).toNatClampNeg) := inb_of Sc1852 ⟨by decide, by decide⟩
      obtain ⟨T1854, h1854, X1854, e1854, W1854, st1854⟩ := stI X1828 hx hZ e1828 Arc1852 (j := (0 : Int32)) hin1853 (g := (mkF m 109 #[.val (.ref a1), .val (.ref a2), .val (.ref a3), .val (.ref a4), .val (.int p5), .val (.int (0 : Int32)), .unset, .unset, .unset] [(.int (1 : Int32)), (.int (0 : Int32)), (.ref a4)])) rfl rfl (hb hby d9_109)
      have V1854 : Arv Z h1854 a4 kC .int (1 : Int32) [(.int (1 : Int32))] (.int (0 : Int32)) := Arv.set Arc1852 qc1852 Sc1852 Nc1852 Hc1852 Gc1852 rfl W1854 0 rfl (Nat.le_of_ble_eq_true rfl)
      have K1855 : Keep h0 h1854 [a1, a3, a4, HA, FA, x0, x1] := K1829.wr W1854 (Or.inl (List.mem_of_getElem? (i := 2) rfl))
      have z1856 : n0 ≤ h1854.size := Nat.le_trans z1830 (Keep.of_wr W1854).1
      have f1857 := f1831.wr W1854
      have f1858 := f1832.other W1854 (Ne.symm n_a4_HA)
      have f1859 := f1833.wr W1854
      have f1860 := f1834.wr W1854
      have f1861 := V1828.other W1854 n_a3_a4
      have f1863 := f1837.wr W1854 g_a4
      have f1864 := f1838.other W1854 n_a2_a4
      have f1865 := f1839.other W1854 (Or.inl n_a1_a4)
      have f1866 := f1840.other W1854 (Or.inl n_a1_a4)
      have f1867 := f1841.other W1854 (Or.inl n_a1_a4)
      have f1868 := f1842.other W1854 (Or.inl n_a1_a4)
      have f1869 := f1843.other W1854 (Or.inl n_a1_a4)
      have f1870 := f1844.other W1854 (Or.inl n_a1_a4)
      have f1871 := f1845.other W1854 (Or.inl n_a1_a4)
      have f1872 := f1846.other W1854 (Ne.symm n_a4_FA)
      have f1873 := f1847.other W1854 (Or.inl (Ne.symm n_a4_x0))
      have f1874 := f1848.other W1854 (Or.inl (Ne.symm n_a4_x1))
      have N1854 := Fr.snoc X1854 N1828 g_a4
      refine Goes.of st1854 ?_
      show Goes p e below (T1854.setTop (mkF m 110 #[.val (.ref a1), .val (.ref a2), .val (.ref a3), .val (.ref a4), .val (.int p5), .val (.int (0 : Int32)), .unset, .unset, .unset] [])) _
      refine Goes.of (fun t k => XS.goto X1854.here hx rfl (pc0 := 110) (pc' := 134) rfl (hb hby d9_110) (by decide) (by decide) k) ?_
      show Goes p e below (T1854.setTop (mkF m 134 #[.val (.ref a1), .val (.ref a2), .val (.ref a3), .val (.ref a4), .val (.int p5), .val (.int (0 : Int32)), .unset, .unset, .unset] [])) _
      refine Goes.of (fun t k => XS.aloadN X1854.here hx rfl (hb hby d9_134) rfl rfl k) ?_
      obtain ⟨cq1875, kq1875, q1875a, q1875b, q1875c⟩ := isOf hZ e1854 f1857
      obtain ⟨_, _, ⟨T1875, L1875, k1875, n1875⟩, -, X1875, ⟨Lc1875, hQ1875, l1875, y1875, z1875⟩, st1875⟩ := X1854.virtualBack hx (y := (⟨"com/example/ripplematch/ripplematch/core/Agenda", "isEmpty", "()Z"⟩ : MethodName)) (z := (⟨"com/example/ripplematch/ripplematch/core/Agenda", "isEmpty", "()Z"⟩ : MethodName)) hown (mvT hZ (wd hw 64 rfl)) (mvT hZ (wd hw 65 rfl)) (notFace_of_selects (args := #[]) (mvT hZ (wd hw 67 rfl))) (mvT hZ (wd hw 67 rfl)) (mvT hZ (wd hw 66 rfl)) (by decide) (backOf (W := 0) (rm8 l Z a0 hw [] a1 (1 : Int32) h1854 n0 z1856 f1871) hZ (wd hw 68 rfl) (wd hw 2 rfl) (by decide) (by decide)) q1875a q1875c (g := (mkF m 135 #[.val (.ref a1), .val (.ref a2), .val (.ref a3), .val (.ref a4), .val (.int p5), .val (.int (0 : Int32)), .unset, .unset, .unset] [(.ref a1)])) rfl (by rw [hml]; rfl) (Steps.refl _) (argsL := []) (rest := []) (lenOf pd_6 rfl) rfl (by show 2 * 0 + _ ≤ _; exact Nat.le_of_eq rfl) (hb hby d9_135) (fun _ _ => ⟨rfl, e1854, (by decide : 0 + 0 ≤ _), (by decide : 0 + 0 ≤ _)⟩)
      dsimp only [Pt.U, Pt.locs, Pt.cells, Pt.slots] at X1875 l1875 y1875 z1875 st1875 hQ1875
      subst l1875 y1875 z1875
      obtain ⟨rfl, N1875q, e1875⟩ := hQ1875
      have N1875 := Fr.app N1854 N1875q
      refine Goes.of (fun t k => st1875.trans k) ?_
      show Goes p e below (T1875.setTop (mkF m 138 #[.val (.ref a1), .val (.ref a2), .val (.ref a3), .val (.ref a4), .val (.int p5), .val (.int (0 : Int32)), .unset, .unset, .unset] [(.int (0 : Int32))])) _
      refine Goes.of (fun t k => XS.aloadN X1875.here hx rfl (hb hby d9_138) rfl rfl k) ?_
      show Goes p e below (T1875.setTop (mkF m 139 #[.val (.ref a1), .val (.ref a2), .val (.ref a3), .val (.ref a4), .val (.int p5), .val (.int (0 : Int32)), .unset, .unset, .unset] [(.ref a4), (.int (0 : Int32))])) _
      refine Goes.of (fun t k => XS.iconst X1875.here hx rfl (hb hby d9_139) k) ?_
      have Vc1876 := V1854
      obtain ⟨clc1876, Arc1876, qc1876, Sc1876, Nc1876, Hc1876, Gc1876⟩ := Vc1876
      have hin1877 : ¬ ((0 : Int32) < 0 ∨ clc1876.slots.size ≤ ((0 : Int32)).toNatClampNeg) := inb_of Sc1876 ⟨by decide, by decide⟩
      have hat1878 : clc1876.slots[((0 : Int32)).toNatClampNeg]? = some (.int (1 : Int32)) := Hc1876.at hin1877 rfl
      refine Goes.of (fun t k => X1875.iaload hx (j := (0 : Int32)) (v := (.int (1 : Int32))) (by rw [e1875]; exact Arc1876.1) (State.isArrayOf_alike hZ.alike Arc1876.2.1) Arc1876.2.2 hin1877 hat1878 (g := (mkF m 140 #[.val (.ref a1), .val (.ref a2), .val (.ref a3), .val (.ref a4), .val (.int p5), .val (.int (0 : Int32)), .unset, .unset, .unset] [(.int (0 : Int32)), (.ref a4), (.int (0 : Int32))])) rfl rfl (hb hby d9_140) _ k) ?_
      show Goes p e below (T1875.setTop (mkF m 141 #[.val (.ref a1), .val (.ref a2), .val (.ref a3), .val (.ref a4), .val (.int p5), .val (.int (0 : Int32)), .unset, .unset, .unset] [(.int (1 : Int32)), (.int (0 : Int32))])) _
      refine Goes.of (fun t k => XS.ifYes X1875.here hx rfl (pc0 := 141) (pc' := 148) rfl (hb hby d9_141) rfl ((if0 _ _).trans (feq (by decide)).2) (by decide) (by decide) k) ?_
      show Goes p e below (T1875.setTop (mkF m 148 #[.val (.ref a1), .val (.ref a2), .val (.ref a3), .val (.ref a4), .val (.int p5), .val (.int (0 : Int32)), .unset, .unset, .unset] [(.int (0 : Int32))])) _
      refine Goes.of (fun t k => XS.iconst X1875.here hx rfl (hb hby d9_148) k) ?_
      show Goes p e below (T1875.setTop (mkF m 149 #[.val (.ref a1), .val (.ref a2), .val (.ref a3), .val (.ref a4), .val (.int p5), .val (.int (0 : Int32)), .unset, .unset, .unset] [(.int (0 : Int32)), (.int (0 : Int32))])) _
      refine Goes.of (fun t k => XS.icmpNo X1875.here hx rfl (hb hby d9_149) rfl (teq (by decide)).2 k) ?_
      show Goes p e below (T1875.setTop (mkF m 152 #[.val (.ref a1), .val (.ref a2), .val (.ref a3), .val (.ref a4), .val (.int p5), .val (.int (0 : Int32)), .unset, .unset, .unset] [])) _
      refine Goes.of (fun t k => XS.iconst X1875.here hx rfl (hb hby d9_152) k) ?_
      show Goes p e below (T1875.setTop (mkF m 153 #[.val (.ref a1), .val (.ref a2), .val (.ref a3), .val (.ref a4), .val (.int p5), .val (.int (0 : Int32)), .unset, .unset, .unset] [(.int (1 : Int32))])) _
      refine Goes.of (fun t k => XS.goto X1875.here hx rfl (pc0 := 153) (pc' := 157) rfl (hb hby d9_153) (by decide) (by decide) k) ?_
      show Goes p e below (T1875.setTop (mkF m 157 #[.val (.ref a1), .val (.ref a2), .val (.ref a3), .val (.ref a4), .val (.int p5), .val (.int (0 : Int32)), .unset, .unset, .unset] [(.int (1 : Int32))])) _
      have eh : T1875.heap = h1854 := e1875
      exact Goes.retN (t := .boolean) X1875 hx Bd.returns (by simp) hlocks (hb hby d9_157) (⟨rfl, N1875, by rw [eh]; exact K1855, Or.inr (Or.inr (Or.inl ⟨by rw [eh]; exact f1857, by rw [eh]; exact f1865, by rw [eh]; exact f1866, by rw [eh]; exact f1867, by rw [eh]; exact f1868, by rw [eh]; exact f1869, by rw [eh]; exact f1870, by rw [eh]; exact f1871, by rw [eh]; exact f1858, by rw [eh]; exact f1872, by rw [eh]; exact f1859, by rw [eh]; exact f1873, by rw [eh]; exact f1860, by rw [eh]; exact f1874, by rw [eh]; exact f1861, by rw [eh]; exact V1854⟩))⟩) (by decide) (by decide)
    · refine Goes.of (fun t k => XS.ifNo X0.here hx rfl (hb hby d9_10) rfl ((if0 _ _).trans (feq hc10_1798).1) k) ?_
      show Goes p e below (s₁.setTop (mkF m 13 #[.val (.ref a1), .val (.ref a2), .val (.ref a3), .val (.ref a4), .val (.int p5), .val (.int (0 : Int32)), .unset, .unset, .unset] [])) _
      refine Goes.of (fun t k => XS.aloadN X0.here hx rfl (hb hby d9_13) rfl rfl k) ?_
      show Goes p e below (s₁.setTop (mkF m 14 #[.val (.ref a1), .val (.ref a2), .val (.ref a3), .val (.ref a4), .val (.int p5), .val (.int (0 : Int32)), .unset, .unset, .unset] [(.ref a4)])) _
      refine Goes.of (fun t k => XS.iconst X0.here hx rfl (hb hby d9_14) k) ?_
      have Vc1879 := VC
      obtain ⟨clc1879, Arc1879, qc1879, Sc1879, Nc1879, Hc1879, Gc1879⟩ := Vc1879
      have hin1880 : ¬ ((0 : Int32) < 0 ∨ clc1879.slots.size ≤ ((0 : Int32)).toNatClampNeg) := inb_of Sc1879 ⟨by decide, by decide⟩
      have hat1881 : clc1879.slots[((0 : Int32)).toNatClampNeg]? = some (.int (2 : Int32)) := Hc1879.at hin1880 rfl
      refine Goes.of (fun t k => X0.iaload hx (j := (0 : Int32)) (v := (.int (2 : Int32))) (by rw [e0]; exact Arc1879.1) (State.isArrayOf_alike hZ.alike Arc1879.2.1) Arc1879.2.2 hin1880 hat1881 (g := (mkF m 15 #[.val (.ref a1), .val (.ref a2), .val (.ref a3), .val (.ref a4), .val (.int p5), .val (.int (0 : Int32)), .unset, .unset, .unset] [(.int (0 : Int32)), (.ref a4)])) rfl rfl (hb hby d9_15) _ k) ?_
      show Goes p e below (s₁.setTop (mkF m 16 #[.val (.ref a1), .val (.ref a2), .val (.ref a3), .val (.ref a4), .val (.int p5), .val (.int (0 : Int32)), .unset, .unset, .unset] [(.int (2 : Int32))])) _
      refine Goes.of (fun t k => XS.iconst X0.here hx rfl (hb hby d9_16) k) ?_
      show Goes p e below (s₁.setTop (mkF m 17 #[.val (.ref a1), .val (.ref a2), .val (.ref a3), .val (.ref a4), .val (.int p5), .val (.int (0 : Int32)), .unset, .unset, .unset] [(.int (1 : Int32)), (.int (2 : Int32))])) _
      refine Goes.of (fun t k => XS.icmpYes X0.here hx rfl (pc0 := 17) (pc' := 82) rfl (hb hby d9_17) rfl (feq (by decide)).2 (by decide) (by decide) k) ?_
      show Goes p e below (s₁.setTop (mkF m 82 #[.val (.ref a1), .val (.ref a2), .val (.ref a3), .val (.ref a4), .val (.int p5), .val (.int (0 : Int32)), .unset, .unset, .unset] [])) _
      refine Goes.of (fun t k => XS.aloadN X0.here hx rfl (hb hby d9_82) rfl rfl k) ?_
      show Goes p e below (s₁.setTop (mkF m 83 #[.val (.ref a1), .val (.ref a2), .val (.ref a3), .val (.ref a4), .val (.int p5), .val (.int (0 : Int32)), .unset, .unset, .unset] [(.ref a3)])) _
      refine Goes.of (fun t k => XS.iload X0.here hx rfl (hb hby d9_83) rfl k) ?_
      have Vc1882 := VO
      obtain ⟨clc1882, Arc1882, qc1882, Sc1882, Nc1882, Hc1882, Gc1882⟩ := Vc1882
      have hin1883 : ¬ ((0 : Int32) < 0 ∨ clc1882.slots.size ≤ ((0 : Int32)).toNatClampNeg) := inb_of Sc1882 ⟨by decide, by decide⟩
      have hat1884 : clc1882.slots[((0 : Int32)).toNatClampNeg]? = some (.int (1 : Int32)) := Hc1882.at hin1883 rfl
      refine Goes.of (fun t k => X0.baloadBooleans hx (j := (0 : Int32)) (v := (.int (1 : Int32))) (by rw [e0]; exact Arc1882.1) (State.isArrayOf_alike hZ.alike Arc1882.2.1) Arc1882.2.2 hin1883 hat1884 (g := (mkF m 85 #[.val (.ref a1), .val (.ref a2), .val (.ref a3), .val (.ref a4), .val (.int p5), .val (.int (0 : Int32)), .unset, .unset, .unset] [(.int (0 : Int32)), (.ref a3)])) rfl rfl (hb hby d9_85) _ k) ?_
      show Goes p e below (s₁.setTop (mkF m 86 #[.val (.ref a1), .val (.ref a2), .val (.ref a3), .val (.ref a4), .val (.int p5), .val (.int (0 : Int32)), .unset, .unset, .unset] [(.int (1 : Int32))])) _
      refine Goes.of (fun t k => XS.ifNo X0.here hx rfl (hb hby d9_86) rfl ((if0 _ _).trans (feq (by decide)).1) k) ?_
      show Goes p e below (s₁.setTop (mkF m 89 #[.val (.ref a1), .val (.ref a2), .val (.ref a3), .val (.ref a4), .val (.int p5), .val (.int (0 : Int32)), .unset, .unset, .unset] [])) _
      refine Goes.of (fun t k => XS.aloadN X0.here hx rfl (hb hby d9_89) rfl rfl k) ?_
      show Goes p e below (s₁.setTop (mkF m 90 #[.val (.ref a1), .val (.ref a2), .val (.ref a3), .val (.ref a4), .val (.int p5), .val (.int (0 : Int32)), .unset, .unset, .unset] [(.ref a1)])) _
      refine Goes.of (fun t k => XS.aloadN X0.here hx rfl (hb hby d9_90) rfl rfl k) ?_
      show Goes p e below (s₁.setTop (mkF m 91 #[.val (.ref a1), .val (.ref a2), .val (.ref a3), .val (.ref a4), .val (.int p5), .val (.int (0 : Int32)), .unset, .unset, .unset] [(.ref a2), (.ref a1)])) _
      refine Goes.of (fun t k => XS.iload X0.here hx rfl (hb hby d9_91) rfl k) ?_
      have Vc1885 := VT
      obtain ⟨clc1885, Arc1885, qc1885, Sc1885, Nc1885, Hc1885, Gc1885⟩ := Vc1885
      have hin1886 : ¬ ((0 : Int32) < 0 ∨ clc1885.slots.size ≤ ((0 : Int32)).toNatClampNeg) := inb_of Sc1885 ⟨by decide, by decide⟩
      have hat1887 : clc1885.slots[((0 : Int32)).toNatClampNeg]? = some (.ref x0) := Hc1885.at hin1886 rfl
      refine Goes.of (fun t k => X0.aaload hx (j := (0 : Int32)) (v := (.ref x0)) (by rw [e0]; exact Arc1885.1) (State.isArrayOf_alike hZ.alike Arc1885.2.1) rfl Arc1885.2.2 hin1886 hat1887 (g := (mkF m 93 #[.val (.ref a1), .val (.ref a2), .val (.ref a3), .val (.ref a4), .val (.int p5), .val (.int (0 : Int32)), .unset, .unset, .unset] [(.int (0 : Int32)), (.ref a2), (.ref a1)])) rfl rfl (hb hby d9_93) _ k) ?_
      obtain ⟨cq1888, kq1888, q1888a, q1888b, q1888c⟩ := isOf hZ e0 E
      obtain ⟨_, _, ⟨T1888, L1888, k1888, n1888⟩, -, X1888, ⟨Lc1888, hQ1888, l1888, y1888, z1888⟩, st1888⟩ := X0.virtualBack hx (y := (⟨"com/example/ripplematch/ripplematch/core/Agenda", "remove", "(Lcom/example/ripplematch/ripplematch/core/Activation;)V"⟩ : MethodName)) (z := (⟨"com/example/ripplematch/ripplematch/core/Agenda", "remove", "(Lcom/example/ripplematch/ripplematch/core/Activation;)V"⟩ : MethodName)) hown (mvT hZ (wd hw 85 rfl)) (mvT hZ (wd hw 86 rfl)) (notFace_of_selects (args := #[]) (mvT hZ (wd hw 88 rfl))) (mvT hZ (wd hw 88 rfl)) (mvT hZ (wd hw 87 rfl)) (by decide) (backOf (W := 0) (rm11_576 l Z a0 hw [] a1 x0 HA FA x1 _ _ h0 n0 Z0 O0 SA E F_heap F_heapSize F_gone F_disordered F_fresh F_freshSize F_size VH VF E_x0 P_x0 E_x1 P_x1 g_a1 g_HA g_FA g_x0 g_x1 n_a1_HA n_a1_FA n_a1_x0 n_a1_x1 n_HA_FA n_HA_x0 n_HA_x1 n_FA_x0 n_FA_x1 n_x0_x1 OH OF) hZ (wd hw 89 rfl) (wd hw 2 rfl) (by decide) (by decide)) q1888a q1888c (g := (mkF m 94 #[.val (.ref a1), .val (.ref a2), .val (.ref a3), .val (.ref a4), .val (.int p5), .val (.int (0 : Int32)), .unset, .unset, .unset] [(.ref x0), (.ref a1)])) rfl (by rw [hml]; rfl) (Steps.refl _) (argsL := [(.ref x0)]) (rest := []) (lenOf pd_5 rfl) rfl (by show 2 * 0 + _ ≤ _; exact Nat.le_of_eq rfl) (hb hby d9_94) (fun _ _ => ⟨rfl, e0, (by decide : 0 + 0 ≤ _), (by decide : 0 + 0 ≤ _)⟩)
      dsimp only [Pt.U, Pt.locs, Pt.cells, Pt.slots] at X1888 l1888 y1888 z1888 st1888 hQ1888
      subst l1888 y1888 z1888
      obtain ⟨rfl, N1888q, K1888, E_1888, F_heap_1888, F_heapSize_1888, F_gone_1888, F_disordered_1888, F_fresh_1888, F_freshSize_1888, F_size_1888, VH_1888, VF_1888, E_x0_1888, P_x0_1888, E_x1_1888, P_x1_1888⟩ := hQ1888
      have N1888 := Fr.app N0 N1888q
      have K1889 : Keep h0 T1888.heap [a1, a3, a4, HA, FA, x0, x1] := K0.trans K1888 (allS (Or.inl (List.mem_of_getElem? (i := 0) rfl)) (allS (Or.inl (List.mem_of_getElem? (i := 4) rfl)) (allS (Or.inl (List.mem_of_getElem? (i := 5) rfl)) (allS (Or.inl (List.mem_of_getElem? (i := 6) rfl)) all0))))
      have z1890 : n0 ≤ T1888.heap.size := Nat.le_trans Z0 K1888.1
      have f1891 := E.keep K1888
      have f1899 := VH.keep K1888 (ninS (Ne.symm n_a1_HA) (ninS n_HA_FA (ninS n_HA_x0 (ninS n_HA_x1 nin0))))
      have f1901 := E_x0.keep K1888
      have f1903 := E_x1.keep K1888
      have f1905 := VO.keep K1888 (ninS (Ne.symm n_a1_a3) (ninS n_a3_FA (ninS n_a3_x0 (ninS n_a3_x1 nin0))))
      have f1906 := VC.keep K1888 (ninS (Ne.symm n_a1_a4) (ninS n_a4_FA (ninS n_a4_x0 (ninS n_a4_x1 nin0))))
      have f1907 := O0.keep K1888 (allS g_a1 (allS g_FA (allS g_x0 (allS g_x1 all0))))
      have f1908 := VT.keep K1888 (ninS (Ne.symm n_a1_a2) (ninS n_a2_FA (ninS n_a2_x0 (ninS n_a2_x1 nin0))))
      refine Goes.of (fun t k => st1888.trans k) ?_
      show Goes p e below (T1888.setTop (mkF m 97 #[.val (.ref a1), .val (.ref a2), .val (.ref a3), .val (.ref a4), .val (.int p5), .val (.int (0 : Int32)), .unset, .unset, .unset] [])) _
      refine Goes.of (fun t k => XS.aloadN X1888.here hx rfl (hb hby d9_97) rfl rfl k) ?_
      show Goes p e below (T1888.setTop (mkF m 98 #[.val (.ref a1), .val (.ref a2), .val (.ref a3), .val (.ref a4), .val (.int p5), .val (.int (0 : Int32)), .unset, .unset, .unset] [(.ref a3)])) _
      refine Goes.of (fun t k => XS.iload X1888.here hx rfl (hb hby d9_98) rfl k) ?_
      show Goes p e below (T1888.setTop (mkF m 100 #[.val (.ref a1), .val (.ref a2), .val (.ref a3), .val (.ref a4), .val (.int p5), .val (.int (0 : Int32)), .unset, .unset, .unset] [(.int (0 : Int32)), (.ref a3)])) _
      refine Goes.of (fun t k => XS.iconst X1888.here hx rfl (hb hby d9_100) k) ?_
      have Vc1909 := f1905
      obtain ⟨clc1909, Arc1909, qc1909, Sc1909, Nc1909, Hc1909, Gc1909⟩ := Vc1909
      have hin1910 : ¬ ((0 : Int32) < 0 ∨ clc1909.slots.size ≤ ((0 : Int32)).toNatClampNeg) := inb_of Sc1909 ⟨by decide, by decide⟩
      obtain ⟨T1911, h1911, X1911, e1911, W1911, st1911⟩ := stZ X1888 hx hZ rfl Arc1909 (j := (0 : Int32)) hin1910 (g := (mkF m 101 #[.val (.ref a1), .val (.ref a2), .val (.ref a3), .val (.ref a4), .val (.int p5), .val (.int (0 : Int32)), .unset, .unset, .unset] [(.int (0 : Int32)), (.int (0 : Int32)), (.ref a3)])) rfl rfl (hb hby d9_101)
      have V1911 : Arv Z h1911 a3 kO .boolean (2 : Int32) [(.int (nar .boolean (0 : Int32))), (.int (1 : Int32))] (.int (0 : Int32)) := Arv.set Arc1909 qc1909 Sc1909 Nc1909 Hc1909 Gc1909 (fits_nar_bool _) W1911 0 rfl (Nat.le_of_ble_eq_true rfl)
      have K1912 : Keep h0 h1911 [a1, a3, a4, HA, FA, x0, x1] := K1889.wr W1911 (Or.inl (List.mem_of_getElem? (i := 1) rfl))
      have z1913 : n0 ≤ h1911.size := Nat.le_trans z1890 (Keep.of_wr W1911).1
      have f1914 := E_1888.wr W1911
      have f1915 := VH_1888.other W1911 (Ne.symm n_a3_HA)
      have f1916 := E_x0_1888.wr W1911
      have f1917 := E_x1_1888.wr W1911
      have f1919 := f1906.other W1911 (Ne.symm n_a3_a4)
      have f1920 := f1907.wr W1911 g_a3
      have f1921 := f1908.other W1911 n_a2_a3
      have f1922 := F_heap_1888.other W1911 (Or.inl n_a1_a3)
      have f1923 := F_heapSize_1888.other W1911 (Or.inl n_a1_a3)
      have f1924 := F_gone_1888.other W1911 (Or.inl n_a1_a3)
      have f1925 := F_disordered_1888.other W1911 (Or.inl n_a1_a3)
      have f1926 := F_fresh_1888.other W1911 (Or.inl n_a1_a3)
      have f1927 := F_freshSize_1888.other W1911 (Or.inl n_a1_a3)
      have f1928 := F_size_1888.other W1911 (Or.inl n_a1_a3)
      have f1929 := VF_1888.other W1911 (Ne.symm n_a3_FA)
      have f1930 := P_x0_1888.other W1911 (Or.inl (Ne.symm n_a3_x0))
      have f1931 := P_x1_1888.other W1911 (Or.inl (Ne.symm n_a3_x1))
      have N1911 := Fr.snoc X1911 N1888 g_a3
      refine Goes.of st1911 ?_
      show Goes p e below (T1911.setTop (mkF m 102 #[.val (.ref a1), .val (.ref a2), .val (.ref a3), .val (.ref a4), .val (.int p5), .val (.int (0 : Int32)), .unset, .unset, .unset] [])) _
      refine Goes.of (fun t k => XS.aloadN X1911.here hx rfl (hb hby d9_102) rfl rfl k) ?_
      show Goes p e below (T1911.setTop (mkF m 103 #[.val (.ref a1), .val (.ref a2), .val (.ref a3), .val (.ref a4), .val (.int p5), .val (.int (0 : Int32)), .unset, .unset, .unset] [(.ref a4)])) _
      refine Goes.of (fun t k => XS.iconst X1911.here hx rfl (hb hby d9_103) k) ?_
      show Goes p e below (T1911.setTop (mkF m 104 #[.val (.ref a1), .val (.ref a2), .val (.ref a3), .val (.ref a4), .val (.int p5), .val (.int (0 : Int32)), .unset, .unset, .unset] [(.int (0 : Int32)), (.ref a4)])) _
      refine Goes.of (fun t k => XS.aloadN X1911.here hx rfl (hb hby d9_104) rfl rfl k) ?_
      show Goes p e below (T1911.setTop (mkF m 105 #[.val (.ref a1), .val (.ref a2), .val (.ref a3), .val (.ref a4), .val (.int p5), .val (.int (0 : Int32)), .unset, .unset, .unset] [(.ref a4), (.int (0 : Int32)), (.ref a4)])) _
      refine Goes.of (fun t k => XS.iconst X1911.here hx rfl (hb hby d9_105) k) ?_
      have Vc1932 := f1919
      obtain ⟨clc1932, Arc1932, qc1932, Sc1932, Nc1932, Hc1932, Gc1932⟩ := Vc1932
      have hin1933 : ¬ ((0 : Int32) < 0 ∨ clc1932.slots.size ≤ ((0 : Int32)).toNatClampNeg) := inb_of Sc1932 ⟨by decide, by decide⟩
      have hat1934 : clc1932.slots[((0 : Int32)).toNatClampNeg]? = some (.int (2 : Int32)) := Hc1932.at hin1933 rfl
      refine Goes.of (fun t k => X1911.iaload hx (j := (0 : Int32)) (v := (.int (2 : Int32))) (by rw [e1911]; exact Arc1932.1) (State.isArrayOf_alike hZ.alike Arc1932.2.1) Arc1932.2.2 hin1933 hat1934 (g := (mkF m 106 #[.val (.ref a1), .val (.ref a2), .val (.ref a3), .val (.ref a4), .val (.int p5), .val (.int (0 : Int32)), .unset, .unset, .unset] [(.int (0 : Int32)), (.ref a4), (.int (0 : Int32)), (.ref a4)])) rfl rfl (hb hby d9_106) _ k) ?_
      show Goes p e below (T1911.setTop (mkF m 107 #[.val (.ref a1), .val (.ref a2), .val (.ref a3), .val (.ref a4), .val (.int p5), .val (.int (0 : Int32)), .unset, .unset, .unset] [(.int (2 : Int32)), (.int (0 : Int32)), (.ref a4)])) _
      refine Goes.of (fun t k => XS.iconst X1911.here hx rfl (hb hby d9_107) k) ?_
      show Goes p e below (T1911.setTop (mkF m 108 #[.val (.ref a1), .val (.ref a2), .val (.ref a3), .val (.ref a4), .val (.int p5), .val (.int (0 : Int32)), .unset, .unset, .unset] [(.int (1 : Int32)), (.int (2 : Int32)), (.int (0 : Int32)), (.ref a4)])) _
      refine Goes.of (fun t k => XS.isub X1911.here hx rfl (hb hby d9_108) rfl k) ?_
      have Vc1935 := f1919
      obtain ⟨clc1935, Arc1935, qc1935, Sc1935, Nc1935, Hc1935, Gc1935⟩ := Vc1935
      have hin1936 : ¬ ((0 : Int32) < 0 ∨ clc1935.slots.size ≤ ((0 : Int32)).toNatClampNeg) := inb_of Sc1935 ⟨by decide, by decide⟩
      obtain ⟨T1937, h1937, X1937, e1937, W1937, st1937⟩ := stI X1911 hx hZ e1911 Arc1935 (j := (0 : Int32)) hin1936 (g := (mkF m 109 #[.val (.ref a1), .val (.ref a2), .val (.ref a3), .val (.ref a4), .val (.int p5), .val (.int (0 : Int32)), .unset, .unset, .unset] [(.int (1 : Int32)), (.int (0 : Int32)), (.ref a4)])) rfl rfl (hb hby d9_109)
      have V1937 : Arv Z h1937 a4 kC .int (1 : Int32) [(.int (1 : Int32))] (.int (0 : Int32)) := Arv.set Arc1935 qc1935 Sc1935 Nc1935 Hc1935 Gc1935 rfl W1937 0 rfl (Nat.le_of_ble_eq_true rfl)
      have K1938 : Keep h0 h1937 [a1, a3, a4, HA, FA, x0, x1] := K1912.wr W1937 (Or.inl (List.mem_of_getElem? (i := 2) rfl))
      have z1939 : n0 ≤ h1937.size := Nat.le_trans z1913 (Keep.of_wr W1937).1
      have f1940 := f1914.wr W1937
      have f1941 := f1915.other W1937 (Ne.symm n_a4_HA)
      have f1942 := f1916.wr W1937
      have f1943 := f1917.wr W1937
      have f1944 := V1911.other W1937 n_a3_a4
      have f1946 := f1920.wr W1937 g_a4
      have f1947 := f1921.other W1937 n_a2_a4
      have f1948 := f1922.other W1937 (Or.inl n_a1_a4)
      have f1949 := f1923.other W1937 (Or.inl n_a1_a4)
      have f1950 := f1924.other W1937 (Or.inl n_a1_a4)
      have f1951 := f1925.other W1937 (Or.inl n_a1_a4)
      have f1952 := f1926.other W1937 (Or.inl n_a1_a4)
      have f1953 := f1927.other W1937 (Or.inl n_a1_a4)
      have f1954 := f1928.other W1937 (Or.inl n_a1_a4)
      have f1955 := f1929.other W1937 (Ne.symm n_a4_FA)
      have f1956 := f1930.other W1937 (Or.inl (Ne.symm n_a4_x0))
      have f1957 := f1931.other W1937 (Or.inl (Ne.symm n_a4_x1))
      have N1937 := Fr.snoc X1937 N1911 g_a4
      refine Goes.of st1937 ?_
      show Goes p e below (T1937.setTop (mkF m 110 #[.val (.ref a1), .val (.ref a2), .val (.ref a3), .val (.ref a4), .val (.int p5), .val (.int (0 : Int32)), .unset, .unset, .unset] [])) _
      refine Goes.of (fun t k => XS.goto X1937.here hx rfl (pc0 := 110) (pc' := 134) rfl (hb hby d9_110) (by decide) (by decide) k) ?_
      show Goes p e below (T1937.setTop (mkF m 134 #[.val (.ref a1), .val (.ref a2), .val (.ref a3), .val (.ref a4), .val (.int p5), .val (.int (0 : Int32)), .unset, .unset, .unset] [])) _
      refine Goes.of (fun t k => XS.aloadN X1937.here hx rfl (hb hby d9_134) rfl rfl k) ?_
      obtain ⟨cq1958, kq1958, q1958a, q1958b, q1958c⟩ := isOf hZ e1937 f1940
      obtain ⟨_, _, ⟨T1958, L1958, k1958, n1958⟩, -, X1958, ⟨Lc1958, hQ1958, l1958, y1958, z1958⟩, st1958⟩ := X1937.virtualBack hx (y := (⟨"com/example/ripplematch/ripplematch/core/Agenda", "isEmpty", "()Z"⟩ : MethodName)) (z := (⟨"com/example/ripplematch/ripplematch/core/Agenda", "isEmpty", "()Z"⟩ : MethodName)) hown (mvT hZ (wd hw 64 rfl)) (mvT hZ (wd hw 65 rfl)) (notFace_of_selects (args := #[]) (mvT hZ (wd hw 67 rfl))) (mvT hZ (wd hw 67 rfl)) (mvT hZ (wd hw 66 rfl)) (by decide) (backOf (W := 0) (rm8 l Z a0 hw [] a1 (1 : Int32) h1937 n0 z1939 f1954) hZ (wd hw 68 rfl) (wd hw 2 rfl) (by decide) (by decide)) q1958a q1958c (g := (mkF m 135 #[.val (.ref a1), .val (.ref a2), .val (.ref a3), .val (.ref a4), .val (.int p5), .val (.int (0 : Int32)), .unset, .unset, .unset] [(.ref a1)])) rfl (by rw [hml]; rfl) (Steps.refl _) (argsL := []) (rest := []) (lenOf pd_6 rfl) rfl (by show 2 * 0 + _ ≤ _; exact Nat.le_of_eq rfl) (hb hby d9_135) (fun _ _ => ⟨rfl, e1937, (by decide : 0 + 0 ≤ _), (by decide : 0 + 0 ≤ _)⟩)
      dsimp only [Pt.U, Pt.locs, Pt.cells, Pt.slots] at X1958 l1958 y1958 z1958 st1958 hQ1958
      subst l1958 y1958 z1958
      obtain ⟨rfl, N1958q, e1958⟩ := hQ1958
      have N1958 := Fr.app N1937 N1958q
      refine Goes.of (fun t k => st1958.trans k) ?_
      show Goes p e below (T1958.setTop (mkF m 138 #[.val (.ref a1), .val (.ref a2), .val (.ref a3), .val (.ref a4), .val (.int p5), .val (.int (0 : Int32)), .unset, .unset, .unset] [(.int (0 : Int32))])) _
      refine Goes.of (fun t k => XS.aloadN X1958.here hx rfl (hb hby d9_138) rfl rfl k) ?_
      show Goes p e below (T1958.setTop (mkF m 139 #[.val (.ref a1), .val (.ref a2), .val (.ref a3), .val (.ref a4), .val (.int p5), .val (.int (0 : Int32)), .unset, .unset, .unset] [(.ref a4), (.int (0 : Int32))])) _
      refine Goes.of (fun t k => XS.iconst X1958.here hx rfl (hb hby d9_139) k) ?_
      have Vc1959 := V1937
      obtain ⟨clc1959, Arc1959, qc1959, Sc1959, Nc1959, Hc1959, Gc1959⟩ := Vc1959
      have hin1960 : ¬ ((0 : Int32) < 0 ∨ clc1959.slots.size ≤ ((0 : Int32)).toNatClampNeg) := inb_of Sc1959 ⟨by decide, by decide⟩
      have hat1961 : clc1959.slots[((0 : Int32)).toNatClampNeg]? = some (.int (1 : Int32)) := Hc1959.at hin1960 rfl
      refine Goes.of (fun t k => X1958.iaload hx (j := (0 : Int32)) (v := (.int (1 : Int32))) (by rw [e1958]; exact Arc1959.1) (State.isArrayOf_alike hZ.alike Arc1959.2.1) Arc1959.2.2 hin1960 hat1961 (g := (mkF m 140 #[.val (.ref a1), .val (.ref a2), .val (.ref a3), .val (.ref a4), .val (.int p5), .val (.int (0 : Int32)), .unset, .unset, .unset] [(.int (0 : Int32)), (.ref a4), (.int (0 : Int32))])) rfl rfl (hb hby d9_140) _ k) ?_
      show Goes p e below (T1958.setTop (mkF m 141 #[.val (.ref a1), .val (.ref a2), .val (.ref a3), .val (.ref a4), .val (.int p5), .val (.int (0 : Int32)), .unset, .unset, .unset] [(.int (1 : Int32)), (.int (0 : Int32))])) _
      refine Goes.of (fun t k => XS.ifYes X1958.here hx rfl (pc0 := 141) (pc' := 148) rfl (hb hby d9_141) rfl ((if0 _ _).trans (feq (by decide)).2) (by decide) (by decide) k) ?_
      show Goes p e below (T1958.setTop (mkF m 148 #[.val (.ref a1), .val (.ref a2), .val (.ref a3), .val (.ref a4), .val (.int p5), .val (.int (0 : Int32)), .unset, .unset, .unset] [(.int (0 : Int32))])) _
      refine Goes.of (fun t k => XS.iconst X1958.here hx rfl (hb hby d9_148) k) ?_
      show Goes p e below (T1958.setTop (mkF m 149 #[.val (.ref a1), .val (.ref a2), .val (.ref a3), .val (.ref a4), .val (.int p5), .val (.int (0 : Int32)), .unset, .unset, .unset] [(.int (0 : Int32)), (.int (0 : Int32))])) _
      refine Goes.of (fun t k => XS.icmpNo X1958.here hx rfl (hb hby d9_149) rfl (teq (by decide)).2 k) ?_
      show Goes p e below (T1958.setTop (mkF m 152 #[.val (.ref a1), .val (.ref a2), .val (.ref a3), .val (.ref a4), .val (.int p5), .val (.int (0 : Int32)), .unset, .unset, .unset] [])) _
      refine Goes.of (fun t k => XS.iconst X1958.here hx rfl (hb hby d9_152) k) ?_
      show Goes p e below (T1958.setTop (mkF m 153 #[.val (.ref a1), .val (.ref a2), .val (.ref a3), .val (.ref a4), .val (.int p5), .val (.int (0 : Int32)), .unset, .unset, .unset] [(.int (1 : Int32))])) _
      refine Goes.of (fun t k => XS.goto X1958.here hx rfl (pc0 := 153) (pc' := 157) rfl (hb hby d9_153) (by decide) (by decide) k) ?_
      show Goes p e below (T1958.setTop (mkF m 157 #[.val (.ref a1), .val (.ref a2), .val (.ref a3), .val (.ref a4), .val (.int p5), .val (.int (0 : Int32)), .unset, .unset, .unset] [(.int (1 : Int32))])) _
      have eh : T1958.heap = h1937 := e1958
      exact Goes.retN (t := .boolean) X1958 hx Bd.returns (by simp) hlocks (hb hby d9_157) (⟨rfl, N1958, by rw [eh]; exact K1938, Or.inr (Or.inr (Or.inl ⟨by rw [eh]; exact f1940, by rw [eh]; exact f1948, by rw [eh]; exact f1949, by rw [eh]; exact f1950, by rw [eh]; exact f1951, by rw [eh]; exact f1952, by rw [eh]; exact f1953, by rw [eh]; exact f1954, by rw [eh]; exact f1941, by rw [eh]; exact f1955, by rw [eh]; exact f1942, by rw [eh]; exact f1956, by rw [eh]; exact f1943, by rw [eh]; exact f1957, by rw [eh]; exact f1944, by rw [eh]; exact V1937⟩))⟩) (by decide) (by decide)
  · rw [hi]
    show Goes p e below (s₁.setTop (mkF m 6 #[.val (.ref a1), .val (.ref a2), .val (.ref a3), .val (.ref a4), .val (.int p5), .val (.int (1 : Int32)), .unset, .unset, .unset] [])) _
    refine Goes.of (fun t k => XS.iload X0.here hx rfl (hb hby d9_6) rfl k) ?_
    show Goes p e below (s₁.setTop (mkF m 8 #[.val (.ref a1), .val (.ref a2), .val (.ref a3), .val (.ref a4), .val (.int p5), .val (.int (1 : Int32)), .unset, .unset, .unset] [(.int p5)])) _
    refine Goes.of (fun t k => XS.iconst X0.here hx rfl (hb hby d9_8) k) ?_
    show Goes p e below (s₁.setTop (mkF m 9 #[.val (.ref a1), .val (.ref a2), .val (.ref a3), .val (.ref a4), .val (.int p5), .val (.int (1 : Int32)), .unset, .unset, .unset] [(.int (2 : Int32)), (.int p5)])) _
    refine Goes.of (fun t k => XS.iand X0.here hx rfl (hb hby d9_9) rfl k) ?_
    show Goes p e below (s₁.setTop (mkF m 10 #[.val (.ref a1), .val (.ref a2), .val (.ref a3), .val (.ref a4), .val (.int p5), .val (.int (1 : Int32)), .unset, .unset, .unset] [(.int (p5 &&& (2 : Int32)))])) _
    by_cases hc10_1962 : (p5 &&& (2 : Int32)) = (0 : Int32)
    · refine Goes.of (fun t k => XS.ifYes X0.here hx rfl (pc0 := 10) (pc' := 82) rfl (hb hby d9_10) rfl ((if0 _ _).trans (teq hc10_1962).1) (by decide) (by decide) k) ?_
      show Goes p e below (s₁.setTop (mkF m 82 #[.val (.ref a1), .val (.ref a2), .val (.ref a3), .val (.ref a4), .val (.int p5), .val (.int (1 : Int32)), .unset, .unset, .unset] [])) _
      refine Goes.of (fun t k => XS.aloadN X0.here hx rfl (hb hby d9_82) rfl rfl k) ?_
      show Goes p e below (s₁.setTop (mkF m 83 #[.val (.ref a1), .val (.ref a2), .val (.ref a3), .val (.ref a4), .val (.int p5), .val (.int (1 : Int32)), .unset, .unset, .unset] [(.ref a3)])) _
      refine Goes.of (fun t k => XS.iload X0.here hx rfl (hb hby d9_83) rfl k) ?_
      have Vc1963 := VO
      obtain ⟨clc1963, Arc1963, qc1963, Sc1963, Nc1963, Hc1963, Gc1963⟩ := Vc1963
      have hin1964 : ¬ ((1 : Int32) < 0 ∨ clc1963.slots.size ≤ ((1 : Int32)).toNatClampNeg) := inb_of Sc1963 ⟨by decide, by decide⟩
      have hat1965 : clc1963.slots[((1 : Int32)).toNatClampNeg]? = some (.int (1 : Int32)) := Hc1963.at hin1964 rfl
      refine Goes.of (fun t k => X0.baloadBooleans hx (j := (1 : Int32)) (v := (.int (1 : Int32))) (by rw [e0]; exact Arc1963.1) (State.isArrayOf_alike hZ.alike Arc1963.2.1) Arc1963.2.2 hin1964 hat1965 (g := (mkF m 85 #[.val (.ref a1), .val (.ref a2), .val (.ref a3), .val (.ref a4), .val (.int p5), .val (.int (1 : Int32)), .unset, .unset, .unset] [(.int (1 : Int32)), (.ref a3)])) rfl rfl (hb hby d9_85) _ k) ?_
      show Goes p e below (s₁.setTop (mkF m 86 #[.val (.ref a1), .val (.ref a2), .val (.ref a3), .val (.ref a4), .val (.int p5), .val (.int (1 : Int32)), .unset, .unset, .unset] [(.int (1 : Int32))])) _
      refine Goes.of (fun t k => XS.ifNo X0.here hx rfl (hb hby d9_86) rfl ((if0 _ _).trans (feq (by decide)).1) k) ?_
      show Goes p e below (s₁.setTop (mkF m 89 #[.val (.ref a1), .val (.ref a2), .val (.ref a3), .val (.ref a4), .val (.int p5), .val (.int (1 : Int32)), .unset, .unset, .unset] [])) _
      refine Goes.of (fun t k => XS.aloadN X0.here hx rfl (hb hby d9_89) rfl rfl k) ?_
      show Goes p e below (s₁.setTop (mkF m 90 #[.val (.ref a1), .val (.ref a2), .val (.ref a3), .val (.ref a4), .val (.int p5), .val (.int (1 : Int32)), .unset, .unset, .unset] [(.ref a1)])) _
      refine Goes.of (fun t k => XS.aloadN X0.here hx rfl (hb hby d9_90) rfl rfl k) ?_
      show Goes p e below (s₁.setTop (mkF m 91 #[.val (.ref a1), .val (.ref a2), .val (.ref a3), .val (.ref a4), .val (.int p5), .val (.int (1 : Int32)), .unset, .unset, .unset] [(.ref a2), (.ref a1)])) _
      refine Goes.of (fun t k => XS.iload X0.here hx rfl (hb hby d9_91) rfl k) ?_
      have Vc1966 := VT
      obtain ⟨clc1966, Arc1966, qc1966, Sc1966, Nc1966, Hc1966, Gc1966⟩ := Vc1966
      have hin1967 : ¬ ((1 : Int32) < 0 ∨ clc1966.slots.size ≤ ((1 : Int32)).toNatClampNeg) := inb_of Sc1966 ⟨by decide, by decide⟩
      have hat1968 : clc1966.slots[((1 : Int32)).toNatClampNeg]? = some (.ref x1) := Hc1966.at hin1967 rfl
      refine Goes.of (fun t k => X0.aaload hx (j := (1 : Int32)) (v := (.ref x1)) (by rw [e0]; exact Arc1966.1) (State.isArrayOf_alike hZ.alike Arc1966.2.1) rfl Arc1966.2.2 hin1967 hat1968 (g := (mkF m 93 #[.val (.ref a1), .val (.ref a2), .val (.ref a3), .val (.ref a4), .val (.int p5), .val (.int (1 : Int32)), .unset, .unset, .unset] [(.int (1 : Int32)), (.ref a2), (.ref a1)])) rfl rfl (hb hby d9_93) _ k) ?_
      obtain ⟨cq1969, kq1969, q1969a, q1969b, q1969c⟩ := isOf hZ e0 E
      obtain ⟨_, _, ⟨T1969, L1969, k1969, n1969⟩, -, X1969, ⟨Lc1969, hQ1969, l1969, y1969, z1969⟩, st1969⟩ := X0.virtualBack hx (y := (⟨"com/example/ripplematch/ripplematch/core/Agenda", "remove", "(Lcom/example/ripplematch/ripplematch/core/Activation;)V"⟩ : MethodName)) (z := (⟨"com/example/ripplematch/ripplematch/core/Agenda", "remove", "(Lcom/example/ripplematch/ripplematch/core/Activation;)V"⟩ : MethodName)) hown (mvT hZ (wd hw 85 rfl)) (mvT hZ (wd hw 86 rfl)) (notFace_of_selects (args := #[]) (mvT hZ (wd hw 88 rfl))) (mvT hZ (wd hw 88 rfl)) (mvT hZ (wd hw 87 rfl)) (by decide) (backOf (W := 0) (rm11_704 l Z a0 hw [] a1 x1 HA FA x0 _ _ h0 n0 Z0 O0 SA E F_heap F_heapSize F_gone F_disordered F_fresh F_freshSize F_size VH VF E_x0 P_x0 E_x1 P_x1 g_a1 g_HA g_FA g_x0 g_x1 n_a1_HA n_a1_FA n_a1_x0 n_a1_x1 n_HA_FA n_HA_x0 n_HA_x1 n_FA_x0 n_FA_x1 n_x0_x1 OH OF) hZ (wd hw 89 rfl) (wd hw 2 rfl) (by decide) (by decide)) q1969a q1969c (g := (mkF m 94 #[.val (.ref a1), .val (.ref a2), .val (.ref a3), .val (.ref a4), .val (.int p5), .val (.int (1 : Int32)), .unset, .unset, .unset] [(.ref x1), (.ref a1)])) rfl (by rw [hml]; rfl) (Steps.refl _) (argsL := [(.ref x1)]) (rest := []) (lenOf pd_5 rfl) rfl (by show 2 * 0 + _ ≤ _; exact Nat.le_of_eq rfl) (hb hby d9_94) (fun _ _ => ⟨rfl, e0, (by decide : 0 + 0 ≤ _), (by decide : 0 + 0 ≤ _)⟩)
      dsimp only [Pt.U, Pt.locs, Pt.cells, Pt.slots] at X1969 l1969 y1969 z1969 st1969 hQ1969
      subst l1969 y1969 z1969
      obtain ⟨rfl, N1969q, K1969, E_1969, F_heap_1969, F_heapSize_1969, F_gone_1969, F_disordered_1969, F_fresh_1969, F_freshSize_1969, F_size_1969, VH_1969, VF_1969, E_x0_1969, P_x0_1969, E_x1_1969, P_x1_1969⟩ := hQ1969
      have N1969 := Fr.app N0 N1969q
      have K1970 : Keep h0 T1969.heap [a1, a3, a4, HA, FA, x0, x1] := K0.trans K1969 (allS (Or.inl (List.mem_of_getElem? (i := 0) rfl)) (allS (Or.inl (List.mem_of_getElem? (i := 4) rfl)) (allS (Or.inl (List.mem_of_getElem? (i := 5) rfl)) (allS (Or.inl (List.mem_of_getElem? (i := 6) rfl)) all0))))
      have z1971 : n0 ≤ T1969.heap.size := Nat.le_trans Z0 K1969.1
      have f1972 := E.keep K1969
      have f1980 := VH.keep K1969 (ninS (Ne.symm n_a1_HA) (ninS n_HA_FA (ninS n_HA_x0 (ninS n_HA_x1 nin0))))
      have f1982 := E_x0.keep K1969
      have f1984 := E_x1.keep K1969
      have f1986 := VO.keep K1969 (ninS (Ne.symm n_a1_a3) (ninS n_a3_FA (ninS n_a3_x0 (ninS n_a3_x1 nin0))))
      have f1987 := VC.keep K1969 (ninS (Ne.symm n_a1_a4) (ninS n_a4_FA (ninS n_a4_x0 (ninS n_a4_x1 nin0))))
      have f1988 := O0.keep K1969 (allS g_a1 (allS g_FA (allS g_x0 (allS g_x1 all0))))
      have f1989 := VT.keep K1969 (ninS (Ne.symm n_a1_a2) (ninS n_a2_FA (ninS n_a2_x0 (ninS n_a2_x1 nin0))))
      refine Goes.of (fun t k => st1969.trans k) ?_
      show Goes p e below (T1969.setTop (mkF m 97 #[.val (.ref a1), .val (.ref a2), .val (.ref a3), .val (.ref a4), .val (.int p5), .val (.int (1 : Int32)), .unset, .unset, .unset] [])) _
      refine Goes.of (fun t k => XS.aloadN X1969.here hx rfl (hb hby d9_97) rfl rfl k) ?_
      show Goes p e below (T1969.setTop (mkF m 98 #[.val (.ref a1), .val (.ref a2), .val (.ref a3), .val (.ref a4), .val (.int p5), .val (.int (1 : Int32)), .unset, .unset, .unset] [(.ref a3)])) _
      refine Goes.of (fun t k => XS.iload X1969.here hx rfl (hb hby d9_98) rfl k) ?_
      show Goes p e below (T1969.setTop (mkF m 100 #[.val (.ref a1), .val (.ref a2), .val (.ref a3), .val (.ref a4), .val (.int p5), .val (.int (1 : Int32)), .unset, .unset, .unset] [(.int (1 : Int32)), (.ref a3)])) _
      refine Goes.of (fun t k => XS.iconst X1969.here hx rfl (hb hby d9_100) k) ?_
      have Vc1990 := f1986
      obtain ⟨clc1990, Arc1990, qc1990, Sc1990, Nc1990, Hc1990, Gc1990⟩ := Vc1990
      have hin1991 : ¬ ((1 : Int32) < 0 ∨ clc1990.slots.size ≤ ((1 : Int32)).toNatClampNeg) := inb_of Sc1990 ⟨by decide, by decide⟩
      obtain ⟨T1992, h1992, X1992, e1992, W1992, st1992⟩ := stZ X1969 hx hZ rfl Arc1990 (j := (1 : Int32)) hin1991 (g := (mkF m 101 #[.val (.ref a1), .val (.ref a2), .val (.ref a3), .val (.ref a4), .val (.int p5), .val (.int (1 : Int32)), .unset, .unset, .unset] [(.int (0 : Int32)), (.int (1 : Int32)), (.ref a3)])) rfl rfl (hb hby d9_101)
      have V1992 : Arv Z h1992 a3 kO .boolean (2 : Int32) [(.int (1 : Int32)), (.int (nar .boolean (0 : Int32)))] (.int (0 : Int32)) := Arv.set Arc1990 qc1990 Sc1990 Nc1990 Hc1990 Gc1990 (fits_nar_bool _) W1992 1 rfl (Nat.le_of_ble_eq_true rfl)
      have K1993 : Keep h0 h1992 [a1, a3, a4, HA, FA, x0, x1] := K1970.wr W1992 (Or.inl (List.mem_of_getElem? (i := 1) rfl))
      have z1994 : n0 ≤ h1992.size := Nat.le_trans z1971 (Keep.of_wr W1992).1
      have f1995 := E_1969.wr W1992
      have f1996 := VH_1969.other W1992 (Ne.symm n_a3_HA)
      have f1997 := E_x0_1969.wr W1992
      have f1998 := E_x1_1969.wr W1992
      have f2000 := f1987.other W1992 (Ne.symm n_a3_a4)
      have f2001 := f1988.wr W1992 g_a3
      have f2002 := f1989.other W1992 n_a2_a3
      have f2003 := F_heap_1969.other W1992 (Or.inl n_a1_a3)
      have f2004 := F_heapSize_1969.other W1992 (Or.inl n_a1_a3)
      have f2005 := F_gone_1969.other W1992 (Or.inl n_a1_a3)
      have f2006 := F_disordered_1969.other W1992 (Or.inl n_a1_a3)
      have f2007 := F_fresh_1969.other W1992 (Or.inl n_a1_a3)
      have f2008 := F_freshSize_1969.other W1992 (Or.inl n_a1_a3)
      have f2009 := F_size_1969.other W1992 (Or.inl n_a1_a3)
      have f2010 := VF_1969.other W1992 (Ne.symm n_a3_FA)
      have f2011 := P_x0_1969.other W1992 (Or.inl (Ne.symm n_a3_x0))
      have f2012 := P_x1_1969.other W1992 (Or.inl (Ne.symm n_a3_x1))
      have N1992 := Fr.snoc X1992 N1969 g_a3
      refine Goes.of st1992 ?_
      show Goes p e below (T1992.setTop (mkF m 102 #[.val (.ref a1), .val (.ref a2), .val (.ref a3), .val (.ref a4), .val (.int p5), .val (.int (1 : Int32)), .unset, .unset, .unset] [])) _
      refine Goes.of (fun t k => XS.aloadN X1992.here hx rfl (hb hby d9_102) rfl rfl k) ?_
      show Goes p e below (T1992.setTop (mkF m 103 #[.val (.ref a1), .val (.ref a2), .val (.ref a3), .val (.ref a4), .val (.int p5), .val (.int (1 : Int32)), .unset, .unset, .unset] [(.ref a4)])) _
      refine Goes.of (fun t k => XS.iconst X1992.here hx rfl (hb hby d9_103) k) ?_
      show Goes p e below (T1992.setTop (mkF m 104 #[.val (.ref a1), .val (.ref a2), .val (.ref a3), .val (.ref a4), .val (.int p5), .val (.int (1 : Int32)), .unset, .unset, .unset] [(.int (0 : Int32)), (.ref a4)])) _
      refine Goes.of (fun t k => XS.aloadN X1992.here hx rfl (hb hby d9_104) rfl rfl k) ?_
      show Goes p e below (T1992.setTop (mkF m 105 #[.val (.ref a1), .val (.ref a2), .val (.ref a3), .val (.ref a4), .val (.int p5), .val (.int (1 : Int32)), .unset, .unset, .unset] [(.ref a4), (.int (0 : Int32)), (.ref a4)])) _
      refine Goes.of (fun t k => XS.iconst X1992.here hx rfl (hb hby d9_105) k) ?_
      have Vc2013 := f2000
      obtain ⟨clc2013, Arc2013, qc2013, Sc2013, Nc2013, Hc2013, Gc2013⟩ := Vc2013
      have hin2014 : ¬ ((0 : Int32) < 0 ∨ clc2013.slots.size ≤ ((0 : Int32)).toNatClampNeg) := inb_of Sc2013 ⟨by decide, by decide⟩
      have hat2015 : clc2013.slots[((0 : Int32)).toNatClampNeg]? = some (.int (2 : Int32)) := Hc2013.at hin2014 rfl
      refine Goes.of (fun t k => X1992.iaload hx (j := (0 : Int32)) (v := (.int (2 : Int32))) (by rw [e1992]; exact Arc2013.1) (State.isArrayOf_alike hZ.alike Arc2013.2.1) Arc2013.2.2 hin2014 hat2015 (g := (mkF m 106 #[.val (.ref a1), .val (.ref a2), .val (.ref a3), .val (.ref a4), .val (.int p5), .val (.int (1 : Int32)), .unset, .unset, .unset] [(.int (0 : Int32)), (.ref a4), (.int (0 : Int32)), (.ref a4)])) rfl rfl (hb hby d9_106) _ k) ?_
      show Goes p e below (T1992.setTop (mkF m 107 #[.val (.ref a1), .val (.ref a2), .val (.ref a3), .val (.ref a4), .val (.int p5), .val (.int (1 : Int32)), .unset, .unset, .unset] [(.int (2 : Int32)), (.int (0 : Int32)), (.ref a4)])) _
      refine Goes.of (fun t k => XS.iconst X1992.here hx rfl (hb hby d9_107) k) ?_
      show Goes p e below (T1992.setTop (mkF m 108 #[.val (.ref a1), .val (.ref a2), .val (.ref a3), .val (.ref a4), .val (.int p5), .val (.int (1 : Int32)), .unset, .unset, .unset] [(.int (1 : Int32)), (.int (2 : Int32)), (.int (0 : Int32)), (.ref a4)])) _
      refine Goes.of (fun t k => XS.isub X1992.here hx rfl (hb hby d9_108) rfl k) ?_
      have Vc2016 := f2000
      obtain ⟨clc2016, Arc2016, qc2016, Sc2016, Nc2016, Hc2016, Gc2016⟩ := Vc2016
      have hin2017 : ¬ ((0 : Int32) < 0 ∨ clc2016.slots.size ≤ ((0 : Int32)).toNatClampNeg) := inb_of Sc2016 ⟨by decide, by decide⟩
      obtain ⟨T2018, h2018, X2018, e2018, W2018, st2018⟩ := stI X1992 hx hZ e1992 Arc2016 (j := (0 : Int32)) hin2017 (g := (mkF m 109 #[.val (.ref a1), .val (.ref a2), .val (.ref a3), .val (.ref a4), .val (.int p5), .val (.int (1 : Int32)), .unset, .unset, .unset] [(.int (1 : Int32)), (.int (0 : Int32)), (.ref a4)])) rfl rfl (hb hby d9_109)
      have V2018 : Arv Z h2018 a4 kC .int (1 : Int32) [(.int (1 : Int32))] (.int (0 : Int32)) := Arv.set Arc2016 qc2016 Sc2016 Nc2016 Hc2016 Gc2016 rfl W2018 0 rfl (Nat.le_of_ble_eq_true rfl)
      have K2019 : Keep h0 h2018 [a1, a3, a4, HA, FA, x0, x1] := K1993.wr W2018 (Or.inl (List.mem_of_getElem? (i := 2) rfl))
      have z2020 : n0 ≤ h2018.size := Nat.le_trans z1994 (Keep.of_wr W2018).1
      have f2021 := f1995.wr W2018
      have f2022 := f1996.other W2018 (Ne.symm n_a4_HA)
      have f2023 := f1997.wr W2018
      have f2024 := f1998.wr W2018
      have f2025 := V1992.other W2018 n_a3_a4
      have f2027 := f2001.wr W2018 g_a4
      have f2028 := f2002.other W2018 n_a2_a4
      have f2029 := f2003.other W2018 (Or.inl n_a1_a4)
      have f2030 := f2004.other W2018 (Or.inl n_a1_a4)
      have f2031 := f2005.other W2018 (Or.inl n_a1_a4)
      have f2032 := f2006.other W2018 (Or.inl n_a1_a4)
      have f2033 := f2007.other W2018 (Or.inl n_a1_a4)
      have f2034 := f2008.other W2018 (Or.inl n_a1_a4)
      have f2035 := f2009.other W2018 (Or.inl n_a1_a4)
      have f2036 := f2010.other W2018 (Ne.symm n_a4_FA)
      have f2037 := f2011.other W2018 (Or.inl (Ne.symm n_a4_x0))
      have f2038 := f2012.other W2018 (Or.inl (Ne.symm n_a4_x1))
      have N2018 := Fr.snoc X2018 N1992 g_a4
      refine Goes.of st2018 ?_
      show Goes p e below (T2018.setTop (mkF m 110 #[.val (.ref a1), .val (.ref a2), .val (.ref a3), .val (.ref a4), .val (.int p5), .val (.int (1 : Int32)), .unset, .unset, .unset] [])) _
      refine Goes.of (fun t k => XS.goto X2018.here hx rfl (pc0 := 110) (pc' := 134) rfl (hb hby d9_110) (by decide) (by decide) k) ?_
      show Goes p e below (T2018.setTop (mkF m 134 #[.val (.ref a1), .val (.ref a2), .val (.ref a3), .val (.ref a4), .val (.int p5), .val (.int (1 : Int32)), .unset, .unset, .unset] [])) _
      refine Goes.of (fun t k => XS.aloadN X2018.here hx rfl (hb hby d9_134) rfl rfl k) ?_
      obtain ⟨cq2039, kq2039, q2039a, q2039b, q2039c⟩ := isOf hZ e2018 f2021
      obtain ⟨_, _, ⟨T2039, L2039, k2039, n2039⟩, -, X2039, ⟨Lc2039, hQ2039, l2039, y2039, z2039⟩, st2039⟩ := X2018.virtualBack hx (y := (⟨"com/example/ripplematch/ripplematch/core/Agenda", "isEmpty", "()Z"⟩ : MethodName)) (z := (⟨"com/example/ripplematch/ripplematch/core/Agenda", "isEmpty", "()Z"⟩ : MethodName)) hown (mvT hZ (wd hw 64 rfl)) (mvT hZ (wd hw 65 rfl)) (notFace_of_selects (args := #[]) (mvT hZ (wd hw 67 rfl))) (mvT hZ (wd hw 67 rfl)) (mvT hZ (wd hw 66 rfl)) (by decide) (backOf (W := 0) (rm8 l Z a0 hw [] a1 (1 : Int32) h2018 n0 z2020 f2035) hZ (wd hw 68 rfl) (wd hw 2 rfl) (by decide) (by decide)) q2039a q2039c (g := (mkF m 135 #[.val (.ref a1), .val (.ref a2), .val (.ref a3), .val (.ref a4), .val (.int p5), .val (.int (1 : Int32)), .unset, .unset, .unset] [(.ref a1)])) rfl (by rw [hml]; rfl) (Steps.refl _) (argsL := []) (rest := []) (lenOf pd_6 rfl) rfl (by show 2 * 0 + _ ≤ _; exact Nat.le_of_eq rfl) (hb hby d9_135) (fun _ _ => ⟨rfl, e2018, (by decide : 0 + 0 ≤ _), (by decide : 0 + 0 ≤ _)⟩)
      dsimp only [Pt.U, Pt.locs, Pt.cells, Pt.slots] at X2039 l2039 y2039 z2039 st2039 hQ2039
      subst l2039 y2039 z2039
      obtain ⟨rfl, N2039q, e2039⟩ := hQ2039
      have N2039 := Fr.app N2018 N2039q
      refine Goes.of (fun t k => st2039.trans k) ?_
      show Goes p e below (T2039.setTop (mkF m 138 #[.val (.ref a1), .val (.ref a2), .val (.ref a3), .val (.ref a4), .val (.int p5), .val (.int (1 : Int32)), .unset, .unset, .unset] [(.int (0 : Int32))])) _
      refine Goes.of (fun t k => XS.aloadN X2039.here hx rfl (hb hby d9_138) rfl rfl k) ?_
      show Goes p e below (T2039.setTop (mkF m 139 #[.val (.ref a1), .val (.ref a2), .val (.ref a3), .val (.ref a4), .val (.int p5), .val (.int (1 : Int32)), .unset, .unset, .unset] [(.ref a4), (.int (0 : Int32))])) _
      refine Goes.of (fun t k => XS.iconst X2039.here hx rfl (hb hby d9_139) k) ?_
      have Vc2040 := V2018
      obtain ⟨clc2040, Arc2040, qc2040, Sc2040, Nc2040, Hc2040, Gc2040⟩ := Vc2040
      have hin2041 : ¬ ((0 : Int32) < 0 ∨ clc2040.slots.size ≤ ((0 : Int32)).toNatClampNeg) := inb_of Sc2040 ⟨by decide, by decide⟩
      have hat2042 : clc2040.slots[((0 : Int32)).toNatClampNeg]? = some (.int (1 : Int32)) := Hc2040.at hin2041 rfl
      refine Goes.of (fun t k => X2039.iaload hx (j := (0 : Int32)) (v := (.int (1 : Int32))) (by rw [e2039]; exact Arc2040.1) (State.isArrayOf_alike hZ.alike Arc2040.2.1) Arc2040.2.2 hin2041 hat2042 (g := (mkF m 140 #[.val (.ref a1), .val (.ref a2), .val (.ref a3), .val (.ref a4), .val (.int p5), .val (.int (1 : Int32)), .unset, .unset, .unset] [(.int (0 : Int32)), (.ref a4), (.int (0 : Int32))])) rfl rfl (hb hby d9_140) _ k) ?_
      show Goes p e below (T2039.setTop (mkF m 141 #[.val (.ref a1), .val (.ref a2), .val (.ref a3), .val (.ref a4), .val (.int p5), .val (.int (1 : Int32)), .unset, .unset, .unset] [(.int (1 : Int32)), (.int (0 : Int32))])) _
      refine Goes.of (fun t k => XS.ifYes X2039.here hx rfl (pc0 := 141) (pc' := 148) rfl (hb hby d9_141) rfl ((if0 _ _).trans (feq (by decide)).2) (by decide) (by decide) k) ?_
      show Goes p e below (T2039.setTop (mkF m 148 #[.val (.ref a1), .val (.ref a2), .val (.ref a3), .val (.ref a4), .val (.int p5), .val (.int (1 : Int32)), .unset, .unset, .unset] [(.int (0 : Int32))])) _
      refine Goes.of (fun t k => XS.iconst X2039.here hx rfl (hb hby d9_148) k) ?_
      show Goes p e below (T2039.setTop (mkF m 149 #[.val (.ref a1), .val (.ref a2), .val (.ref a3), .val (.ref a4), .val (.int p5), .val (.int (1 : Int32)), .unset, .unset, .unset] [(.int (0 : Int32)), (.int (0 : Int32))])) _
      refine Goes.of (fun t k => XS.icmpNo X2039.here hx rfl (hb hby d9_149) rfl (teq (by decide)).2 k) ?_
      show Goes p e below (T2039.setTop (mkF m 152 #[.val (.ref a1), .val (.ref a2), .val (.ref a3), .val (.ref a4), .val (.int p5), .val (.int (1 : Int32)), .unset, .unset, .unset] [])) _
      refine Goes.of (fun t k => XS.iconst X2039.here hx rfl (hb hby d9_152) k) ?_
      show Goes p e below (T2039.setTop (mkF m 153 #[.val (.ref a1), .val (.ref a2), .val (.ref a3), .val (.ref a4), .val (.int p5), .val (.int (1 : Int32)), .unset, .unset, .unset] [(.int (1 : Int32))])) _
      refine Goes.of (fun t k => XS.goto X2039.here hx rfl (pc0 := 153) (pc' := 157) rfl (hb hby d9_153) (by decide) (by decide) k) ?_
      show Goes p e below (T2039.setTop (mkF m 157 #[.val (.ref a1), .val (.ref a2), .val (.ref a3), .val (.ref a4), .val (.int p5), .val (.int (1 : Int32)), .unset, .unset, .unset] [(.int (1 : Int32))])) _
      have eh : T2039.heap = h2018 := e2039
      exact Goes.retN (t := .boolean) X2039 hx Bd.returns (by simp) hlocks (hb hby d9_157) (⟨rfl, N2039, by rw [eh]; exact K2019, Or.inr (Or.inl ⟨by rw [eh]; exact f2021, by rw [eh]; exact f2029, by rw [eh]; exact f2030, by rw [eh]; exact f2031, by rw [eh]; exact f2032, by rw [eh]; exact f2033, by rw [eh]; exact f2034, by rw [eh]; exact f2035, by rw [eh]; exact f2022, by rw [eh]; exact f2036, by rw [eh]; exact f2023, by rw [eh]; exact f2037, by rw [eh]; exact f2024, by rw [eh]; exact f2038, by rw [eh]; exact f2025, by rw [eh]; exact V2018⟩)⟩) (by decide) (by decide)
    · refine Goes.of (fun t k => XS.ifNo X0.here hx rfl (hb hby d9_10) rfl ((if0 _ _).trans (feq hc10_1962).1) k) ?_
      show Goes p e below (s₁.setTop (mkF m 13 #[.val (.ref a1), .val (.ref a2), .val (.ref a3), .val (.ref a4), .val (.int p5), .val (.int (1 : Int32)), .unset, .unset, .unset] [])) _
      refine Goes.of (fun t k => XS.aloadN X0.here hx rfl (hb hby d9_13) rfl rfl k) ?_
      show Goes p e below (s₁.setTop (mkF m 14 #[.val (.ref a1), .val (.ref a2), .val (.ref a3), .val (.ref a4), .val (.int p5), .val (.int (1 : Int32)), .unset, .unset, .unset] [(.ref a4)])) _
      refine Goes.of (fun t k => XS.iconst X0.here hx rfl (hb hby d9_14) k) ?_
      have Vc2043 := VC
      obtain ⟨clc2043, Arc2043, qc2043, Sc2043, Nc2043, Hc2043, Gc2043⟩ := Vc2043
      have hin2044 : ¬ ((0 : Int32) < 0 ∨ clc2043.slots.size ≤ ((0 : Int32)).toNatClampNeg) := inb_of Sc2043 ⟨by decide, by decide⟩
      have hat2045 : clc2043.slots[((0 : Int32)).toNatClampNeg]? = some (.int (2 : Int32)) := Hc2043.at hin2044 rfl
      refine Goes.of (fun t k => X0.iaload hx (j := (0 : Int32)) (v := (.int (2 : Int32))) (by rw [e0]; exact Arc2043.1) (State.isArrayOf_alike hZ.alike Arc2043.2.1) Arc2043.2.2 hin2044 hat2045 (g := (mkF m 15 #[.val (.ref a1), .val (.ref a2), .val (.ref a3), .val (.ref a4), .val (.int p5), .val (.int (1 : Int32)), .unset, .unset, .unset] [(.int (0 : Int32)), (.ref a4)])) rfl rfl (hb hby d9_15) _ k) ?_
      show Goes p e below (s₁.setTop (mkF m 16 #[.val (.ref a1), .val (.ref a2), .val (.ref a3), .val (.ref a4), .val (.int p5), .val (.int (1 : Int32)), .unset, .unset, .unset] [(.int (2 : Int32))])) _
      refine Goes.of (fun t k => XS.iconst X0.here hx rfl (hb hby d9_16) k) ?_
      show Goes p e below (s₁.setTop (mkF m 17 #[.val (.ref a1), .val (.ref a2), .val (.ref a3), .val (.ref a4), .val (.int p5), .val (.int (1 : Int32)), .unset, .unset, .unset] [(.int (1 : Int32)), (.int (2 : Int32))])) _
      refine Goes.of (fun t k => XS.icmpYes X0.here hx rfl (pc0 := 17) (pc' := 82) rfl (hb hby d9_17) rfl (feq (by decide)).2 (by decide) (by decide) k) ?_
      show Goes p e below (s₁.setTop (mkF m 82 #[.val (.ref a1), .val (.ref a2), .val (.ref a3), .val (.ref a4), .val (.int p5), .val (.int (1 : Int32)), .unset, .unset, .unset] [])) _
      refine Goes.of (fun t k => XS.aloadN X0.here hx rfl (hb hby d9_82) rfl rfl k) ?_
      show Goes p e below (s₁.setTop (mkF m 83 #[.val (.ref a1), .val (.ref a2), .val (.ref a3), .val (.ref a4), .val (.int p5), .val (.int (1 : Int32)), .unset, .unset, .unset] [(.ref a3)])) _
      refine Goes.of (fun t k => XS.iload X0.here hx rfl (hb hby d9_83) rfl k) ?_
      have Vc2046 := VO
      obtain ⟨clc2046, Arc2046, qc2046, Sc2046, Nc2046, Hc2046, Gc2046⟩ := Vc2046
      have hin2047 : ¬ ((1 : Int32) < 0 ∨ clc2046.slots.size ≤ ((1 : Int32)).toNatClampNeg) := inb_of Sc2046 ⟨by decide, by decide⟩
      have hat2048 : clc2046.slots[((1 : Int32)).toNatClampNeg]? = some (.int (1 : Int32)) := Hc2046.at hin2047 rfl
      refine Goes.of (fun t k => X0.baloadBooleans hx (j := (1 : Int32)) (v := (.int (1 : Int32))) (by rw [e0]; exact Arc2046.1) (State.isArrayOf_alike hZ.alike Arc2046.2.1) Arc2046.2.2 hin2047 hat2048 (g := (mkF m 85 #[.val (.ref a1), .val (.ref a2), .val (.ref a3), .val (.ref a4), .val (.int p5), .val (.int (1 : Int32)), .unset, .unset, .unset] [(.int (1 : Int32)), (.ref a3)])) rfl rfl (hb hby d9_85) _ k) ?_
      show Goes p e below (s₁.setTop (mkF m 86 #[.val (.ref a1), .val (.ref a2), .val (.ref a3), .val (.ref a4), .val (.int p5), .val (.int (1 : Int32)), .unset, .unset, .unset] [(.int (1 : Int32))])) _
      refine Goes.of (fun t k => XS.ifNo X0.here hx rfl (hb hby d9_86) rfl ((if0 _ _).trans (feq (by decide)).1) k) ?_
      show Goes p e below (s₁.setTop (mkF m 89 #[.val (.ref a1), .val (.ref a2), .val (.ref a3), .val (.ref a4), .val (.int p5), .val (.int (1 : Int32)), .unset, .unset, .unset] [])) _
      refine Goes.of (fun t k => XS.aloadN X0.here hx rfl (hb hby d9_89) rfl rfl k) ?_
      show Goes p e below (s₁.setTop (mkF m 90 #[.val (.ref a1), .val (.ref a2), .val (.ref a3), .val (.ref a4), .val (.int p5), .val (.int (1 : Int32)), .unset, .unset, .unset] [(.ref a1)])) _
      refine Goes.of (fun t k => XS.aloadN X0.here hx rfl (hb hby d9_90) rfl rfl k) ?_
      show Goes p e below (s₁.setTop (mkF m 91 #[.val (.ref a1), .val (.ref a2), .val (.ref a3), .val (.ref a4), .val (.int p5), .val (.int (1 : Int32)), .unset, .unset, .unset] [(.ref a2), (.ref a1)])) _
      refine Goes.of (fun t k => XS.iload X0.here hx rfl (hb hby d9_91) rfl k) ?_
      have Vc2049 := VT
      obtain ⟨clc2049, Arc2049, qc2049, Sc2049, Nc2049, Hc2049, Gc2049⟩ := Vc2049
      have hin2050 : ¬ ((1 : Int32) < 0 ∨ clc2049.slots.size ≤ ((1 : Int32)).toNatClampNeg) := inb_of Sc2049 ⟨by decide, by decide⟩
      have hat2051 : clc2049.slots[((1 : Int32)).toNatClampNeg]? = some (.ref x1) := Hc2049.at hin2050 rfl
      refine Goes.of (fun t k => X0.aaload hx (j := (1 : Int32)) (v := (.ref x1)) (by rw [e0]; exact Arc2049.1) (State.isArrayOf_alike hZ.alike Arc2049.2.1) rfl Arc2049.2.2 hin2050 hat2051 (g := (mkF m 93 #[.val (.ref a1), .val (.ref a2), .val (.ref a3), .val (.ref a4), .val (.int p5), .val (.int (1 : Int32)), .unset, .unset, .unset] [(.int (1 : Int32)), (.ref a2), (.ref a1)])) rfl rfl (hb hby d9_93) _ k) ?_
      obtain ⟨cq2052, kq2052, q2052a, q2052b, q2052c⟩ := isOf hZ e0 E
      obtain ⟨_, _, ⟨T2052, L2052, k2052, n2052⟩, -, X2052, ⟨Lc2052, hQ2052, l2052, y2052, z2052⟩, st2052⟩ := X0.virtualBack hx (y := (⟨"com/example/ripplematch/ripplematch/core/Agenda", "remove", "(Lcom/example/ripplematch/ripplematch/core/Activation;)V"⟩ : MethodName)) (z := (⟨"com/example/ripplematch/ripplematch/core/Agenda", "remove", "(Lcom/example/ripplematch/ripplematch/core/Activation;)V"⟩ : MethodName)) hown (mvT hZ (wd hw 85 rfl)) (mvT hZ (wd hw 86 rfl)) (notFace_of_selects (args := #[]) (mvT hZ (wd hw 88 rfl))) (mvT hZ (wd hw 88 rfl)) (mvT hZ (wd hw 87 rfl)) (by decide) (backOf (W := 0) (rm11_704 l Z a0 hw [] a1 x1 HA FA x0 _ _ h0 n0 Z0 O0 SA E F_heap F_heapSize F_gone F_disordered F_fresh F_freshSize F_size VH VF E_x0 P_x0 E_x1 P_x1 g_a1 g_HA g_FA g_x0 g_x1 n_a1_HA n_a1_FA n_a1_x0 n_a1_x1 n_HA_FA n_HA_x0 n_HA_x1 n_FA_x0 n_FA_x1 n_x0_x1 OH OF) hZ (wd hw 89 rfl) (wd hw 2 rfl) (by decide) (by decide)) q2052a q2052c (g := (mkF m 94 #[.val (.ref a1), .val (.ref a2), .val (.ref a3), .val (.ref a4), .val (.int p5), .val (.int (1 : Int32)), .unset, .unset, .unset] [(.ref x1), (.ref a1)])) rfl (by rw [hml]; rfl) (Steps.refl _) (argsL := [(.ref x1)]) (rest := []) (lenOf pd_5 rfl) rfl (by show 2 * 0 + _ ≤ _; exact Nat.le_of_eq rfl) (hb hby d9_94) (fun _ _ => ⟨rfl, e0, (by decide : 0 + 0 ≤ _), (by decide : 0 + 0 ≤ _)⟩)
      dsimp only [Pt.U, Pt.locs, Pt.cells, Pt.slots] at X2052 l2052 y2052 z2052 st2052 hQ2052
      subst l2052 y2052 z2052
      obtain ⟨rfl, N2052q, K2052, E_2052, F_heap_2052, F_heapSize_2052, F_gone_2052, F_disordered_2052, F_fresh_2052, F_freshSize_2052, F_size_2052, VH_2052, VF_2052, E_x0_2052, P_x0_2052, E_x1_2052, P_x1_2052⟩ := hQ2052
      have N2052 := Fr.app N0 N2052q
      have K2053 : Keep h0 T2052.heap [a1, a3, a4, HA, FA, x0, x1] := K0.trans K2052 (allS (Or.inl (List.mem_of_getElem? (i := 0) rfl)) (allS (Or.inl (List.mem_of_getElem? (i := 4) rfl)) (allS (Or.inl (List.mem_of_getElem? (i := 5) rfl)) (allS (Or.inl (List.mem_of_getElem? (i := 6) rfl)) all0))))
      have z2054 : n0 ≤ T2052.heap.size := Nat.le_trans Z0 K2052.1
      have f2055 := E.keep K2052
      have f2063 := VH.keep K2052 (ninS (Ne.symm n_a1_HA) (ninS n_HA_FA (ninS n_HA_x0 (ninS n_HA_x1 nin0))))
      have f2065 := E_x0.keep K2052
      have f2067 := E_x1.keep K2052
      have f2069 := VO.keep K2052 (ninS (Ne.symm n_a1_a3) (ninS n_a3_FA (ninS n_a3_x0 (ninS n_a3_x1 nin0))))
      have f2070 := VC.keep K2052 (ninS (Ne.symm n_a1_a4) (ninS n_a4_FA (ninS n_a4_x0 (ninS n_a4_x1 nin0))))
      have f2071 := O0.keep K2052 (allS g_a1 (allS g_FA (allS g_x0 (allS g_x1 all0))))
      have f2072 := VT.keep K2052 (ninS (Ne.symm n_a1_a2) (ninS n_a2_FA (ninS n_a2_x0 (ninS n_a2_x1 nin0))))
      refine Goes.of (fun t k => st2052.trans k) ?_
      show Goes p e below (T2052.setTop (mkF m 97 #[.val (.ref a1), .val (.ref a2), .val (.ref a3), .val (.ref a4), .val (.int p5), .val (.int (1 : Int32)), .unset, .unset, .unset] [])) _
      refine Goes.of (fun t k => XS.aloadN X2052.here hx rfl (hb hby d9_97) rfl rfl k) ?_
      show Goes p e below (T2052.setTop (mkF m 98 #[.val (.ref a1), .val (.ref a2), .val (.ref a3), .val (.ref a4), .val (.int p5), .val (.int (1 : Int32)), .unset, .unset, .unset] [(.ref a3)])) _
      refine Goes.of (fun t k => XS.iload X2052.here hx rfl (hb hby d9_98) rfl k) ?_
      show Goes p e below (T2052.setTop (mkF m 100 #[.val (.ref a1), .val (.ref a2), .val (.ref a3), .val (.ref a4), .val (.int p5), .val (.int (1 : Int32)), .unset, .unset, .unset] [(.int (1 : Int32)), (.ref a3)])) _
      refine Goes.of (fun t k => XS.iconst X2052.here hx rfl (hb hby d9_100) k) ?_
      have Vc2073 := f2069
      obtain ⟨clc2073, Arc2073, qc2073, Sc2073, Nc2073, Hc2073, Gc2073⟩ := Vc2073
      have hin2074 : ¬ ((1 : Int32) < 0 ∨ clc2073.slots.size ≤ ((1 : Int32)).toNatClampNeg) := inb_of Sc2073 ⟨by decide, by decide⟩
      obtain ⟨T2075, h2075, X2075, e2075, W2075, st2075⟩ := stZ X2052 hx hZ rfl Arc2073 (j := (1 : Int32)) hin2074 (g := (mkF m 101 #[.val (.ref a1), .val (.ref a2), .val (.ref a3), .val (.ref a4), .val (.int p5), .val (.int (1 : Int32)), .unset, .unset, .unset] [(.int (0 : Int32)), (.int (1 : Int32)), (.ref a3)])) rfl rfl (hb hby d9_101)
      have V2075 : Arv Z h2075 a3 kO .boolean (2 : Int32) [(.int (1 : Int32)), (.int (nar .boolean (0 : Int32)))] (.int (0 : Int32)) := Arv.set Arc2073 qc2073 Sc2073 Nc2073 Hc2073 Gc2073 (fits_nar_bool _) W2075 1 rfl (Nat.le_of_ble_eq_true rfl)
      have K2076 : Keep h0 h2075 [a1, a3, a4, HA, FA, x0, x1] := K2053.wr W2075 (Or.inl (List.mem_of_getElem? (i := 1) rfl))
      have z2077 : n0 ≤ h2075.size := Nat.le_trans z2054 (Keep.of_wr W2075).1
      have f2078 := E_2052.wr W2075
      have f2079 := VH_2052.other W2075 (Ne.symm n_a3_HA)
      have f2080 := E_x0_2052.wr W2075
      have f2081 := E_x1_2052.wr W2075
      have f2083 := f2070.other W2075 (Ne.symm n_a3_a4)
      have f2084 := f2071.wr W2075 g_a3
      have f2085 := f2072.other W2075 n_a2_a3
      have f2086 := F_heap_2052.other W2075 (Or.inl n_a1_a3)
      have f2087 := F_heapSize_2052.other W2075 (Or.inl n_a1_a3)
      have f2088 := F_gone_2052.other W2075 (Or.inl n_a1_a3)
      have f2089 := F_disordered_2052.other W2075 (Or.inl n_a1_a3)
      have f2090 := F_fresh_2052.other W2075 (Or.inl n_a1_a3)
      have f2091 := F_freshSize_2052.other W2075 (Or.inl n_a1_a3)
      have f2092 := F_size_2052.other W2075 (Or.inl n_a1_a3)
      have f2093 := VF_2052.other W2075 (Ne.symm n_a3_FA)
      have f2094 := P_x0_2052.other W2075 (Or.inl (Ne.symm n_a3_x0))
      have f2095 := P_x1_2052.other W2075 (Or.inl (Ne.symm n_a3_x1))
      have N2075 := Fr.snoc X2075 N2052 g_a3
      refine Goes.of st2075 ?_
      show Goes p e below (T2075.setTop (mkF m 102 #[.val (.ref a1), .val (.ref a2), .val (.ref a3), .val (.ref a4), .val (.int p5), .val (.int (1 : Int32)), .unset, .unset, .unset] [])) _
      refine Goes.of (fun t k => XS.aloadN X2075.here hx rfl (hb hby d9_102) rfl rfl k) ?_
      show Goes p e below (T2075.setTop (mkF m 103 #[.val (.ref a1), .val (.ref a2), .val (.ref a3), .val (.ref a4), .val (.int p5), .val (.int (1 : Int32)), .unset, .unset, .unset] [(.ref a4)])) _
      refine Goes.of (fun t k => XS.iconst X2075.here hx rfl (hb hby d9_103) k) ?_
      show Goes p e below (T2075.setTop (mkF m 104 #[.val (.ref a1), .val (.ref a2), .val (.ref a3), .val (.ref a4), .val (.int p5), .val (.int (1 : Int32)), .unset, .unset, .unset] [(.int (0 : Int32)), (.ref a4)])) _
      refine Goes.of (fun t k => XS.aloadN X2075.here hx rfl (hb hby d9_104) rfl rfl k) ?_
      show Goes p e below (T2075.setTop (mkF m 105 #[.val (.ref a1), .val (.ref a2), .val (.ref a3), .val (.ref a4), .val (.int p5), .val (.int (1 : Int32)), .unset, .unset, .unset] [(.ref a4), (.int (0 : Int32)), (.ref a4)])) _
      refine Goes.of (fun t k => XS.iconst X2075.here hx rfl (hb hby d9_105) k) ?_
      have Vc2096 := f2083
      obtain ⟨clc2096, Arc2096, qc2096, Sc2096, Nc2096, Hc2096, Gc2096⟩ := Vc2096
      have hin2097 : ¬ ((0 : Int32) < 0 ∨ clc2096.slots.size ≤ ((0 : Int32)).toNatClampNeg) := inb_of Sc2096 ⟨by decide, by decide⟩
      have hat2098 : clc2096.slots[((0 : Int32)).toNatClampNeg]? = some (.int (2 : Int32)) := Hc2096.at hin2097 rfl
      refine Goes.of (fun t k => X2075.iaload hx (j := (0 : Int32)) (v := (.int (2 : Int32))) (by rw [e2075]; exact Arc2096.1) (State.isArrayOf_alike hZ.alike Arc2096.2.1) Arc2096.2.2 hin2097 hat2098 (g := (mkF m 106 #[.val (.ref a1), .val (.ref a2), .val (.ref a3), .val (.ref a4), .val (.int p5), .val (.int (1 : Int32)), .unset, .unset, .unset] [(.int (0 : Int32)), (.ref a4), (.int (0 : Int32)), (.ref a4)])) rfl rfl (hb hby d9_106) _ k) ?_
      show Goes p e below (T2075.setTop (mkF m 107 #[.val (.ref a1), .val (.ref a2), .val (.ref a3), .val (.ref a4), .val (.int p5), .val (.int (1 : Int32)), .unset, .unset, .unset] [(.int (2 : Int32)), (.int (0 : Int32)), (.ref a4)])) _
      refine Goes.of (fun t k => XS.iconst X2075.here hx rfl (hb hby d9_107) k) ?_
      show Goes p e below (T2075.setTop (mkF m 108 #[.val (.ref a1), .val (.ref a2), .val (.ref a3), .val (.ref a4), .val (.int p5), .val (.int (1 : Int32)), .unset, .unset, .unset] [(.int (1 : Int32)), (.int (2 : Int32)), (.int (0 : Int32)), (.ref a4)])) _
      refine Goes.of (fun t k => XS.isub X2075.here hx rfl (hb hby d9_108) rfl k) ?_
      have Vc2099 := f2083
      obtain ⟨clc2099, Arc2099, qc2099, Sc2099, Nc2099, Hc2099, Gc2099⟩ := Vc2099
      have hin2100 : ¬ ((0 : Int32) < 0 ∨ clc2099.slots.size ≤ ((0 : Int32)).toNatClampNeg) := inb_of Sc2099 ⟨by decide, by decide⟩
      obtain ⟨T2101, h2101, X2101, e2101, W2101, st2101⟩ := stI X2075 hx hZ e2075 Arc2099 (j := (0 : Int32)) hin2100 (g := (mkF m 109 #[.val (.ref a1), .val (.ref a2), .val (.ref a3), .val (.ref a4), .val (.int p5), .val (.int (1 : Int32)), .unset, .unset, .unset] [(.int (1 : Int32)), (.int (0 : Int32)), (.ref a4)])) rfl rfl (hb hby d9_109)
      have V2101 : Arv Z h2101 a4 kC .int (1 : Int32) [(.int (1 : Int32))] (.int (0 : Int32)) := Arv.set Arc2099 qc2099 Sc2099 Nc2099 Hc2099 Gc2099 rfl W2101 0 rfl (Nat.le_of_ble_eq_true rfl)
      have K2102 : Keep h0 h2101 [a1, a3, a4, HA, FA, x0, x1] := K2076.wr W2101 (Or.inl (List.mem_of_getElem? (i := 2) rfl))
      have z2103 : n0 ≤ h2101.size := Nat.le_trans z2077 (Keep.of_wr W2101).1
      have f2104 := f2078.wr W2101
      have f2105 := f2079.other W2101 (Ne.symm n_a4_HA)
      have f2106 := f2080.wr W2101
      have f2107 := f2081.wr W2101
      have f2108 := V2075.other W2101 n_a3_a4
      have f2110 := f2084.wr W2101 g_a4
      have f2111 := f2085.other W2101 n_a2_a4
      have f2112 := f2086.other W2101 (Or.inl n_a1_a4)
      have f2113 := f2087.other W2101 (Or.inl n_a1_a4)
      have f2114 := f2088.other W2101 (Or.inl n_a1_a4)
      have f2115 := f2089.other W2101 (Or.inl n_a1_a4)
      have f2116 := f2090.other W2101 (Or.inl n_a1_a4)
      have f2117 := f2091.other W2101 (Or.inl n_a1_a4)
      have f2118 := f2092.other W2101 (Or.inl n_a1_a4)
      have f2119 := f2093.other W2101 (Ne.symm n_a4_FA)
      have f2120 := f2094.other W2101 (Or.inl (Ne.symm n_a4_x0))
      have f2121 := f2095.other W2101 (Or.inl (Ne.symm n_a4_x1))
      have N2101 := Fr.snoc X2101 N2075 g_a4
      refine Goes.of st2101 ?_
      show Goes p e below (T2101.setTop (mkF m 110 #[.val (.ref a1), .val (.ref a2), .val (.ref a3), .val (.ref a4), .val (.int p5), .val (.int (1 : Int32)), .unset, .unset, .unset] [])) _
      refine Goes.of (fun t k => XS.goto X2101.here hx rfl (pc0 := 110) (pc' := 134) rfl (hb hby d9_110) (by decide) (by decide) k) ?_
      show Goes p e below (T2101.setTop (mkF m 134 #[.val (.ref a1), .val (.ref a2), .val (.ref a3), .val (.ref a4), .val (.int p5), .val (.int (1 : Int32)), .unset, .unset, .unset] [])) _
      refine Goes.of (fun t k => XS.aloadN X2101.here hx rfl (hb hby d9_134) rfl rfl k) ?_
      obtain ⟨cq2122, kq2122, q2122a, q2122b, q2122c⟩ := isOf hZ e2101 f2104
      obtain ⟨_, _, ⟨T2122, L2122, k2122, n2122⟩, -, X2122, ⟨Lc2122, hQ2122, l2122, y2122, z2122⟩, st2122⟩ := X2101.virtualBack hx (y := (⟨"com/example/ripplematch/ripplematch/core/Agenda", "isEmpty", "()Z"⟩ : MethodName)) (z := (⟨"com/example/ripplematch/ripplematch/core/Agenda", "isEmpty", "()Z"⟩ : MethodName)) hown (mvT hZ (wd hw 64 rfl)) (mvT hZ (wd hw 65 rfl)) (notFace_of_selects (args := #[]) (mvT hZ (wd hw 67 rfl))) (mvT hZ (wd hw 67 rfl)) (mvT hZ (wd hw 66 rfl)) (by decide) (backOf (W := 0) (rm8 l Z a0 hw [] a1 (1 : Int32) h2101 n0 z2103 f2118) hZ (wd hw 68 rfl) (wd hw 2 rfl) (by decide) (by decide)) q2122a q2122c (g := (mkF m 135 #[.val (.ref a1), .val (.ref a2), .val (.ref a3), .val (.ref a4), .val (.int p5), .val (.int (1 : Int32)), .unset, .unset, .unset] [(.ref a1)])) rfl (by rw [hml]; rfl) (Steps.refl _) (argsL := []) (rest := []) (lenOf pd_6 rfl) rfl (by show 2 * 0 + _ ≤ _; exact Nat.le_of_eq rfl) (hb hby d9_135) (fun _ _ => ⟨rfl, e2101, (by decide : 0 + 0 ≤ _), (by decide : 0 + 0 ≤ _)⟩)
      dsimp only [Pt.U, Pt.locs, Pt.cells, Pt.slots] at X2122 l2122 y2122 z2122 st2122 hQ2122
      subst l2122 y2122 z2122
      obtain ⟨rfl, N2122q, e2122⟩ := hQ2122
      have N2122 := Fr.app N2101 N2122q
      refine Goes.of (fun t k => st2122.trans k) ?_
      show Goes p e below (T2122.setTop (mkF m 138 #[.val (.ref a1), .val (.ref a2), .val (.ref a3), .val (.ref a4), .val (.int p5), .val (.int (1 : Int32)), .unset, .unset, .unset] [(.int (0 : Int32))])) _
      refine Goes.of (fun t k => XS.aloadN X2122.here hx rfl (hb hby d9_138) rfl rfl k) ?_
      show Goes p e below (T2122.setTop (mkF m 139 #[.val (.ref a1), .val (.ref a2), .val (.ref a3), .val (.ref a4), .val (.int p5), .val (.int (1 : Int32)), .unset, .unset, .unset] [(.ref a4), (.int (0 : Int32))])) _
      refine Goes.of (fun t k => XS.iconst X2122.here hx rfl (hb hby d9_139) k) ?_
      have Vc2123 := V2101
      obtain ⟨clc2123, Arc2123, qc2123, Sc2123, Nc2123, Hc2123, Gc2123⟩ := Vc2123
      have hin2124 : ¬ ((0 : Int32) < 0 ∨ clc2123.slots.size ≤ ((0 : Int32)).toNatClampNeg) := inb_of Sc2123 ⟨by decide, by decide⟩
      have hat2125 : clc2123.slots[((0 : Int32)).toNatClampNeg]? = some (.int (1 : Int32)) := Hc2123.at hin2124 rfl
      refine Goes.of (fun t k => X2122.iaload hx (j := (0 : Int32)) (v := (.int (1 : Int32))) (by rw [e2122]; exact Arc2123.1) (State.isArrayOf_alike hZ.alike Arc2123.2.1) Arc2123.2.2 hin2124 hat2125 (g := (mkF m 140 #[.val (.ref a1), .val (.ref a2), .val (.ref a3), .val (.ref a4), .val (.int p5), .val (.int (1 : Int32)), .unset, .unset, .unset] [(.int (0 : Int32)), (.ref a4), (.int (0 : Int32))])) rfl rfl (hb hby d9_140) _ k) ?_
      show Goes p e below (T2122.setTop (mkF m 141 #[.val (.ref a1), .val (.ref a2), .val (.ref a3), .val (.ref a4), .val (.int p5), .val (.int (1 : Int32)), .unset, .unset, .unset] [(.int (1 : Int32)), (.int (0 : Int32))])) _
      refine Goes.of (fun t k => XS.ifYes X2122.here hx rfl (pc0 := 141) (pc' := 148) rfl (hb hby d9_141) rfl ((if0 _ _).trans (feq (by decide)).2) (by decide) (by decide) k) ?_
      show Goes p e below (T2122.setTop (mkF m 148 #[.val (.ref a1), .val (.ref a2), .val (.ref a3), .val (.ref a4), .val (.int p5), .val (.int (1 : Int32)), .unset, .unset, .unset] [(.int (0 : Int32))])) _
      refine Goes.of (fun t k => XS.iconst X2122.here hx rfl (hb hby d9_148) k) ?_
      show Goes p e below (T2122.setTop (mkF m 149 #[.val (.ref a1), .val (.ref a2), .val (.ref a3), .val (.ref a4), .val (.int p5), .val (.int (1 : Int32)), .unset, .unset, .unset] [(.int (0 : Int32)), (.int (0 : Int32))])) _
      refine Goes.of (fun t k => XS.icmpNo X2122.here hx rfl (hb hby d9_149) rfl (teq (by decide)).2 k) ?_
      show Goes p e below (T2122.setTop (mkF m 152 #[.val (.ref a1), .val (.ref a2), .val (.ref a3), .val (.ref a4), .val (.int p5), .val (.int (1 : Int32)), .unset, .unset, .unset] [])) _
      refine Goes.of (fun t k => XS.iconst X2122.here hx rfl (hb hby d9_152) k) ?_
      show Goes p e below (T2122.setTop (mkF m 153 #[.val (.ref a1), .val (.ref a2), .val (.ref a3), .val (.ref a4), .val (.int p5), .val (.int (1 : Int32)), .unset, .unset, .unset] [(.int (1 : Int32))])) _
      refine Goes.of (fun t k => XS.goto X2122.here hx rfl (pc0 := 153) (pc' := 157) rfl (hb hby d9_153) (by decide) (by decide) k) ?_
      show Goes p e below (T2122.setTop (mkF m 157 #[.val (.ref a1), .val (.ref a2), .val (.ref a3), .val (.ref a4), .val (.int p5), .val (.int (1 : Int32)), .unset, .unset, .unset] [(.int (1 : Int32))])) _
      have eh : T2122.heap = h2101 := e2122
      exact Goes.retN (t := .boolean) X2122 hx Bd.returns (by simp) hlocks (hb hby d9_157) (⟨rfl, N2122, by rw [eh]; exact K2102, Or.inr (Or.inl ⟨by rw [eh]; exact f2104, by rw [eh]; exact f2112, by rw [eh]; exact f2113, by rw [eh]; exact f2114, by rw [eh]; exact f2115, by rw [eh]; exact f2116, by rw [eh]; exact f2117, by rw [eh]; exact f2118, by rw [eh]; exact f2105, by rw [eh]; exact f2119, by rw [eh]; exact f2106, by rw [eh]; exact f2120, by rw [eh]; exact f2107, by rw [eh]; exact f2121, by rw [eh]; exact f2108, by rw [eh]; exact V2101⟩)⟩) (by decide) (by decide)
theorem ef_9_2126 (m : MethodId) (x0 : Addr) (x1 : Addr) (x2 : Addr) (x3 : Addr) (x4 : Int32) : entryFrame m #[(.ref x0), (.ref x1), (.ref x2), (.ref x3), (.int x4)] 9 = mkF m 0 #[.val (.ref x0), .val (.ref x1), .val (.ref x2), .val (.ref x3), .val (.int x4), .unset, .unset, .unset, .unset] [] := by first | (simp [entryFrame, mkF, argsToLocals, Value.category]; done) | rfl
def Q9_2126 (Z : State) (a1 : Addr) (a2 : Addr) (a3 : Addr) (a4 : Addr) (p5 : Int32) (HA : Addr) (FA : Addr) (x0 : Addr) (x1 : Addr) (kH : ClassId) (kF : ClassId) (kO : ClassId) (kC : ClassId) (kT : ClassId) (h0 : Heap) (n0 : Nat) (v : Option Value) (h : Heap) (L : List Loc) : Prop := v = some (.int 1) ∧ Fr n0 L ∧ Keep h0 h [a1, a3, a4, HA, FA, x0, x1] ∧ own_st Z h a1 a2 a3 a4 HA FA x0 x1 kH kF kO kC
set_option maxRecDepth 65536 in
set_option maxHeartbeats 40000000 in
theorem rm9_2126 (l : Launch) (Z : State) (a0 : Array Value) (hw : ∀ d ∈ tables_1, d.before a0 Z = true) (ws : List Jvm.Cond) (a1 : Addr) (a2 : Addr) (a3 : Addr) (a4 : Addr) (p5 : Int32) (HA : Addr) (FA : Addr) (x0 : Addr) (x1 : Addr) (kH : ClassId) (kF : ClassId) (kO : ClassId) (kC : ClassId) (kT : ClassId) (h0 : Heap) (n0 : Nat) (Z0 : n0 ≤ h0.size) (O0 : Old Z n0 h0) (SA : Sta Z Z.heap "com/example/ripplematch/ripplematch/core/Agenda" "$assertionsDisabled" "Z" (.int (1 : Int32))) (E : Exa Z h0 a1 "com/example/ripplematch/ripplematch/core/Agenda") (F_heap : Fld Z h0 a1 "com/example/ripplematch/ripplematch/core/Agenda" "heap" "[Lcom/example/ripplematch/ripplematch/core/Activation;" (.ref HA)) (F_heapSize : Fld Z h0 a1 "com/example/ripplematch/ripplematch/core/Agenda" "heapSize" "I" (.int (0 : Int32))) (F_gone : Fld Z h0 a1 "com/example/ripplematch/ripplematch/core/Agenda" "gone" "I" (.int (0 : Int32))) (F_disordered : Fld Z h0 a1 "com/example/ripplematch/ripplematch/core/Agenda" "disordered" "Z" (.int (0 : Int32))) (F_fresh : Fld Z h0 a1 "com/example/ripplematch/ripplematch/core/Agenda" "fresh" "[Lcom/example/ripplematch/ripplematch/core/Activation;" (.ref FA)) (F_freshSize : Fld Z h0 a1 "com/example/ripplematch/ripplematch/core/Agenda" "freshSize" "I" (.int (2 : Int32))) (F_size : Fld Z h0 a1 "com/example/ripplematch/ripplematch/core/Agenda" "size" "I" (.int (2 : Int32))) (VH : Arv Z h0 HA kH (.object "com/example/ripplematch/ripplematch/core/Activation") (16 : Int32) [.null, .null, .null, .null, .null, .null, .null, .null, .null, .null, .null, .null, .null, .null, .null, .null] .null) (VF : Arv Z h0 FA kF (.object "com/example/ripplematch/ripplematch/core/Activation") (16 : Int32) [(.ref x1), (.ref x0), .null, .null, .null, .null, .null, .null, .null, .null, .null, .null, .null, .null, .null, .null] .null) (E_x0 : Exa Z h0 x0 "com/example/ripplematch/ripplematch/core/Activation") (P_x0 : Fld Z h0 x0 "com/example/ripplematch/ripplematch/core/Activation" "place" "I" (.int (-3 : Int32))) (E_x1 : Exa Z h0 x1 "com/example/ripplematch/ripplematch/core/Activation") (P_x1 : Fld Z h0 x1 "com/example/ripplematch/ripplematch/core/Activation" "place" "I" (.int (-2 : Int32))) (VO : Arv Z h0 a3 kO .boolean (2 : Int32) [(.int (1 : Int32)), (.int (1 : Int32))] (.int (0 : Int32))) (VC : Arv Z h0 a4 kC .int (1 : Int32) [(.int (2 : Int32))] (.int (0 : Int32))) (VT : Arv Z h0 a2 kT (.object "com/example/ripplematch/ripplematch/core/Activation") (2 : Int32) [(.ref x0), (.ref x1)] .null) (g_a1 : n0 ≤ a1) (g_a3 : n0 ≤ a3) (g_a4 : n0 ≤ a4) (g_HA : n0 ≤ HA) (g_FA : n0 ≤ FA) (g_x0 : n0 ≤ x0) (g_x1 : n0 ≤ x1) (n_a1_a2 : a1 ≠ a2) (n_a1_a3 : a1 ≠ a3) (n_a1_a4 : a1 ≠ a4) (n_a1_HA : a1 ≠ HA) (n_a1_FA : a1 ≠ FA) (n_a1_x0 : a1 ≠ x0) (n_a1_x1 : a1 ≠ x1) (n_a2_a3 : a2 ≠ a3) (n_a2_a4 : a2 ≠ a4) (n_a2_HA : a2 ≠ HA) (n_a2_FA : a2 ≠ FA) (n_a2_x0 : a2 ≠ x0) (n_a2_x1 : a2 ≠ x1) (n_a3_a4 : a3 ≠ a4) (n_a3_HA : a3 ≠ HA) (n_a3_FA : a3 ≠ FA) (n_a3_x0 : a3 ≠ x0) (n_a3_x1 : a3 ≠ x1) (n_a4_HA : a4 ≠ HA) (n_a4_FA : a4 ≠ FA) (n_a4_x0 : a4 ≠ x0) (n_a4_x1 : a4 ≠ x1) (n_HA_FA : HA ≠ FA) (n_HA_x0 : HA ≠ x0) (n_HA_x1 : HA ≠ x1) (n_FA_x0 : FA ≠ x0) (n_FA_x1 : FA ≠ x1) (n_x0_x1 : x0 ≠ x1) (OH : Ovr Z kH "com/example/ripplematch/ripplematch/core/Activation") (OF : Ovr Z kF "com/example/ripplematch/ripplematch/core/Activation") :
    MetFree l (⟨"com/example/ripplematch/ripplematch/core/AgendaIsEmptyPinLaw", "step", "(Lcom/example/ripplematch/ripplematch/core/Agenda;[Lcom/example/ripplematch/ripplematch/core/Activation;[Z[II)Z"⟩ : MethodName) (head1 (Jvm.Cond.code (⟨"com/example/ripplematch/ripplematch/core/AgendaIsEmptyPinLaw", "step", "(Lcom/example/ripplematch/ripplematch/core/Agenda;[Lcom/example/ripplematch/ripplematch/core/Activation;[Z[II)Z"⟩ : MethodName) method_3_code 9 (some .boolean) :: ws) ({ frames := 4, cells := 0, slots := 0, locals := 60 } : Room)) (fun a U => a = #[(.ref a1), (.ref a2), (.ref a3), (.ref a4), (.int p5)] ∧ Z.Warmed39 U.vm ∧ U.heap = h0) (fun _ _ _ _ _ => True) (fun _ U o U' => ∃ v L, o = .returned v ∧ Q9_2126 Z a1 a2 a3 a4 p5 HA FA x0 x1 kH kF kO kC kT h0 n0 v U'.heap L ∧ FrameEnd U o U' L ({ frames := 4, cells := 0, slots := 0, locals := 60 } : Room).cells ({ frames := 4, cells := 0, slots := 0, locals := 60 } : Room).slots) := by
  refine MetFree.of_bodySF (plainFor_of_name pn_4) hisR ?_
  intro p e s m args below meth c s₁ Bd hml0 hP hK
  obtain ⟨rfl, hZ, hh⟩ := hP
  have hx := Bd.exec
  have hby := Bd.bytes
  have hml : c.maxLocals = 9 := hml0
  have hown : s.vm.findClass "com/example/ripplematch/ripplematch/core/AgendaIsEmptyPinLaw" = some m.cls := findClass_of_methodNamed Bd.named
  have hnm := (name_of_methodNamed Bd.named Bd.method).1
  have hlocks : meth.locks = false := BodyLoose.notSynchronized Bd
  have X0 : Stand p l e ({ frames := 4, cells := 0, slots := 0, locals := 60 } : Room) s m #[(.ref a1), (.ref a2), (.ref a3), (.ref a4), (.int p5)] below meth c s₁ [] 0 0 := Stand.of_body Bd
  have e0 : s₁.heap = h0 := by rw [← hh, Bd.state]; rfl
  have N0 := Fr.nil n0
  show Goes p e below (s₁.setTop (entryFrame m #[(.ref a1), (.ref a2), (.ref a3), (.ref a4), (.int p5)] 9)) (Fin s (Q9_2126 Z a1 a2 a3 a4 p5 HA FA x0 x1 kH kF kO kC kT h0 n0) ({ frames := 4, cells := 0, slots := 0, locals := 60 } : Room).cells ({ frames := 4, cells := 0, slots := 0, locals := 60 } : Room).slots)
  refine Goes.of (fun t k => castTop (ef_9_2126 m a1 a2 a3 a4 p5) k) ?_
  have K0 : Keep h0 h0 [a1, a3, a4, HA, FA, x0, x1] := Keep.refl _ _
  show Goes p e below (s₁.setTop (mkF m 0 #[.val (.ref a1), .val (.ref a2), .val (.ref a3), .val (.ref a4), .val (.int p5), .unset, .unset, .unset, .unset] [])) _
  refine Goes.of (fun t k => XS.iload X0.here hx rfl (hb hby d9_0) rfl k) ?_
  show Goes p e below (s₁.setTop (mkF m 2 #[.val (.ref a1), .val (.ref a2), .val (.ref a3), .val (.ref a4), .val (.int p5), .unset, .unset, .unset, .unset] [(.int p5)])) _
  refine Goes.of (fun t k => XS.iconst X0.here hx rfl (hb hby d9_2) k) ?_
  show Goes p e below (s₁.setTop (mkF m 3 #[.val (.ref a1), .val (.ref a2), .val (.ref a3), .val (.ref a4), .val (.int p5), .unset, .unset, .unset, .unset] [(.int (1 : Int32)), (.int p5)])) _
  refine Goes.of (fun t k => XS.iand X0.here hx rfl (hb hby d9_3) rfl k) ?_
  show Goes p e below (s₁.setTop (mkF m 4 #[.val (.ref a1), .val (.ref a2), .val (.ref a3), .val (.ref a4), .val (.int p5), .unset, .unset, .unset, .unset] [(.int (p5 &&& (1 : Int32)))])) _
  refine Goes.of (fun t k => XS.istore X0.here hx rfl (hb hby d9_4) rfl (l' := #[.val (.ref a1), .val (.ref a2), .val (.ref a3), .val (.ref a4), .val (.int p5), .val (.int (p5 &&& (1 : Int32))), .unset, .unset, .unset]) rfl k) ?_
  show Goes p e below (s₁.setTop (mkF m 6 #[.val (.ref a1), .val (.ref a2), .val (.ref a3), .val (.ref a4), .val (.int p5), .val (.int (p5 &&& (1 : Int32))), .unset, .unset, .unset] [])) _
  rcases own_and1 p5 with hi | hi
  · rw [hi]
    show Goes p e below (s₁.setTop (mkF m 6 #[.val (.ref a1), .val (.ref a2), .val (.ref a3), .val (.ref a4), .val (.int p5), .val (.int (0 : Int32)), .unset, .unset, .unset] [])) _
    refine Goes.of (fun t k => XS.iload X0.here hx rfl (hb hby d9_6) rfl k) ?_
    show Goes p e below (s₁.setTop (mkF m 8 #[.val (.ref a1), .val (.ref a2), .val (.ref a3), .val (.ref a4), .val (.int p5), .val (.int (0 : Int32)), .unset, .unset, .unset] [(.int p5)])) _
    refine Goes.of (fun t k => XS.iconst X0.here hx rfl (hb hby d9_8) k) ?_
    show Goes p e below (s₁.setTop (mkF m 9 #[.val (.ref a1), .val (.ref a2), .val (.ref a3), .val (.ref a4), .val (.int p5), .val (.int (0 : Int32)), .unset, .unset, .unset] [(.int (2 : Int32)), (.int p5)])) _
    refine Goes.of (fun t k => XS.iand X0.here hx rfl (hb hby d9_9) rfl k) ?_
    show Goes p e below (s₁.setTop (mkF m 10 #[.val (.ref a1), .val (.ref a2), .val (.ref a3), .val (.ref a4), .val (.int p5), .val (.int (0 : Int32)), .unset, .unset, .unset] [(.int (p5 &&& (2 : Int32)))])) _
    by_cases hc10_2127 : (p5 &&& (2 : Int32)) = (0 : Int32)
    · refine Goes.of (fun t k => XS.ifYes X0.here hx rfl (pc0 := 10) (pc' := 82) rfl (hb hby d9_10) rfl ((if0 _ _).trans (teq hc10_2127).1) (by decide) (by decide) k) ?_
      show Goes p e below (s₁.setTop (mkF m 82 #[.val (.ref a1), .val (.ref a2), .val (.ref a3), .val (.ref a4), .val (.int p5), .val (.int (0 : Int32)), .unset, .unset, .unset] [])) _
      refine Goes.of (fun t k => XS.aloadN X0.here hx rfl (hb hby d9_82) rfl rfl k) ?_
      show Goes p e below (s₁.setTop (mkF m 83 #[.val (.ref a1), .val (.ref a2), .val (.ref a3), .val (.ref a4), .val (.int p5), .val (.int (0 : Int32)), .unset, .unset, .unset] [(.ref a3)])) _
      refine Goes.of (fun t k => XS.iload X0.here hx rfl (hb hby d9_83) rfl k) ?_
      have Vc2128 := VO
      obtain ⟨clc2128, Arc2128, qc2128, Sc2128, Nc2128, Hc2128, Gc2128⟩ := Vc2128
      have hin2129 : ¬ ((0 : Int32) < 0 ∨ clc2128.slots.size ≤ ((0 : Int32)).toNatClampNeg) := inb_of Sc2128 ⟨by decide, by decide⟩
      have hat2130 : clc2128.slots[((0 : Int32)).toNatClampNeg]? = some (.int (1 : Int32)) := Hc2128.at hin2129 rfl
      refine Goes.of (fun t k => X0.baloadBooleans hx (j := (0 : Int32)) (v := (.int (1 : Int32))) (by rw [e0]; exact Arc2128.1) (State.isArrayOf_alike hZ.alike Arc2128.2.1) Arc2128.2.2 hin2129 hat2130 (g := (mkF m 85 #[.val (.ref a1), .val (.ref a2), .val (.ref a3), .val (.ref a4), .val (.int p5), .val (.int (0 : Int32)), .unset, .unset, .unset] [(.int (0 : Int32)), (.ref a3)])) rfl rfl (hb hby d9_85) _ k) ?_
      show Goes p e below (s₁.setTop (mkF m 86 #[.val (.ref a1), .val (.ref a2), .val (.ref a3), .val (.ref a4), .val (.int p5), .val (.int (0 : Int32)), .unset, .unset, .unset] [(.int (1 : Int32))])) _
      refine Goes.of (fun t k => XS.ifNo X0.here hx rfl (hb hby d9_86) rfl ((if0 _ _).trans (feq (by decide)).1) k) ?_
      show Goes p e below (s₁.setTop (mkF m 89 #[.val (.ref a1), .val (.ref a2), .val (.ref a3), .val (.ref a4), .val (.int p5), .val (.int (0 : Int32)), .unset, .unset, .unset] [])) _
      refine Goes.of (fun t k => XS.aloadN X0.here hx rfl (hb hby d9_89) rfl rfl k) ?_
      show Goes p e below (s₁.setTop (mkF m 90 #[.val (.ref a1), .val (.ref a2), .val (.ref a3), .val (.ref a4), .val (.int p5), .val (.int (0 : Int32)), .unset, .unset, .unset] [(.ref a1)])) _
      refine Goes.of (fun t k => XS.aloadN X0.here hx rfl (hb hby d9_90) rfl rfl k) ?_
      show Goes p e below (s₁.setTop (mkF m 91 #[.val (.ref a1), .val (.ref a2), .val (.ref a3), .val (.ref a4), .val (.int p5), .val (.int (0 : Int32)), .unset, .unset, .unset] [(.ref a2), (.ref a1)])) _
      refine Goes.of (fun t k => XS.iload X0.here hx rfl (hb hby d9_91) rfl k) ?_
      have Vc2131 := VT
      obtain ⟨clc2131, Arc2131, qc2131, Sc2131, Nc2131, Hc2131, Gc2131⟩ := Vc2131
      have hin2132 : ¬ ((0 : Int32) < 0 ∨ clc2131.slots.size ≤ ((0 : Int32)).toNatClampNeg) := inb_of Sc2131 ⟨by decide, by decide⟩
      have hat2133 : clc2131.slots[((0 : Int32)).toNatClampNeg]? = some (.ref x0) := Hc2131.at hin2132 rfl
      refine Goes.of (fun t k => X0.aaload hx (j := (0 : Int32)) (v := (.ref x0)) (by rw [e0]; exact Arc2131.1) (State.isArrayOf_alike hZ.alike Arc2131.2.1) rfl Arc2131.2.2 hin2132 hat2133 (g := (mkF m 93 #[.val (.ref a1), .val (.ref a2), .val (.ref a3), .val (.ref a4), .val (.int p5), .val (.int (0 : Int32)), .unset, .unset, .unset] [(.int (0 : Int32)), (.ref a2), (.ref a1)])) rfl rfl (hb hby d9_93) _ k) ?_
      obtain ⟨cq2134, kq2134, q2134a, q2134b, q2134c⟩ := isOf hZ e0 E
      obtain ⟨_, _, ⟨T2134, L2134, k2134, n2134⟩, -, X2134, ⟨Lc2134, hQ2134, l2134, y2134, z2134⟩, st2134⟩ := X0.virtualBack hx (y := (⟨"com/example/ripplematch/ripplematch/core/Agenda", "remove", "(Lcom/example/ripplematch/ripplematch/core/Activation;)V"⟩ : MethodName)) (z := (⟨"com/example/ripplematch/ripplematch/core/Agenda", "remove", "(Lcom/example/ripplematch/ripplematch/core/Activation;)V"⟩ : MethodName)) hown (mvT hZ (wd hw 85 rfl)) (mvT hZ (wd hw 86 rfl)) (notFace_of_selects (args := #[]) (mvT hZ (wd hw 88 rfl))) (mvT hZ (wd hw 88 rfl)) (mvT hZ (wd hw 87 rfl)) (by decide) (backOf (W := 0) (rm11_704 l Z a0 hw [] a1 x0 HA FA x1 _ _ h0 n0 Z0 O0 SA E F_heap F_heapSize F_gone F_disordered F_fresh F_freshSize F_size VH VF E_x1 P_x1 E_x0 P_x0 g_a1 g_HA g_FA g_x1 g_x0 n_a1_HA n_a1_FA n_a1_x1 n_a1_x0 n_HA_FA n_HA_x1 n_HA_x0 n_FA_x1 n_FA_x0 (Ne.symm n_x0_x1) OH OF) hZ (wd hw 89 rfl) (wd hw 2 rfl) (by decide) (by decide)) q2134a q2134c (g := (mkF m 94 #[.val (.ref a1), .val (.ref a2), .val (.ref a3), .val (.ref a4), .val (.int p5), .val (.int (0 : Int32)), .unset, .unset, .unset] [(.ref x0), (.ref a1)])) rfl (by rw [hml]; rfl) (Steps.refl _) (argsL := [(.ref x0)]) (rest := []) (lenOf pd_5 rfl) rfl (by show 2 * 0 + _ ≤ _; exact Nat.le_of_eq rfl) (hb hby d9_94) (fun _ _ => ⟨rfl, e0, (by decide : 0 + 0 ≤ _), (by decide : 0 + 0 ≤ _)⟩)
      dsimp only [Pt.U, Pt.locs, Pt.cells, Pt.slots] at X2134 l2134 y2134 z2134 st2134 hQ2134
      subst l2134 y2134 z2134
      obtain ⟨rfl, N2134q, K2134, E_2134, F_heap_2134, F_heapSize_2134, F_gone_2134, F_disordered_2134, F_fresh_2134, F_freshSize_2134, F_size_2134, VH_2134, VF_2134, E_x1_2134, P_x1_2134, E_x0_2134, P_x0_2134⟩ := hQ2134
      have N2134 := Fr.app N0 N2134q
      have K2135 : Keep h0 T2134.heap [a1, a3, a4, HA, FA, x0, x1] := K0.trans K2134 (allS (Or.inl (List.mem_of_getElem? (i := 0) rfl)) (allS (Or.inl (List.mem_of_getElem? (i := 4) rfl)) (allS (Or.inl (List.mem_of_getElem? (i := 6) rfl)) (allS (Or.inl (List.mem_of_getElem? (i := 5) rfl)) all0))))
      have z2136 : n0 ≤ T2134.heap.size := Nat.le_trans Z0 K2134.1
      have f2137 := E.keep K2134
      have f2145 := VH.keep K2134 (ninS (Ne.symm n_a1_HA) (ninS n_HA_FA (ninS n_HA_x1 (ninS n_HA_x0 nin0))))
      have f2147 := E_x0.keep K2134
      have f2149 := E_x1.keep K2134
      have f2151 := VO.keep K2134 (ninS (Ne.symm n_a1_a3) (ninS n_a3_FA (ninS n_a3_x1 (ninS n_a3_x0 nin0))))
      have f2152 := VC.keep K2134 (ninS (Ne.symm n_a1_a4) (ninS n_a4_FA (ninS n_a4_x1 (ninS n_a4_x0 nin0))))
      have f2153 := O0.keep K2134 (allS g_a1 (allS g_FA (allS g_x1 (allS g_x0 all0))))
      have f2154 := VT.keep K2134 (ninS (Ne.symm n_a1_a2) (ninS n_a2_FA (ninS n_a2_x1 (ninS n_a2_x0 nin0))))
      refine Goes.of (fun t k => st2134.trans k) ?_
      show Goes p e below (T2134.setTop (mkF m 97 #[.val (.ref a1), .val (.ref a2), .val (.ref a3), .val (.ref a4), .val (.int p5), .val (.int (0 : Int32)), .unset, .unset, .unset] [])) _
      refine Goes.of (fun t k => XS.aloadN X2134.here hx rfl (hb hby d9_97) rfl rfl k) ?_
      show Goes p e below (T2134.setTop (mkF m 98 #[.val (.ref a1), .val (.ref a2), .val (.ref a3), .val (.ref a4), .val (.int p5), .val (.int (0 : Int32)), .unset, .unset, .unset] [(.ref a3)])) _
      refine Goes.of (fun t k => XS.iload X2134.here hx rfl (hb hby d9_98) rfl k) ?_
      show Goes p e below (T2134.setTop (mkF m 100 #[.val (.ref a1), .val (.ref a2), .val (.ref a3), .val (.ref a4), .val (.int p5), .val (.int (0 : Int32)), .unset, .unset, .unset] [(.int (0 : Int32)), (.ref a3)])) _
      refine Goes.of (fun t k => XS.iconst X2134.here hx rfl (hb hby d9_100) k) ?_
      have Vc2155 := f2151
      obtain ⟨clc2155, Arc2155, qc2155, Sc2155, Nc2155, Hc2155, Gc2155⟩ := Vc2155
      have hin2156 : ¬ ((0 : Int32) < 0 ∨ clc2155.slots.size ≤ ((0 : Int32)).toNatClampNeg) := inb_of Sc2155 ⟨by decide, by decide⟩
      obtain ⟨T2157, h2157, X2157, e2157, W2157, st2157⟩ := stZ X2134 hx hZ rfl Arc2155 (j := (0 : Int32)) hin2156 (g := (mkF m 101 #[.val (.ref a1), .val (.ref a2), .val (.ref a3), .val (.ref a4), .val (.int p5), .val (.int (0 : Int32)), .unset, .unset, .unset] [(.int (0 : Int32)), (.int (0 : Int32)), (.ref a3)])) rfl rfl (hb hby d9_101)
      have V2157 : Arv Z h2157 a3 kO .boolean (2 : Int32) [(.int (nar .boolean (0 : Int32))), (.int (1 : Int32))] (.int (0 : Int32)) := Arv.set Arc2155 qc2155 Sc2155 Nc2155 Hc2155 Gc2155 (fits_nar_bool _) W2157 0 rfl (Nat.le_of_ble_eq_true rfl)
      have K2158 : Keep h0 h2157 [a1, a3, a4, HA, FA, x0, x1] := K2135.wr W2157 (Or.inl (List.mem_of_getElem? (i := 1) rfl))
      have z2159 : n0 ≤ h2157.size := Nat.le_trans z2136 (Keep.of_wr W2157).1
      have f2160 := E_2134.wr W2157
      have f2161 := VH_2134.other W2157 (Ne.symm n_a3_HA)
      have f2162 := E_x0_2134.wr W2157
      have f2163 := E_x1_2134.wr W2157
      have f2165 := f2152.other W2157 (Ne.symm n_a3_a4)
      have f2166 := f2153.wr W2157 g_a3
      have f2167 := f2154.other W2157 n_a2_a3
      have f2168 := F_heap_2134.other W2157 (Or.inl n_a1_a3)
      have f2169 := F_heapSize_2134.other W2157 (Or.inl n_a1_a3)
      have f2170 := F_gone_2134.other W2157 (Or.inl n_a1_a3)
      have f2171 := F_disordered_2134.other W2157 (Or.inl n_a1_a3)
      have f2172 := F_fresh_2134.other W2157 (Or.inl n_a1_a3)
      have f2173 := F_freshSize_2134.other W2157 (Or.inl n_a1_a3)
      have f2174 := F_size_2134.other W2157 (Or.inl n_a1_a3)
      have f2175 := VF_2134.other W2157 (Ne.symm n_a3_FA)
      have f2176 := P_x1_2134.other W2157 (Or.inl (Ne.symm n_a3_x1))
      have f2177 := P_x0_2134.other W2157 (Or.inl (Ne.symm n_a3_x0))
      have N2157 := Fr.snoc X2157 N2134 g_a3
      refine Goes.of st2157 ?_
      show Goes p e below (T2157.setTop (mkF m 102 #[.val (.ref a1), .val (.ref a2), .val (.ref a3), .val (.ref a4), .val (.int p5), .val (.int (0 : Int32)), .unset, .unset, .unset] [])) _
      refine Goes.of (fun t k => XS.aloadN X2157.here hx rfl (hb hby d9_102) rfl rfl k) ?_
      show Goes p e below (T2157.setTop (mkF m 103 #[.val (.ref a1), .val (.ref a2), .val (.ref a3), .val (.ref a4), .val (.int p5), .val (.int (0 : Int32)), .unset, .unset, .unset] [(.ref a4)])) _
      refine Goes.of (fun t k => XS.iconst X2157.here hx rfl (hb hby d9_103) k) ?_
      show Goes p e below (T2157.setTop (mkF m 104 #[.val (.ref a1), .val (.ref a2), .val (.ref a3), .val (.ref a4), .val (.int p5), .val (.int (0 : Int32)), .unset, .unset, .unset] [(.int (0 : Int32)), (.ref a4)])) _
      refine Goes.of (fun t k => XS.aloadN X2157.here hx rfl (hb hby d9_104) rfl rfl k) ?_
      show Goes p e below (T2157.setTop (mkF m 105 #[.val (.ref a1), .val (.ref a2), .val (.ref a3), .val (.ref a4), .val (.int p5), .val (.int (0 : Int32)), .unset, .unset, .unset] [(.ref a4), (.int (0 : Int32)), (.ref a4)])) _
      refine Goes.of (fun t k => XS.iconst X2157.here hx rfl (hb hby d9_105) k) ?_
      have Vc2178 := f2165
      obtain ⟨clc2178, Arc2178, qc2178, Sc2178, Nc2178, Hc2178, Gc2178⟩ := Vc2178
      have hin2179 : ¬ ((0 : Int32) < 0 ∨ clc2178.slots.size ≤ ((0 : Int32)).toNatClampNeg) := inb_of Sc2178 ⟨by decide, by decide⟩
      have hat2180 : clc2178.slots[((0 : Int32)).toNatClampNeg]? = some (.int (2 : Int32)) := Hc2178.at hin2179 rfl
      refine Goes.of (fun t k => X2157.iaload hx (j := (0 : Int32)) (v := (.int (2 : Int32))) (by rw [e2157]; exact Arc2178.1) (State.isArrayOf_alike hZ.alike Arc2178.2.1) Arc2178.2.2 hin2179 hat2180 (g := (mkF m 106 #[.val (.ref a1), .val (.ref a2), .val (.ref a3), .val (.ref a4), .val (.int p5), .val (.int (0 : Int32)), .unset, .unset, .unset] [(.int (0 : Int32)), (.ref a4), (.int (0 : Int32)), (.ref a4)])) rfl rfl (hb hby d9_106) _ k) ?_
      show Goes p e below (T2157.setTop (mkF m 107 #[.val (.ref a1), .val (.ref a2), .val (.ref a3), .val (.ref a4), .val (.int p5), .val (.int (0 : Int32)), .unset, .unset, .unset] [(.int (2 : Int32)), (.int (0 : Int32)), (.ref a4)])) _
      refine Goes.of (fun t k => XS.iconst X2157.here hx rfl (hb hby d9_107) k) ?_
      show Goes p e below (T2157.setTop (mkF m 108 #[.val (.ref a1), .val (.ref a2), .val (.ref a3), .val (.ref a4), .val (.int p5), .val (.int (0 : Int32)), .unset, .unset, .unset] [(.int (1 : Int32)), (.int (2 : Int32)), (.int (0 : Int32)), (.ref a4)])) _
      refine Goes.of (fun t k => XS.isub X2157.here hx rfl (hb hby d9_108) rfl k) ?_
      have Vc2181 := f2165
      obtain ⟨clc2181, Arc2181, qc2181, Sc2181, Nc2181, Hc2181, Gc2181⟩ := Vc2181
      have hin2182 : ¬ ((0 : Int32) < 0 ∨ clc2181.slots.size ≤ ((0 : Int32)).toNatClampNeg) := inb_of Sc2181 ⟨by decide, by decide⟩
      obtain ⟨T2183, h2183, X2183, e2183, W2183, st2183⟩ := stI X2157 hx hZ e2157 Arc2181 (j := (0 : Int32)) hin2182 (g := (mkF m 109 #[.val (.ref a1), .val (.ref a2), .val (.ref a3), .val (.ref a4), .val (.int p5), .val (.int (0 : Int32)), .unset, .unset, .unset] [(.int (1 : Int32)), (.int (0 : Int32)), (.ref a4)])) rfl rfl (hb hby d9_109)
      have V2183 : Arv Z h2183 a4 kC .int (1 : Int32) [(.int (1 : Int32))] (.int (0 : Int32)) := Arv.set Arc2181 qc2181 Sc2181 Nc2181 Hc2181 Gc2181 rfl W2183 0 rfl (Nat.le_of_ble_eq_true rfl)
      have K2184 : Keep h0 h2183 [a1, a3, a4, HA, FA, x0, x1] := K2158.wr W2183 (Or.inl (List.mem_of_getElem? (i := 2) rfl))
      have z2185 : n0 ≤ h2183.size := Nat.le_trans z2159 (Keep.of_wr W2183).1
      have f2186 := f2160.wr W2183
      have f2187 := f2161.other W2183 (Ne.symm n_a4_HA)
      have f2188 := f2162.wr W2183
      have f2189 := f2163.wr W2183
      have f2190 := V2157.other W2183 n_a3_a4
      have f2192 := f2166.wr W2183 g_a4
      have f2193 := f2167.other W2183 n_a2_a4
      have f2194 := f2168.other W2183 (Or.inl n_a1_a4)
      have f2195 := f2169.other W2183 (Or.inl n_a1_a4)
      have f2196 := f2170.other W2183 (Or.inl n_a1_a4)
      have f2197 := f2171.other W2183 (Or.inl n_a1_a4)
      have f2198 := f2172.other W2183 (Or.inl n_a1_a4)
      have f2199 := f2173.other W2183 (Or.inl n_a1_a4)
      have f2200 := f2174.other W2183 (Or.inl n_a1_a4)
      have f2201 := f2175.other W2183 (Ne.symm n_a4_FA)
      have f2202 := f2176.other W2183 (Or.inl (Ne.symm n_a4_x1))
      have f2203 := f2177.other W2183 (Or.inl (Ne.symm n_a4_x0))
      have N2183 := Fr.snoc X2183 N2157 g_a4
      refine Goes.of st2183 ?_
      show Goes p e below (T2183.setTop (mkF m 110 #[.val (.ref a1), .val (.ref a2), .val (.ref a3), .val (.ref a4), .val (.int p5), .val (.int (0 : Int32)), .unset, .unset, .unset] [])) _
      refine Goes.of (fun t k => XS.goto X2183.here hx rfl (pc0 := 110) (pc' := 134) rfl (hb hby d9_110) (by decide) (by decide) k) ?_
      show Goes p e below (T2183.setTop (mkF m 134 #[.val (.ref a1), .val (.ref a2), .val (.ref a3), .val (.ref a4), .val (.int p5), .val (.int (0 : Int32)), .unset, .unset, .unset] [])) _
      refine Goes.of (fun t k => XS.aloadN X2183.here hx rfl (hb hby d9_134) rfl rfl k) ?_
      obtain ⟨cq2204, kq2204, q2204a, q2204b, q2204c⟩ := isOf hZ e2183 f2186
      obtain ⟨_, _, ⟨T2204, L2204, k2204, n2204⟩, -, X2204, ⟨Lc2204, hQ2204, l2204, y2204, z2204⟩, st2204⟩ := X2183.virtualBack hx (y := (⟨"com/example/ripplematch/ripplematch/core/Agenda", "isEmpty", "()Z"⟩ : MethodName)) (z := (⟨"com/example/ripplematch/ripplematch/core/Agenda", "isEmpty", "()Z"⟩ : MethodName)) hown (mvT hZ (wd hw 64 rfl)) (mvT hZ (wd hw 65 rfl)) (notFace_of_selects (args := #[]) (mvT hZ (wd hw 67 rfl))) (mvT hZ (wd hw 67 rfl)) (mvT hZ (wd hw 66 rfl)) (by decide) (backOf (W := 0) (rm8 l Z a0 hw [] a1 (1 : Int32) h2183 n0 z2185 f2200) hZ (wd hw 68 rfl) (wd hw 2 rfl) (by decide) (by decide)) q2204a q2204c (g := (mkF m 135 #[.val (.ref a1), .val (.ref a2), .val (.ref a3), .val (.ref a4), .val (.int p5), .val (.int (0 : Int32)), .unset, .unset, .unset] [(.ref a1)])) rfl (by rw [hml]; rfl) (Steps.refl _) (argsL := []) (rest := []) (lenOf pd_6 rfl) rfl (by show 2 * 0 + _ ≤ _; exact Nat.le_of_eq rfl) (hb hby d9_135) (fun _ _ => ⟨rfl, e2183, (by decide : 0 + 0 ≤ _), (by decide : 0 + 0 ≤ _)⟩)
      dsimp only [Pt.U, Pt.locs, Pt.cells, Pt.slots] at X2204 l2204 y2204 z2204 st2204 hQ2204
      subst l2204 y2204 z2204
      obtain ⟨rfl, N2204q, e2204⟩ := hQ2204
      have N2204 := Fr.app N2183 N2204q
      refine Goes.of (fun t k => st2204.trans k) ?_
      show Goes p e below (T2204.setTop (mkF m 138 #[.val (.ref a1), .val (.ref a2), .val (.ref a3), .val (.ref a4), .val (.int p5), .val (.int (0 : Int32)), .unset, .unset, .unset] [(.int (0 : Int32))])) _
      refine Goes.of (fun t k => XS.aloadN X2204.here hx rfl (hb hby d9_138) rfl rfl k) ?_
      show Goes p e below (T2204.setTop (mkF m 139 #[.val (.ref a1), .val (.ref a2), .val (.ref a3), .val (.ref a4), .val (.int p5), .val (.int (0 : Int32)), .unset, .unset, .unset] [(.ref a4), (.int (0 : Int32))])) _
      refine Goes.of (fun t k => XS.iconst X2204.here hx rfl (hb hby d9_139) k) ?_
      have Vc2205 := V2183
      obtain ⟨clc2205, Arc2205, qc2205, Sc2205, Nc2205, Hc2205, Gc2205⟩ := Vc2205
      have hin2206 : ¬ ((0 : Int32) < 0 ∨ clc2205.slots.size ≤ ((0 : Int32)).toNatClampNeg) := inb_of Sc2205 ⟨by decide, by decide⟩
      have hat2207 : clc2205.slots[((0 : Int32)).toNatClampNeg]? = some (.int (1 : Int32)) := Hc2205.at hin2206 rfl
      refine Goes.of (fun t k => X2204.iaload hx (j := (0 : Int32)) (v := (.int (1 : Int32))) (by rw [e2204]; exact Arc2205.1) (State.isArrayOf_alike hZ.alike Arc2205.2.1) Arc2205.2.2 hin2206 hat2207 (g := (mkF m 140 #[.val (.ref a1), .val (.ref a2), .val (.ref a3), .val (.ref a4), .val (.int p5), .val (.int (0 : Int32)), .unset, .unset, .unset] [(.int (0 : Int32)), (.ref a4), (.int (0 : Int32))])) rfl rfl (hb hby d9_140) _ k) ?_
      show Goes p e below (T2204.setTop (mkF m 141 #[.val (.ref a1), .val (.ref a2), .val (.ref a3), .val (.ref a4), .val (.int p5), .val (.int (0 : Int32)), .unset, .unset, .unset] [(.int (1 : Int32)), (.int (0 : Int32))])) _
      refine Goes.of (fun t k => XS.ifYes X2204.here hx rfl (pc0 := 141) (pc' := 148) rfl (hb hby d9_141) rfl ((if0 _ _).trans (feq (by decide)).2) (by decide) (by decide) k) ?_
      show Goes p e below (T2204.setTop (mkF m 148 #[.val (.ref a1), .val (.ref a2), .val (.ref a3), .val (.ref a4), .val (.int p5), .val (.int (0 : Int32)), .unset, .unset, .unset] [(.int (0 : Int32))])) _
      refine Goes.of (fun t k => XS.iconst X2204.here hx rfl (hb hby d9_148) k) ?_
      show Goes p e below (T2204.setTop (mkF m 149 #[.val (.ref a1), .val (.ref a2), .val (.ref a3), .val (.ref a4), .val (.int p5), .val (.int (0 : Int32)), .unset, .unset, .unset] [(.int (0 : Int32)), (.int (0 : Int32))])) _
      refine Goes.of (fun t k => XS.icmpNo X2204.here hx rfl (hb hby d9_149) rfl (teq (by decide)).2 k) ?_
      show Goes p e below (T2204.setTop (mkF m 152 #[.val (.ref a1), .val (.ref a2), .val (.ref a3), .val (.ref a4), .val (.int p5), .val (.int (0 : Int32)), .unset, .unset, .unset] [])) _
      refine Goes.of (fun t k => XS.iconst X2204.here hx rfl (hb hby d9_152) k) ?_
      show Goes p e below (T2204.setTop (mkF m 153 #[.val (.ref a1), .val (.ref a2), .val (.ref a3), .val (.ref a4), .val (.int p5), .val (.int (0 : Int32)), .unset, .unset, .unset] [(.int (1 : Int32))])) _
      refine Goes.of (fun t k => XS.goto X2204.here hx rfl (pc0 := 153) (pc' := 157) rfl (hb hby d9_153) (by decide) (by decide) k) ?_
      show Goes p e below (T2204.setTop (mkF m 157 #[.val (.ref a1), .val (.ref a2), .val (.ref a3), .val (.ref a4), .val (.int p5), .val (.int (0 : Int32)), .unset, .unset, .unset] [(.int (1 : Int32))])) _
      have eh : T2204.heap = h2183 := e2204
      exact Goes.retN (t := .boolean) X2204 hx Bd.returns (by simp) hlocks (hb hby d9_157) (⟨rfl, N2204, by rw [eh]; exact K2184, Or.inr (Or.inr (Or.inl ⟨by rw [eh]; exact f2186, by rw [eh]; exact f2194, by rw [eh]; exact f2195, by rw [eh]; exact f2196, by rw [eh]; exact f2197, by rw [eh]; exact f2198, by rw [eh]; exact f2199, by rw [eh]; exact f2200, by rw [eh]; exact f2187, by rw [eh]; exact f2201, by rw [eh]; exact f2188, by rw [eh]; exact f2203, by rw [eh]; exact f2189, by rw [eh]; exact f2202, by rw [eh]; exact f2190, by rw [eh]; exact V2183⟩))⟩) (by decide) (by decide)
    · refine Goes.of (fun t k => XS.ifNo X0.here hx rfl (hb hby d9_10) rfl ((if0 _ _).trans (feq hc10_2127).1) k) ?_
      show Goes p e below (s₁.setTop (mkF m 13 #[.val (.ref a1), .val (.ref a2), .val (.ref a3), .val (.ref a4), .val (.int p5), .val (.int (0 : Int32)), .unset, .unset, .unset] [])) _
      refine Goes.of (fun t k => XS.aloadN X0.here hx rfl (hb hby d9_13) rfl rfl k) ?_
      show Goes p e below (s₁.setTop (mkF m 14 #[.val (.ref a1), .val (.ref a2), .val (.ref a3), .val (.ref a4), .val (.int p5), .val (.int (0 : Int32)), .unset, .unset, .unset] [(.ref a4)])) _
      refine Goes.of (fun t k => XS.iconst X0.here hx rfl (hb hby d9_14) k) ?_
      have Vc2208 := VC
      obtain ⟨clc2208, Arc2208, qc2208, Sc2208, Nc2208, Hc2208, Gc2208⟩ := Vc2208
      have hin2209 : ¬ ((0 : Int32) < 0 ∨ clc2208.slots.size ≤ ((0 : Int32)).toNatClampNeg) := inb_of Sc2208 ⟨by decide, by decide⟩
      have hat2210 : clc2208.slots[((0 : Int32)).toNatClampNeg]? = some (.int (2 : Int32)) := Hc2208.at hin2209 rfl
      refine Goes.of (fun t k => X0.iaload hx (j := (0 : Int32)) (v := (.int (2 : Int32))) (by rw [e0]; exact Arc2208.1) (State.isArrayOf_alike hZ.alike Arc2208.2.1) Arc2208.2.2 hin2209 hat2210 (g := (mkF m 15 #[.val (.ref a1), .val (.ref a2), .val (.ref a3), .val (.ref a4), .val (.int p5), .val (.int (0 : Int32)), .unset, .unset, .unset] [(.int (0 : Int32)), (.ref a4)])) rfl rfl (hb hby d9_15) _ k) ?_
      show Goes p e below (s₁.setTop (mkF m 16 #[.val (.ref a1), .val (.ref a2), .val (.ref a3), .val (.ref a4), .val (.int p5), .val (.int (0 : Int32)), .unset, .unset, .unset] [(.int (2 : Int32))])) _
      refine Goes.of (fun t k => XS.iconst X0.here hx rfl (hb hby d9_16) k) ?_
      show Goes p e below (s₁.setTop (mkF m 17 #[.val (.ref a1), .val (.ref a2), .val (.ref a3), .val (.ref a4), .val (.int p5), .val (.int (0 : Int32)), .unset, .unset, .unset] [(.int (1 : Int32)), (.int (2 : Int32))])) _
      refine Goes.of (fun t k => XS.icmpYes X0.here hx rfl (pc0 := 17) (pc' := 82) rfl (hb hby d9_17) rfl (feq (by decide)).2 (by decide) (by decide) k) ?_
      show Goes p e below (s₁.setTop (mkF m 82 #[.val (.ref a1), .val (.ref a2), .val (.ref a3), .val (.ref a4), .val (.int p5), .val (.int (0 : Int32)), .unset, .unset, .unset] [])) _
      refine Goes.of (fun t k => XS.aloadN X0.here hx rfl (hb hby d9_82) rfl rfl k) ?_
      show Goes p e below (s₁.setTop (mkF m 83 #[.val (.ref a1), .val (.ref a2), .val (.ref a3), .val (.ref a4), .val (.int p5), .val (.int (0 : Int32)), .unset, .unset, .unset] [(.ref a3)])) _
      refine Goes.of (fun t k => XS.iload X0.here hx rfl (hb hby d9_83) rfl k) ?_
      have Vc2211 := VO
      obtain ⟨clc2211, Arc2211, qc2211, Sc2211, Nc2211, Hc2211, Gc2211⟩ := Vc2211
      have hin2212 : ¬ ((0 : Int32) < 0 ∨ clc2211.slots.size ≤ ((0 : Int32)).toNatClampNeg) := inb_of Sc2211 ⟨by decide, by decide⟩
      have hat2213 : clc2211.slots[((0 : Int32)).toNatClampNeg]? = some (.int (1 : Int32)) := Hc2211.at hin2212 rfl
      refine Goes.of (fun t k => X0.baloadBooleans hx (j := (0 : Int32)) (v := (.int (1 : Int32))) (by rw [e0]; exact Arc2211.1) (State.isArrayOf_alike hZ.alike Arc2211.2.1) Arc2211.2.2 hin2212 hat2213 (g := (mkF m 85 #[.val (.ref a1), .val (.ref a2), .val (.ref a3), .val (.ref a4), .val (.int p5), .val (.int (0 : Int32)), .unset, .unset, .unset] [(.int (0 : Int32)), (.ref a3)])) rfl rfl (hb hby d9_85) _ k) ?_
      show Goes p e below (s₁.setTop (mkF m 86 #[.val (.ref a1), .val (.ref a2), .val (.ref a3), .val (.ref a4), .val (.int p5), .val (.int (0 : Int32)), .unset, .unset, .unset] [(.int (1 : Int32))])) _
      refine Goes.of (fun t k => XS.ifNo X0.here hx rfl (hb hby d9_86) rfl ((if0 _ _).trans (feq (by decide)).1) k) ?_
      show Goes p e below (s₁.setTop (mkF m 89 #[.val (.ref a1), .val (.ref a2), .val (.ref a3), .val (.ref a4), .val (.int p5), .val (.int (0 : Int32)), .unset, .unset, .unset] [])) _
      refine Goes.of (fun t k => XS.aloadN X0.here hx rfl (hb hby d9_89) rfl rfl k) ?_
      show Goes p e below (s₁.setTop (mkF m 90 #[.val (.ref a1), .val (.ref a2), .val (.ref a3), .val (.ref a4), .val (.int p5), .val (.int (0 : Int32)), .unset, .unset, .unset] [(.ref a1)])) _
      refine Goes.of (fun t k => XS.aloadN X0.here hx rfl (hb hby d9_90) rfl rfl k) ?_
      show Goes p e below (s₁.setTop (mkF m 91 #[.val (.ref a1), .val (.ref a2), .val (.ref a3), .val (.ref a4), .val (.int p5), .val (.int (0 : Int32)), .unset, .unset, .unset] [(.ref a2), (.ref a1)])) _
      refine Goes.of (fun t k => XS.iload X0.here hx rfl (hb hby d9_91) rfl k) ?_
      have Vc2214 := VT
      obtain ⟨clc2214, Arc2214, qc2214, Sc2214, Nc2214, Hc2214, Gc2214⟩ := Vc2214
      have hin2215 : ¬ ((0 : Int32) < 0 ∨ clc2214.slots.size ≤ ((0 : Int32)).toNatClampNeg) := inb_of Sc2214 ⟨by decide, by decide⟩
      have hat2216 : clc2214.slots[((0 : Int32)).toNatClampNeg]? = some (.ref x0) := Hc2214.at hin2215 rfl
      refine Goes.of (fun t k => X0.aaload hx (j := (0 : Int32)) (v := (.ref x0)) (by rw [e0]; exact Arc2214.1) (State.isArrayOf_alike hZ.alike Arc2214.2.1) rfl Arc2214.2.2 hin2215 hat2216 (g := (mkF m 93 #[.val (.ref a1), .val (.ref a2), .val (.ref a3), .val (.ref a4), .val (.int p5), .val (.int (0 : Int32)), .unset, .unset, .unset] [(.int (0 : Int32)), (.ref a2), (.ref a1)])) rfl rfl (hb hby d9_93) _ k) ?_
      obtain ⟨cq2217, kq2217, q2217a, q2217b, q2217c⟩ := isOf hZ e0 E
      obtain ⟨_, _, ⟨T2217, L2217, k2217, n2217⟩, -, X2217, ⟨Lc2217, hQ2217, l2217, y2217, z2217⟩, st2217⟩ := X0.virtualBack hx (y := (⟨"com/example/ripplematch/ripplematch/core/Agenda", "remove", "(Lcom/example/ripplematch/ripplematch/core/Activation;)V"⟩ : MethodName)) (z := (⟨"com/example/ripplematch/ripplematch/core/Agenda", "remove", "(Lcom/example/ripplematch/ripplematch/core/Activation;)V"⟩ : MethodName)) hown (mvT hZ (wd hw 85 rfl)) (mvT hZ (wd hw 86 rfl)) (notFace_of_selects (args := #[]) (mvT hZ (wd hw 88 rfl))) (mvT hZ (wd hw 88 rfl)) (mvT hZ (wd hw 87 rfl)) (by decide) (backOf (W := 0) (rm11_704 l Z a0 hw [] a1 x0 HA FA x1 _ _ h0 n0 Z0 O0 SA E F_heap F_heapSize F_gone F_disordered F_fresh F_freshSize F_size VH VF E_x1 P_x1 E_x0 P_x0 g_a1 g_HA g_FA g_x1 g_x0 n_a1_HA n_a1_FA n_a1_x1 n_a1_x0 n_HA_FA n_HA_x1 n_HA_x0 n_FA_x1 n_FA_x0 (Ne.symm n_x0_x1) OH OF) hZ (wd hw 89 rfl) (wd hw 2 rfl) (by decide) (by decide)) q2217a q2217c (g := (mkF m 94 #[.val (.ref a1), .val (.ref a2), .val (.ref a3), .val (.ref a4), .val (.int p5), .val (.int (0 : Int32)), .unset, .unset, .unset] [(.ref x0), (.ref a1)])) rfl (by rw [hml]; rfl) (Steps.refl _) (argsL := [(.ref x0)]) (rest := []) (lenOf pd_5 rfl) rfl (by show 2 * 0 + _ ≤ _; exact Nat.le_of_eq rfl) (hb hby d9_94) (fun _ _ => ⟨rfl, e0, (by decide : 0 + 0 ≤ _), (by decide : 0 + 0 ≤ _)⟩)
      dsimp only [Pt.U, Pt.locs, Pt.cells, Pt.slots] at X2217 l2217 y2217 z2217 st2217 hQ2217
      subst l2217 y2217 z2217
      obtain ⟨rfl, N2217q, K2217, E_2217, F_heap_2217, F_heapSize_2217, F_gone_2217, F_disordered_2217, F_fresh_2217, F_freshSize_2217, F_size_2217, VH_2217, VF_2217, E_x1_2217, P_x1_2217, E_x0_2217, P_x0_2217⟩ := hQ2217
      have N2217 := Fr.app N0 N2217q
      have K2218 : Keep h0 T2217.heap [a1, a3, a4, HA, FA, x0, x1] := K0.trans K2217 (allS (Or.inl (List.mem_of_getElem? (i := 0) rfl)) (allS (Or.inl (List.mem_of_getElem? (i := 4) rfl)) (allS (Or.inl (List.mem_of_getElem? (i := 6) rfl)) (allS (Or.inl (List.mem_of_getElem? (i := 5) rfl)) all0))))
      have z2219 : n0 ≤ T2217.heap.size := Nat.le_trans Z0 K2217.1
      have f2220 := E.keep K2217
      have f2228 := VH.keep K2217 (ninS (Ne.symm n_a1_HA) (ninS n_HA_FA (ninS n_HA_x1 (ninS n_HA_x0 nin0))))
      have f2230 := E_x0.keep K2217
      have f2232 := E_x1.keep K2217
      have f2234 := VO.keep K2217 (ninS (Ne.symm n_a1_a3) (ninS n_a3_FA (ninS n_a3_x1 (ninS n_a3_x0 nin0))))
      have f2235 := VC.keep K2217 (ninS (Ne.symm n_a1_a4) (ninS n_a4_FA (ninS n_a4_x1 (ninS n_a4_x0 nin0))))
      have f2236 := O0.keep K2217 (allS g_a1 (allS g_FA (allS g_x1 (allS g_x0 all0))))
      have f2237 := VT.keep K2217 (ninS (Ne.symm n_a1_a2) (ninS n_a2_FA (ninS n_a2_x1 (ninS n_a2_x0 nin0))))
      refine Goes.of (fun t k => st2217.trans k) ?_
      show Goes p e below (T2217.setTop (mkF m 97 #[.val (.ref a1), .val (.ref a2), .val (.ref a3), .val (.ref a4), .val (.int p5), .val (.int (0 : Int32)), .unset, .unset, .unset] [])) _
      refine Goes.of (fun t k => XS.aloadN X2217.here hx rfl (hb hby d9_97) rfl rfl k) ?_
      show Goes p e below (T2217.setTop (mkF m 98 #[.val (.ref a1), .val (.ref a2), .val (.ref a3), .val (.ref a4), .val (.int p5), .val (.int (0 : Int32)), .unset, .unset, .unset] [(.ref a3)])) _
      refine Goes.of (fun t k => XS.iload X2217.here hx rfl (hb hby d9_98) rfl k) ?_
      show Goes p e below (T2217.setTop (mkF m 100 #[.val (.ref a1), .val (.ref a2), .val (.ref a3), .val (.ref a4), .val (.int p5), .val (.int (0 : Int32)), .unset, .unset, .unset] [(.int (0 : Int32)), (.ref a3)])) _
      refine Goes.of (fun t k => XS.iconst X2217.here hx rfl (hb hby d9_100) k) ?_
      have Vc2238 := f2234
      obtain ⟨clc2238, Arc2238, qc2238, Sc2238, Nc2238, Hc2238, Gc2238⟩ := Vc2238
      have hin2239 : ¬ ((0 : Int32) < 0 ∨ clc2238.slots.size ≤ ((0 : Int32)).toNatClampNeg) := inb_of Sc2238 ⟨by decide, by decide⟩
      obtain ⟨T2240, h2240, X2240, e2240, W2240, st2240⟩ := stZ X2217 hx hZ rfl Arc2238 (j := (0 : Int32)) hin2239 (g := (mkF m 101 #[.val (.ref a1), .val (.ref a2), .val (.ref a3), .val (.ref a4), .val (.int p5), .val (.int (0 : Int32)), .unset, .unset, .unset] [(.int (0 : Int32)), (.int (0 : Int32)), (.ref a3)])) rfl rfl (hb hby d9_101)
      have V2240 : Arv Z h2240 a3 kO .boolean (2 : Int32) [(.int (nar .boolean (0 : Int32))), (.int (1 : Int32))] (.int (0 : Int32)) := Arv.set Arc2238 qc2238 Sc2238 Nc2238 Hc2238 Gc2238 (fits_nar_bool _) W2240 0 rfl (Nat.le_of_ble_eq_true rfl)
      have K2241 : Keep h0 h2240 [a1, a3, a4, HA, FA, x0, x1] := K2218.wr W2240 (Or.inl (List.mem_of_getElem? (i := 1) rfl))
      have z2242 : n0 ≤ h2240.size := Nat.le_trans z2219 (Keep.of_wr W2240).1
      have f2243 := E_2217.wr W2240
      have f2244 := VH_2217.other W2240 (Ne.symm n_a3_HA)
      have f2245 := E_x0_2217.wr W2240
      have f2246 := E_x1_2217.wr W2240
      have f2248 := f2235.other W2240 (Ne.symm n_a3_a4)
      have f2249 := f2236.wr W2240 g_a3
      have f2250 := f2237.other W2240 n_a2_a3
      have f2251 := F_heap_2217.other W2240 (Or.inl n_a1_a3)
      have f2252 := F_heapSize_2217.other W2240 (Or.inl n_a1_a3)
      have f2253 := F_gone_2217.other W2240 (Or.inl n_a1_a3)
      have f2254 := F_disordered_2217.other W2240 (Or.inl n_a1_a3)
      have f2255 := F_fresh_2217.other W2240 (Or.inl n_a1_a3)
      have f2256 := F_freshSize_2217.other W2240 (Or.inl n_a1_a3)
      have f2257 := F_size_2217.other W2240 (Or.inl n_a1_a3)
      have f2258 := VF_2217.other W2240 (Ne.symm n_a3_FA)
      have f2259 := P_x1_2217.other W2240 (Or.inl (Ne.symm n_a3_x1))
      have f2260 := P_x0_2217.other W2240 (Or.inl (Ne.symm n_a3_x0))
      have N2240 := Fr.snoc X2240 N2217 g_a3
      refine Goes.of st2240 ?_
      show Goes p e below (T2240.setTop (mkF m 102 #[.val (.ref a1), .val (.ref a2), .val (.ref a3), .val (.ref a4), .val (.int p5), .val (.int (0 : Int32)), .unset, .unset, .unset] [])) _
      refine Goes.of (fun t k => XS.aloadN X2240.here hx rfl (hb hby d9_102) rfl rfl k) ?_
      show Goes p e below (T2240.setTop (mkF m 103 #[.val (.ref a1), .val (.ref a2), .val (.ref a3), .val (.ref a4), .val (.int p5), .val (.int (0 : Int32)), .unset, .unset, .unset] [(.ref a4)])) _
      refine Goes.of (fun t k => XS.iconst X2240.here hx rfl (hb hby d9_103) k) ?_
      show Goes p e below (T2240.setTop (mkF m 104 #[.val (.ref a1), .val (.ref a2), .val (.ref a3), .val (.ref a4), .val (.int p5), .val (.int (0 : Int32)), .unset, .unset, .unset] [(.int (0 : Int32)), (.ref a4)])) _
      refine Goes.of (fun t k => XS.aloadN X2240.here hx rfl (hb hby d9_104) rfl rfl k) ?_
      show Goes p e below (T2240.setTop (mkF m 105 #[.val (.ref a1), .val (.ref a2), .val (.ref a3), .val (.ref a4), .val (.int p5), .val (.int (0 : Int32)), .unset, .unset, .unset] [(.ref a4), (.int (0 : Int32)), (.ref a4)])) _
      refine Goes.of (fun t k => XS.iconst X2240.here hx rfl (hb hby d9_105) k) ?_
      have Vc2261 := f2248
      obtain ⟨clc2261, Arc2261, qc2261, Sc2261, Nc2261, Hc2261, Gc2261⟩ := Vc2261
      have hin2262 : ¬ ((0 : Int32) < 0 ∨ clc2261.slots.size ≤ ((0 : Int32)).toNatClampNeg) := inb_of Sc2261 ⟨by decide, by decide⟩
      have hat2263 : clc2261.slots[((0 : Int32)).toNatClampNeg]? = some (.int (2 : Int32)) := Hc2261.at hin2262 rfl
      refine Goes.of (fun t k => X2240.iaload hx (j := (0 : Int32)) (v := (.int (2 : Int32))) (by rw [e2240]; exact Arc2261.1) (State.isArrayOf_alike hZ.alike Arc2261.2.1) Arc2261.2.2 hin2262 hat2263 (g := (mkF m 106 #[.val (.ref a1), .val (.ref a2), .val (.ref a3), .val (.ref a4), .val (.int p5), .val (.int (0 : Int32)), .unset, .unset, .unset] [(.int (0 : Int32)), (.ref a4), (.int (0 : Int32)), (.ref a4)])) rfl rfl (hb hby d9_106) _ k) ?_
      show Goes p e below (T2240.setTop (mkF m 107 #[.val (.ref a1), .val (.ref a2), .val (.ref a3), .val (.ref a4), .val (.int p5), .val (.int (0 : Int32)), .unset, .unset, .unset] [(.int (2 : Int32)), (.int (0 : Int32)), (.ref a4)])) _
      refine Goes.of (fun t k => XS.iconst X2240.here hx rfl (hb hby d9_107) k) ?_
      show Goes p e below (T2240.setTop (mkF m 108 #[.val (.ref a1), .val (.ref a2), .val (.ref a3), .val (.ref a4), .val (.int p5), .val (.int (0 : Int32)), .unset, .unset, .unset] [(.int (1 : Int32)), (.int (2 : Int32)), (.int (0 : Int32)), (.ref a4)])) _
      refine Goes.of (fun t k => XS.isub X2240.here hx rfl (hb hby d9_108) rfl k) ?_
      have Vc2264 := f2248
      obtain ⟨clc2264, Arc2264, qc2264, Sc2264, Nc2264, Hc2264, Gc2264⟩ := Vc2264
      have hin2265 : ¬ ((0 : Int32) < 0 ∨ clc2264.slots.size ≤ ((0 : Int32)).toNatClampNeg) := inb_of Sc2264 ⟨by decide, by decide⟩
      obtain ⟨T2266, h2266, X2266, e2266, W2266, st2266⟩ := stI X2240 hx hZ e2240 Arc2264 (j := (0 : Int32)) hin2265 (g := (mkF m 109 #[.val (.ref a1), .val (.ref a2), .val (.ref a3), .val (.ref a4), .val (.int p5), .val (.int (0 : Int32)), .unset, .unset, .unset] [(.int (1 : Int32)), (.int (0 : Int32)), (.ref a4)])) rfl rfl (hb hby d9_109)
      have V2266 : Arv Z h2266 a4 kC .int (1 : Int32) [(.int (1 : Int32))] (.int (0 : Int32)) := Arv.set Arc2264 qc2264 Sc2264 Nc2264 Hc2264 Gc2264 rfl W2266 0 rfl (Nat.le_of_ble_eq_true rfl)
      have K2267 : Keep h0 h2266 [a1, a3, a4, HA, FA, x0, x1] := K2241.wr W2266 (Or.inl (List.mem_of_getElem? (i := 2) rfl))
      have z2268 : n0 ≤ h2266.size := Nat.le_trans z2242 (Keep.of_wr W2266).1
      have f2269 := f2243.wr W2266
      have f2270 := f2244.other W2266 (Ne.symm n_a4_HA)
      have f2271 := f2245.wr W2266
      have f2272 := f2246.wr W2266
      have f2273 := V2240.other W2266 n_a3_a4
      have f2275 := f2249.wr W2266 g_a4
      have f2276 := f2250.other W2266 n_a2_a4
      have f2277 := f2251.other W2266 (Or.inl n_a1_a4)
      have f2278 := f2252.other W2266 (Or.inl n_a1_a4)
      have f2279 := f2253.other W2266 (Or.inl n_a1_a4)
      have f2280 := f2254.other W2266 (Or.inl n_a1_a4)
      have f2281 := f2255.other W2266 (Or.inl n_a1_a4)
      have f2282 := f2256.other W2266 (Or.inl n_a1_a4)
      have f2283 := f2257.other W2266 (Or.inl n_a1_a4)
      have f2284 := f2258.other W2266 (Ne.symm n_a4_FA)
      have f2285 := f2259.other W2266 (Or.inl (Ne.symm n_a4_x1))
      have f2286 := f2260.other W2266 (Or.inl (Ne.symm n_a4_x0))
      have N2266 := Fr.snoc X2266 N2240 g_a4
      refine Goes.of st2266 ?_
      show Goes p e below (T2266.setTop (mkF m 110 #[.val (.ref a1), .val (.ref a2), .val (.ref a3), .val (.ref a4), .val (.int p5), .val (.int (0 : Int32)), .unset, .unset, .unset] [])) _
      refine Goes.of (fun t k => XS.goto X2266.here hx rfl (pc0 := 110) (pc' := 134) rfl (hb hby d9_110) (by decide) (by decide) k) ?_
      show Goes p e below (T2266.setTop (mkF m 134 #[.val (.ref a1), .val (.ref a2), .val (.ref a3), .val (.ref a4), .val (.int p5), .val (.int (0 : Int32)), .unset, .unset, .unset] [])) _
      refine Goes.of (fun t k => XS.aloadN X2266.here hx rfl (hb hby d9_134) rfl rfl k) ?_
      obtain ⟨cq2287, kq2287, q2287a, q2287b, q2287c⟩ := isOf hZ e2266 f2269
      obtain ⟨_, _, ⟨T2287, L2287, k2287, n2287⟩, -, X2287, ⟨Lc2287, hQ2287, l2287, y2287, z2287⟩, st2287⟩ := X2266.virtualBack hx (y := (⟨"com/example/ripplematch/ripplematch/core/Agenda", "isEmpty", "()Z"⟩ : MethodName)) (z := (⟨"com/example/ripplematch/ripplematch/core/Agenda", "isEmpty", "()Z"⟩ : MethodName)) hown (mvT hZ (wd hw 64 rfl)) (mvT hZ (wd hw 65 rfl)) (notFace_of_selects (args := #[]) (mvT hZ (wd hw 67 rfl))) (mvT hZ (wd hw 67 rfl)) (mvT hZ (wd hw 66 rfl)) (by decide) (backOf (W := 0) (rm8 l Z a0 hw [] a1 (1 : Int32) h2266 n0 z2268 f2283) hZ (wd hw 68 rfl) (wd hw 2 rfl) (by decide) (by decide)) q2287a q2287c (g := (mkF m 135 #[.val (.ref a1), .val (.ref a2), .val (.ref a3), .val (.ref a4), .val (.int p5), .val (.int (0 : Int32)), .unset, .unset, .unset] [(.ref a1)])) rfl (by rw [hml]; rfl) (Steps.refl _) (argsL := []) (rest := []) (lenOf pd_6 rfl) rfl (by show 2 * 0 + _ ≤ _; exact Nat.le_of_eq rfl) (hb hby d9_135) (fun _ _ => ⟨rfl, e2266, (by decide : 0 + 0 ≤ _), (by decide : 0 + 0 ≤ _)⟩)
      dsimp only [Pt.U, Pt.locs, Pt.cells, Pt.slots] at X2287 l2287 y2287 z2287 st2287 hQ2287
      subst l2287 y2287 z2287
      obtain ⟨rfl, N2287q, e2287⟩ := hQ2287
      have N2287 := Fr.app N2266 N2287q
      refine Goes.of (fun t k => st2287.trans k) ?_
      show Goes p e below (T2287.setTop (mkF m 138 #[.val (.ref a1), .val (.ref a2), .val (.ref a3), .val (.ref a4), .val (.int p5), .val (.int (0 : Int32)), .unset, .unset, .unset] [(.int (0 : Int32))])) _
      refine Goes.of (fun t k => XS.aloadN X2287.here hx rfl (hb hby d9_138) rfl rfl k) ?_
      show Goes p e below (T2287.setTop (mkF m 139 #[.val (.ref a1), .val (.ref a2), .val (.ref a3), .val (.ref a4), .val (.int p5), .val (.int (0 : Int32)), .unset, .unset, .unset] [(.ref a4), (.int (0 : Int32))])) _
      refine Goes.of (fun t k => XS.iconst X2287.here hx rfl (hb hby d9_139) k) ?_
      have Vc2288 := V2266
      obtain ⟨clc2288, Arc2288, qc2288, Sc2288, Nc2288, Hc2288, Gc2288⟩ := Vc2288
      have hin2289 : ¬ ((0 : Int32) < 0 ∨ clc2288.slots.size ≤ ((0 : Int32)).toNatClampNeg) := inb_of Sc2288 ⟨by decide, by decide⟩
      have hat2290 : clc2288.slots[((0 : Int32)).toNatClampNeg]? = some (.int (1 : Int32)) := Hc2288.at hin2289 rfl
      refine Goes.of (fun t k => X2287.iaload hx (j := (0 : Int32)) (v := (.int (1 : Int32))) (by rw [e2287]; exact Arc2288.1) (State.isArrayOf_alike hZ.alike Arc2288.2.1) Arc2288.2.2 hin2289 hat2290 (g := (mkF m 140 #[.val (.ref a1), .val (.ref a2), .val (.ref a3), .val (.ref a4), .val (.int p5), .val (.int (0 : Int32)), .unset, .unset, .unset] [(.int (0 : Int32)), (.ref a4), (.int (0 : Int32))])) rfl rfl (hb hby d9_140) _ k) ?_
      show Goes p e below (T2287.setTop (mkF m 141 #[.val (.ref a1), .val (.ref a2), .val (.ref a3), .val (.ref a4), .val (.int p5), .val (.int (0 : Int32)), .unset, .unset, .unset] [(.int (1 : Int32)), (.int (0 : Int32))])) _
      refine Goes.of (fun t k => XS.ifYes X2287.here hx rfl (pc0 := 141) (pc' := 148) rfl (hb hby d9_141) rfl ((if0 _ _).trans (feq (by decide)).2) (by decide) (by decide) k) ?_
      show Goes p e below (T2287.setTop (mkF m 148 #[.val (.ref a1), .val (.ref a2), .val (.ref a3), .val (.ref a4), .val (.int p5), .val (.int (0 : Int32)), .unset, .unset, .unset] [(.int (0 : Int32))])) _
      refine Goes.of (fun t k => XS.iconst X2287.here hx rfl (hb hby d9_148) k) ?_
      show Goes p e below (T2287.setTop (mkF m 149 #[.val (.ref a1), .val (.ref a2), .val (.ref a3), .val (.ref a4), .val (.int p5), .val (.int (0 : Int32)), .unset, .unset, .unset] [(.int (0 : Int32)), (.int (0 : Int32))])) _
      refine Goes.of (fun t k => XS.icmpNo X2287.here hx rfl (hb hby d9_149) rfl (teq (by decide)).2 k) ?_
      show Goes p e below (T2287.setTop (mkF m 152 #[.val (.ref a1), .val (.ref a2), .val (.ref a3), .val (.ref a4), .val (.int p5), .val (.int (0 : Int32)), .unset, .unset, .unset] [])) _
      refine Goes.of (fun t k => XS.iconst X2287.here hx rfl (hb hby d9_152) k) ?_
      show Goes p e below (T2287.setTop (mkF m 153 #[.val (.ref a1), .val (.ref a2), .val (.ref a3), .val (.ref a4), .val (.int p5), .val (.int (0 : Int32)), .unset, .unset, .unset] [(.int (1 : Int32))])) _
      refine Goes.of (fun t k => XS.goto X2287.here hx rfl (pc0 := 153) (pc' := 157) rfl (hb hby d9_153) (by decide) (by decide) k) ?_
      show Goes p e below (T2287.setTop (mkF m 157 #[.val (.ref a1), .val (.ref a2), .val (.ref a3), .val (.ref a4), .val (.int p5), .val (.int (0 : Int32)), .unset, .unset, .unset] [(.int (1 : Int32))])) _
      have eh : T2287.heap = h2266 := e2287
      exact Goes.retN (t := .boolean) X2287 hx Bd.returns (by simp) hlocks (hb hby d9_157) (⟨rfl, N2287, by rw [eh]; exact K2267, Or.inr (Or.inr (Or.inl ⟨by rw [eh]; exact f2269, by rw [eh]; exact f2277, by rw [eh]; exact f2278, by rw [eh]; exact f2279, by rw [eh]; exact f2280, by rw [eh]; exact f2281, by rw [eh]; exact f2282, by rw [eh]; exact f2283, by rw [eh]; exact f2270, by rw [eh]; exact f2284, by rw [eh]; exact f2271, by rw [eh]; exact f2286, by rw [eh]; exact f2272, by rw [eh]; exact f2285, by rw [eh]; exact f2273, by rw [eh]; exact V2266⟩))⟩) (by decide) (by decide)
  · rw [hi]
    show Goes p e below (s₁.setTop (mkF m 6 #[.val (.ref a1), .val (.ref a2), .val (.ref a3), .val (.ref a4), .val (.int p5), .val (.int (1 : Int32)), .unset, .unset, .unset] [])) _
    refine Goes.of (fun t k => XS.iload X0.here hx rfl (hb hby d9_6) rfl k) ?_
    show Goes p e below (s₁.setTop (mkF m 8 #[.val (.ref a1), .val (.ref a2), .val (.ref a3), .val (.ref a4), .val (.int p5), .val (.int (1 : Int32)), .unset, .unset, .unset] [(.int p5)])) _
    refine Goes.of (fun t k => XS.iconst X0.here hx rfl (hb hby d9_8) k) ?_
    show Goes p e below (s₁.setTop (mkF m 9 #[.val (.ref a1), .val (.ref a2), .val (.ref a3), .val (.ref a4), .val (.int p5), .val (.int (1 : Int32)), .unset, .unset, .unset] [(.int (2 : Int32)), (.int p5)])) _
    refine Goes.of (fun t k => XS.iand X0.here hx rfl (hb hby d9_9) rfl k) ?_
    show Goes p e below (s₁.setTop (mkF m 10 #[.val (.ref a1), .val (.ref a2), .val (.ref a3), .val (.ref a4), .val (.int p5), .val (.int (1 : Int32)), .unset, .unset, .unset] [(.int (p5 &&& (2 : Int32)))])) _
    by_cases hc10_2291 : (p5 &&& (2 : Int32)) = (0 : Int32)
    · refine Goes.of (fun t k => XS.ifYes X0.here hx rfl (pc0 := 10) (pc' := 82) rfl (hb hby d9_10) rfl ((if0 _ _).trans (teq hc10_2291).1) (by decide) (by decide) k) ?_
      show Goes p e below (s₁.setTop (mkF m 82 #[.val (.ref a1), .val (.ref a2), .val (.ref a3), .val (.ref a4), .val (.int p5), .val (.int (1 : Int32)), .unset, .unset, .unset] [])) _
      refine Goes.of (fun t k => XS.aloadN X0.here hx rfl (hb hby d9_82) rfl rfl k) ?_
      show Goes p e below (s₁.setTop (mkF m 83 #[.val (.ref a1), .val (.ref a2), .val (.ref a3), .val (.ref a4), .val (.int p5), .val (.int (1 : Int32)), .unset, .unset, .unset] [(.ref a3)])) _
      refine Goes.of (fun t k => XS.iload X0.here hx rfl (hb hby d9_83) rfl k) ?_
      have Vc2292 := VO
      obtain ⟨clc2292, Arc2292, qc2292, Sc2292, Nc2292, Hc2292, Gc2292⟩ := Vc2292
      have hin2293 : ¬ ((1 : Int32) < 0 ∨ clc2292.slots.size ≤ ((1 : Int32)).toNatClampNeg) := inb_of Sc2292 ⟨by decide, by decide⟩
      have hat2294 : clc2292.slots[((1 : Int32)).toNatClampNeg]? = some (.int (1 : Int32)) := Hc2292.at hin2293 rfl
      refine Goes.of (fun t k => X0.baloadBooleans hx (j := (1 : Int32)) (v := (.int (1 : Int32))) (by rw [e0]; exact Arc2292.1) (State.isArrayOf_alike hZ.alike Arc2292.2.1) Arc2292.2.2 hin2293 hat2294 (g := (mkF m 85 #[.val (.ref a1), .val (.ref a2), .val (.ref a3), .val (.ref a4), .val (.int p5), .val (.int (1 : Int32)), .unset, .unset, .unset] [(.int (1 : Int32)), (.ref a3)])) rfl rfl (hb hby d9_85) _ k) ?_
      show Goes p e below (s₁.setTop (mkF m 86 #[.val (.ref a1), .val (.ref a2), .val (.ref a3), .val (.ref a4), .val (.int p5), .val (.int (1 : Int32)), .unset, .unset, .unset] [(.int (1 : Int32))])) _
      refine Goes.of (fun t k => XS.ifNo X0.here hx rfl (hb hby d9_86) rfl ((if0 _ _).trans (feq (by decide)).1) k) ?_
      show Goes p e below (s₁.setTop (mkF m 89 #[.val (.ref a1), .val (.ref a2), .val (.ref a3), .val (.ref a4), .val (.int p5), .val (.int (1 : Int32)), .unset, .unset, .unset] [])) _
      refine Goes.of (fun t k => XS.aloadN X0.here hx rfl (hb hby d9_89) rfl rfl k) ?_
      show Goes p e below (s₁.setTop (mkF m 90 #[.val (.ref a1), .val (.ref a2), .val (.ref a3), .val (.ref a4), .val (.int p5), .val (.int (1 : Int32)), .unset, .unset, .unset] [(.ref a1)])) _
      refine Goes.of (fun t k => XS.aloadN X0.here hx rfl (hb hby d9_90) rfl rfl k) ?_
      show Goes p e below (s₁.setTop (mkF m 91 #[.val (.ref a1), .val (.ref a2), .val (.ref a3), .val (.ref a4), .val (.int p5), .val (.int (1 : Int32)), .unset, .unset, .unset] [(.ref a2), (.ref a1)])) _
      refine Goes.of (fun t k => XS.iload X0.here hx rfl (hb hby d9_91) rfl k) ?_
      have Vc2295 := VT
      obtain ⟨clc2295, Arc2295, qc2295, Sc2295, Nc2295, Hc2295, Gc2295⟩ := Vc2295
      have hin2296 : ¬ ((1 : Int32) < 0 ∨ clc2295.slots.size ≤ ((1 : Int32)).toNatClampNeg) := inb_of Sc2295 ⟨by decide, by decide⟩
      have hat2297 : clc2295.slots[((1 : Int32)).toNatClampNeg]? = some (.ref x1) := Hc2295.at hin2296 rfl
      refine Goes.of (fun t k => X0.aaload hx (j := (1 : Int32)) (v := (.ref x1)) (by rw [e0]; exact Arc2295.1) (State.isArrayOf_alike hZ.alike Arc2295.2.1) rfl Arc2295.2.2 hin2296 hat2297 (g := (mkF m 93 #[.val (.ref a1), .val (.ref a2), .val (.ref a3), .val (.ref a4), .val (.int p5), .val (.int (1 : Int32)), .unset, .unset, .unset] [(.int (1 : Int32)), (.ref a2), (.ref a1)])) rfl rfl (hb hby d9_93) _ k) ?_
      obtain ⟨cq2298, kq2298, q2298a, q2298b, q2298c⟩ := isOf hZ e0 E
      obtain ⟨_, _, ⟨T2298, L2298, k2298, n2298⟩, -, X2298, ⟨Lc2298, hQ2298, l2298, y2298, z2298⟩, st2298⟩ := X0.virtualBack hx (y := (⟨"com/example/ripplematch/ripplematch/core/Agenda", "remove", "(Lcom/example/ripplematch/ripplematch/core/Activation;)V"⟩ : MethodName)) (z := (⟨"com/example/ripplematch/ripplematch/core/Agenda", "remove", "(Lcom/example/ripplematch/ripplematch/core/Activation;)V"⟩ : MethodName)) hown (mvT hZ (wd hw 85 rfl)) (mvT hZ (wd hw 86 rfl)) (notFace_of_selects (args := #[]) (mvT hZ (wd hw 88 rfl))) (mvT hZ (wd hw 88 rfl)) (mvT hZ (wd hw 87 rfl)) (by decide) (backOf (W := 0) (rm11_576 l Z a0 hw [] a1 x1 HA FA x0 _ _ h0 n0 Z0 O0 SA E F_heap F_heapSize F_gone F_disordered F_fresh F_freshSize F_size VH VF E_x1 P_x1 E_x0 P_x0 g_a1 g_HA g_FA g_x1 g_x0 n_a1_HA n_a1_FA n_a1_x1 n_a1_x0 n_HA_FA n_HA_x1 n_HA_x0 n_FA_x1 n_FA_x0 (Ne.symm n_x0_x1) OH OF) hZ (wd hw 89 rfl) (wd hw 2 rfl) (by decide) (by decide)) q2298a q2298c (g := (mkF m 94 #[.val (.ref a1), .val (.ref a2), .val (.ref a3), .val (.ref a4), .val (.int p5), .val (.int (1 : Int32)), .unset, .unset, .unset] [(.ref x1), (.ref a1)])) rfl (by rw [hml]; rfl) (Steps.refl _) (argsL := [(.ref x1)]) (rest := []) (lenOf pd_5 rfl) rfl (by show 2 * 0 + _ ≤ _; exact Nat.le_of_eq rfl) (hb hby d9_94) (fun _ _ => ⟨rfl, e0, (by decide : 0 + 0 ≤ _), (by decide : 0 + 0 ≤ _)⟩)
      dsimp only [Pt.U, Pt.locs, Pt.cells, Pt.slots] at X2298 l2298 y2298 z2298 st2298 hQ2298
      subst l2298 y2298 z2298
      obtain ⟨rfl, N2298q, K2298, E_2298, F_heap_2298, F_heapSize_2298, F_gone_2298, F_disordered_2298, F_fresh_2298, F_freshSize_2298, F_size_2298, VH_2298, VF_2298, E_x1_2298, P_x1_2298, E_x0_2298, P_x0_2298⟩ := hQ2298
      have N2298 := Fr.app N0 N2298q
      have K2299 : Keep h0 T2298.heap [a1, a3, a4, HA, FA, x0, x1] := K0.trans K2298 (allS (Or.inl (List.mem_of_getElem? (i := 0) rfl)) (allS (Or.inl (List.mem_of_getElem? (i := 4) rfl)) (allS (Or.inl (List.mem_of_getElem? (i := 6) rfl)) (allS (Or.inl (List.mem_of_getElem? (i := 5) rfl)) all0))))
      have z2300 : n0 ≤ T2298.heap.size := Nat.le_trans Z0 K2298.1
      have f2301 := E.keep K2298
      have f2309 := VH.keep K2298 (ninS (Ne.symm n_a1_HA) (ninS n_HA_FA (ninS n_HA_x1 (ninS n_HA_x0 nin0))))
      have f2311 := E_x0.keep K2298
      have f2313 := E_x1.keep K2298
      have f2315 := VO.keep K2298 (ninS (Ne.symm n_a1_a3) (ninS n_a3_FA (ninS n_a3_x1 (ninS n_a3_x0 nin0))))
      have f2316 := VC.keep K2298 (ninS (Ne.symm n_a1_a4) (ninS n_a4_FA (ninS n_a4_x1 (ninS n_a4_x0 nin0))))
      have f2317 := O0.keep K2298 (allS g_a1 (allS g_FA (allS g_x1 (allS g_x0 all0))))
      have f2318 := VT.keep K2298 (ninS (Ne.symm n_a1_a2) (ninS n_a2_FA (ninS n_a2_x1 (ninS n_a2_x0 nin0))))
      refine Goes.of (fun t k => st2298.trans k) ?_
      show Goes p e below (T2298.setTop (mkF m 97 #[.val (.ref a1), .val (.ref a2), .val (.ref a3), .val (.ref a4), .val (.int p5), .val (.int (1 : Int32)), .unset, .unset, .unset] [])) _
      refine Goes.of (fun t k => XS.aloadN X2298.here hx rfl (hb hby d9_97) rfl rfl k) ?_
      show Goes p e below (T2298.setTop (mkF m 98 #[.val (.ref a1), .val (.ref a2), .val (.ref a3), .val (.ref a4), .val (.int p5), .val (.int (1 : Int32)), .unset, .unset, .unset] [(.ref a3)])) _
      refine Goes.of (fun t k => XS.iload X2298.here hx rfl (hb hby d9_98) rfl k) ?_
      show Goes p e below (T2298.setTop (mkF m 100 #[.val (.ref a1), .val (.ref a2), .val (.ref a3), .val (.ref a4), .val (.int p5), .val (.int (1 : Int32)), .unset, .unset, .unset] [(.int (1 : Int32)), (.ref a3)])) _
      refine Goes.of (fun t k => XS.iconst X2298.here hx rfl (hb hby d9_100) k) ?_
      have Vc2319 := f2315
      obtain ⟨clc2319, Arc2319, qc2319, Sc2319, Nc2319, Hc2319, Gc2319⟩ := Vc2319
      have hin2320 : ¬ ((1 : Int32) < 0 ∨ clc2319.slots.size ≤ ((1 : Int32)).toNatClampNeg) := inb_of Sc2319 ⟨by decide, by decide⟩
      obtain ⟨T2321, h2321, X2321, e2321, W2321, st2321⟩ := stZ X2298 hx hZ rfl Arc2319 (j := (1 : Int32)) hin2320 (g := (mkF m 101 #[.val (.ref a1), .val (.ref a2), .val (.ref a3), .val (.ref a4), .val (.int p5), .val (.int (1 : Int32)), .unset, .unset, .unset] [(.int (0 : Int32)), (.int (1 : Int32)), (.ref a3)])) rfl rfl (hb hby d9_101)
      have V2321 : Arv Z h2321 a3 kO .boolean (2 : Int32) [(.int (1 : Int32)), (.int (nar .boolean (0 : Int32)))] (.int (0 : Int32)) := Arv.set Arc2319 qc2319 Sc2319 Nc2319 Hc2319 Gc2319 (fits_nar_bool _) W2321 1 rfl (Nat.le_of_ble_eq_true rfl)
      have K2322 : Keep h0 h2321 [a1, a3, a4, HA, FA, x0, x1] := K2299.wr W2321 (Or.inl (List.mem_of_getElem? (i := 1) rfl))
      have z2323 : n0 ≤ h2321.size := Nat.le_trans z2300 (Keep.of_wr W2321).1
      have f2324 := E_2298.wr W2321
      have f2325 := VH_2298.other W2321 (Ne.symm n_a3_HA)
      have f2326 := E_x0_2298.wr W2321
      have f2327 := E_x1_2298.wr W2321
      have f2329 := f2316.other W2321 (Ne.symm n_a3_a4)
      have f2330 := f2317.wr W2321 g_a3
      have f2331 := f2318.other W2321 n_a2_a3
      have f2332 := F_heap_2298.other W2321 (Or.inl n_a1_a3)
      have f2333 := F_heapSize_2298.other W2321 (Or.inl n_a1_a3)
      have f2334 := F_gone_2298.other W2321 (Or.inl n_a1_a3)
      have f2335 := F_disordered_2298.other W2321 (Or.inl n_a1_a3)
      have f2336 := F_fresh_2298.other W2321 (Or.inl n_a1_a3)
      have f2337 := F_freshSize_2298.other W2321 (Or.inl n_a1_a3)
      have f2338 := F_size_2298.other W2321 (Or.inl n_a1_a3)
      have f2339 := VF_2298.other W2321 (Ne.symm n_a3_FA)
      have f2340 := P_x1_2298.other W2321 (Or.inl (Ne.symm n_a3_x1))
      have f2341 := P_x0_2298.other W2321 (Or.inl (Ne.symm n_a3_x0))
      have N2321 := Fr.snoc X2321 N2298 g_a3
      refine Goes.of st2321 ?_
      show Goes p e below (T2321.setTop (mkF m 102 #[.val (.ref a1), .val (.ref a2), .val (.ref a3), .val (.ref a4), .val (.int p5), .val (.int (1 : Int32)), .unset, .unset, .unset] [])) _
      refine Goes.of (fun t k => XS.aloadN X2321.here hx rfl (hb hby d9_102) rfl rfl k) ?_
      show Goes p e below (T2321.setTop (mkF m 103 #[.val (.ref a1), .val (.ref a2), .val (.ref a3), .val (.ref a4), .val (.int p5), .val (.int (1 : Int32)), .unset, .unset, .unset] [(.ref a4)])) _
      refine Goes.of (fun t k => XS.iconst X2321.here hx rfl (hb hby d9_103) k) ?_
      show Goes p e below (T2321.setTop (mkF m 104 #[.val (.ref a1), .val (.ref a2), .val (.ref a3), .val (.ref a4), .val (.int p5), .val (.int (1 : Int32)), .unset, .unset, .unset] [(.int (0 : Int32)), (.ref a4)])) _
      refine Goes.of (fun t k => XS.aloadN X2321.here hx rfl (hb hby d9_104) rfl rfl k) ?_
      show Goes p e below (T2321.setTop (mkF m 105 #[.val (.ref a1), .val (.ref a2), .val (.ref a3), .val (.ref a4), .val (.int p5), .val (.int (1 : Int32)), .unset, .unset, .unset] [(.ref a4), (.int (0 : Int32)), (.ref a4)])) _
      refine Goes.of (fun t k => XS.iconst X2321.here hx rfl (hb hby d9_105) k) ?_
      have Vc2342 := f2329
      obtain ⟨clc2342, Arc2342, qc2342, Sc2342, Nc2342, Hc2342, Gc2342⟩ := Vc2342
      have hin2343 : ¬ ((0 : Int32) < 0 ∨ clc2342.slots.size ≤ ((0 : Int32)).toNatClampNeg) := inb_of Sc2342 ⟨by decide, by decide⟩
      have hat2344 : clc2342.slots[((0 : Int32)).toNatClampNeg]? = some (.int (2 : Int32)) := Hc2342.at hin2343 rfl
      refine Goes.of (fun t k => X2321.iaload hx (j := (0 : Int32)) (v := (.int (2 : Int32))) (by rw [e2321]; exact Arc2342.1) (State.isArrayOf_alike hZ.alike Arc2342.2.1) Arc2342.2.2 hin2343 hat2344 (g := (mkF m 106 #[.val (.ref a1), .val (.ref a2), .val (.ref a3), .val (.ref a4), .val (.int p5), .val (.int (1 : Int32)), .unset, .unset, .unset] [(.int (0 : Int32)), (.ref a4), (.int (0 : Int32)), (.ref a4)])) rfl rfl (hb hby d9_106) _ k) ?_
      show Goes p e below (T2321.setTop (mkF m 107 #[.val (.ref a1), .val (.ref a2), .val (.ref a3), .val (.ref a4), .val (.int p5), .val (.int (1 : Int32)), .unset, .unset, .unset] [(.int (2 : Int32)), (.int (0 : Int32)), (.ref a4)])) _
      refine Goes.of (fun t k => XS.iconst X2321.here hx rfl (hb hby d9_107) k) ?_
      show Goes p e below (T2321.setTop (mkF m 108 #[.val (.ref a1), .val (.ref a2), .val (.ref a3), .val (.ref a4), .val (.int p5), .val (.int (1 : Int32)), .unset, .unset, .unset] [(.int (1 : Int32)), (.int (2 : Int32)), (.int (0 : Int32)), (.ref a4)])) _
      refine Goes.of (fun t k => XS.isub X2321.here hx rfl (hb hby d9_108) rfl k) ?_
      have Vc2345 := f2329
      obtain ⟨clc2345, Arc2345, qc2345, Sc2345, Nc2345, Hc2345, Gc2345⟩ := Vc2345
      have hin2346 : ¬ ((0 : Int32) < 0 ∨ clc2345.slots.size ≤ ((0 : Int32)).toNatClampNeg) := inb_of Sc2345 ⟨by decide, by decide⟩
      obtain ⟨T2347, h2347, X2347, e2347, W2347, st2347⟩ := stI X2321 hx hZ e2321 Arc2345 (j := (0 : Int32)) hin2346 (g := (mkF m 109 #[.val (.ref a1), .val (.ref a2), .val (.ref a3), .val (.ref a4), .val (.int p5), .val (.int (1 : Int32)), .unset, .unset, .unset] [(.int (1 : Int32)), (.int (0 : Int32)), (.ref a4)])) rfl rfl (hb hby d9_109)
      have V2347 : Arv Z h2347 a4 kC .int (1 : Int32) [(.int (1 : Int32))] (.int (0 : Int32)) := Arv.set Arc2345 qc2345 Sc2345 Nc2345 Hc2345 Gc2345 rfl W2347 0 rfl (Nat.le_of_ble_eq_true rfl)
      have K2348 : Keep h0 h2347 [a1, a3, a4, HA, FA, x0, x1] := K2322.wr W2347 (Or.inl (List.mem_of_getElem? (i := 2) rfl))
      have z2349 : n0 ≤ h2347.size := Nat.le_trans z2323 (Keep.of_wr W2347).1
      have f2350 := f2324.wr W2347
      have f2351 := f2325.other W2347 (Ne.symm n_a4_HA)
      have f2352 := f2326.wr W2347
      have f2353 := f2327.wr W2347
      have f2354 := V2321.other W2347 n_a3_a4
      have f2356 := f2330.wr W2347 g_a4
      have f2357 := f2331.other W2347 n_a2_a4
      have f2358 := f2332.other W2347 (Or.inl n_a1_a4)
      have f2359 := f2333.other W2347 (Or.inl n_a1_a4)
      have f2360 := f2334.other W2347 (Or.inl n_a1_a4)
      have f2361 := f2335.other W2347 (Or.inl n_a1_a4)
      have f2362 := f2336.other W2347 (Or.inl n_a1_a4)
      have f2363 := f2337.other W2347 (Or.inl n_a1_a4)
      have f2364 := f2338.other W2347 (Or.inl n_a1_a4)
      have f2365 := f2339.other W2347 (Ne.symm n_a4_FA)
      have f2366 := f2340.other W2347 (Or.inl (Ne.symm n_a4_x1))
      have f2367 := f2341.other W2347 (Or.inl (Ne.symm n_a4_x0))
      have N2347 := Fr.snoc X2347 N2321 g_a4
      refine Goes.of st2347 ?_
      show Goes p e below (T2347.setTop (mkF m 110 #[.val (.ref a1), .val (.ref a2), .val (.ref a3), .val (.ref a4), .val (.int p5), .val (.int (1 : Int32)), .unset, .unset, .unset] [])) _
      refine Goes.of (fun t k => XS.goto X2347.here hx rfl (pc0 := 110) (pc' := 134) rfl (hb hby d9_110) (by decide) (by decide) k) ?_
      show Goes p e below (T2347.setTop (mkF m 134 #[.val (.ref a1), .val (.ref a2), .val (.ref a3), .val (.ref a4), .val (.int p5), .val (.int (1 : Int32)), .unset, .unset, .unset] [])) _
      refine Goes.of (fun t k => XS.aloadN X2347.here hx rfl (hb hby d9_134) rfl rfl k) ?_
      obtain ⟨cq2368, kq2368, q2368a, q2368b, q2368c⟩ := isOf hZ e2347 f2350
      obtain ⟨_, _, ⟨T2368, L2368, k2368, n2368⟩, -, X2368, ⟨Lc2368, hQ2368, l2368, y2368, z2368⟩, st2368⟩ := X2347.virtualBack hx (y := (⟨"com/example/ripplematch/ripplematch/core/Agenda", "isEmpty", "()Z"⟩ : MethodName)) (z := (⟨"com/example/ripplematch/ripplematch/core/Agenda", "isEmpty", "()Z"⟩ : MethodName)) hown (mvT hZ (wd hw 64 rfl)) (mvT hZ (wd hw 65 rfl)) (notFace_of_selects (args := #[]) (mvT hZ (wd hw 67 rfl))) (mvT hZ (wd hw 67 rfl)) (mvT hZ (wd hw 66 rfl)) (by decide) (backOf (W := 0) (rm8 l Z a0 hw [] a1 (1 : Int32) h2347 n0 z2349 f2364) hZ (wd hw 68 rfl) (wd hw 2 rfl) (by decide) (by decide)) q2368a q2368c (g := (mkF m 135 #[.val (.ref a1), .val (.ref a2), .val (.ref a3), .val (.ref a4), .val (.int p5), .val (.int (1 : Int32)), .unset, .unset, .unset] [(.ref a1)])) rfl (by rw [hml]; rfl) (Steps.refl _) (argsL := []) (rest := []) (lenOf pd_6 rfl) rfl (by show 2 * 0 + _ ≤ _; exact Nat.le_of_eq rfl) (hb hby d9_135) (fun _ _ => ⟨rfl, e2347, (by decide : 0 + 0 ≤ _), (by decide : 0 + 0 ≤ _)⟩)
      dsimp only [Pt.U, Pt.locs, Pt.cells, Pt.slots] at X2368 l2368 y2368 z2368 st2368 hQ2368
      subst l2368 y2368 z2368
      obtain ⟨rfl, N2368q, e2368⟩ := hQ2368
      have N2368 := Fr.app N2347 N2368q
      refine Goes.of (fun t k => st2368.trans k) ?_
      show Goes p e below (T2368.setTop (mkF m 138 #[.val (.ref a1), .val (.ref a2), .val (.ref a3), .val (.ref a4), .val (.int p5), .val (.int (1 : Int32)), .unset, .unset, .unset] [(.int (0 : Int32))])) _
      refine Goes.of (fun t k => XS.aloadN X2368.here hx rfl (hb hby d9_138) rfl rfl k) ?_
      show Goes p e below (T2368.setTop (mkF m 139 #[.val (.ref a1), .val (.ref a2), .val (.ref a3), .val (.ref a4), .val (.int p5), .val (.int (1 : Int32)), .unset, .unset, .unset] [(.ref a4), (.int (0 : Int32))])) _
      refine Goes.of (fun t k => XS.iconst X2368.here hx rfl (hb hby d9_139) k) ?_
      have Vc2369 := V2347
      obtain ⟨clc2369, Arc2369, qc2369, Sc2369, Nc2369, Hc2369, Gc2369⟩ := Vc2369
      have hin2370 : ¬ ((0 : Int32) < 0 ∨ clc2369.slots.size ≤ ((0 : Int32)).toNatClampNeg) := inb_of Sc2369 ⟨by decide, by decide⟩
      have hat2371 : clc2369.slots[((0 : Int32)).toNatClampNeg]? = some (.int (1 : Int32)) := Hc2369.at hin2370 rfl
      refine Goes.of (fun t k => X2368.iaload hx (j := (0 : Int32)) (v := (.int (1 : Int32))) (by rw [e2368]; exact Arc2369.1) (State.isArrayOf_alike hZ.alike Arc2369.2.1) Arc2369.2.2 hin2370 hat2371 (g := (mkF m 140 #[.val (.ref a1), .val (.ref a2), .val (.ref a3), .val (.ref a4), .val (.int p5), .val (.int (1 : Int32)), .unset, .unset, .unset] [(.int (0 : Int32)), (.ref a4), (.int (0 : Int32))])) rfl rfl (hb hby d9_140) _ k) ?_
      show Goes p e below (T2368.setTop (mkF m 141 #[.val (.ref a1), .val (.ref a2), .val (.ref a3), .val (.ref a4), .val (.int p5), .val (.int (1 : Int32)), .unset, .unset, .unset] [(.int (1 : Int32)), (.int (0 : Int32))])) _
      refine Goes.of (fun t k => XS.ifYes X2368.here hx rfl (pc0 := 141) (pc' := 148) rfl (hb hby d9_141) rfl ((if0 _ _).trans (feq (by decide)).2) (by decide) (by decide) k) ?_
      show Goes p e below (T2368.setTop (mkF m 148 #[.val (.ref a1), .val (.ref a2), .val (.ref a3), .val (.ref a4), .val (.int p5), .val (.int (1 : Int32)), .unset, .unset, .unset] [(.int (0 : Int32))])) _
      refine Goes.of (fun t k => XS.iconst X2368.here hx rfl (hb hby d9_148) k) ?_
      show Goes p e below (T2368.setTop (mkF m 149 #[.val (.ref a1), .val (.ref a2), .val (.ref a3), .val (.ref a4), .val (.int p5), .val (.int (1 : Int32)), .unset, .unset, .unset] [(.int (0 : Int32)), (.int (0 : Int32))])) _
      refine Goes.of (fun t k => XS.icmpNo X2368.here hx rfl (hb hby d9_149) rfl (teq (by decide)).2 k) ?_
      show Goes p e below (T2368.setTop (mkF m 152 #[.val (.ref a1), .val (.ref a2), .val (.ref a3), .val (.ref a4), .val (.int p5), .val (.int (1 : Int32)), .unset, .unset, .unset] [])) _
      refine Goes.of (fun t k => XS.iconst X2368.here hx rfl (hb hby d9_152) k) ?_
      show Goes p e below (T2368.setTop (mkF m 153 #[.val (.ref a1), .val (.ref a2), .val (.ref a3), .val (.ref a4), .val (.int p5), .val (.int (1 : Int32)), .unset, .unset, .unset] [(.int (1 : Int32))])) _
      refine Goes.of (fun t k => XS.goto X2368.here hx rfl (pc0 := 153) (pc' := 157) rfl (hb hby d9_153) (by decide) (by decide) k) ?_
      show Goes p e below (T2368.setTop (mkF m 157 #[.val (.ref a1), .val (.ref a2), .val (.ref a3), .val (.ref a4), .val (.int p5), .val (.int (1 : Int32)), .unset, .unset, .unset] [(.int (1 : Int32))])) _
      have eh : T2368.heap = h2347 := e2368
      exact Goes.retN (t := .boolean) X2368 hx Bd.returns (by simp) hlocks (hb hby d9_157) (⟨rfl, N2368, by rw [eh]; exact K2348, Or.inr (Or.inl ⟨by rw [eh]; exact f2350, by rw [eh]; exact f2358, by rw [eh]; exact f2359, by rw [eh]; exact f2360, by rw [eh]; exact f2361, by rw [eh]; exact f2362, by rw [eh]; exact f2363, by rw [eh]; exact f2364, by rw [eh]; exact f2351, by rw [eh]; exact f2365, by rw [eh]; exact f2352, by rw [eh]; exact f2367, by rw [eh]; exact f2353, by rw [eh]; exact f2366, by rw [eh]; exact f2354, by rw [eh]; exact V2347⟩)⟩) (by decide) (by decide)
    · refine Goes.of (fun t k => XS.ifNo X0.here hx rfl (hb hby d9_10) rfl ((if0 _ _).trans (feq hc10_2291).1) k) ?_
      show Goes p e below (s₁.setTop (mkF m 13 #[.val (.ref a1), .val (.ref a2), .val (.ref a3), .val (.ref a4), .val (.int p5), .val (.int (1 : Int32)), .unset, .unset, .unset] [])) _
      refine Goes.of (fun t k => XS.aloadN X0.here hx rfl (hb hby d9_13) rfl rfl k) ?_
      show Goes p e below (s₁.setTop (mkF m 14 #[.val (.ref a1), .val (.ref a2), .val (.ref a3), .val (.ref a4), .val (.int p5), .val (.int (1 : Int32)), .unset, .unset, .unset] [(.ref a4)])) _
      refine Goes.of (fun t k => XS.iconst X0.here hx rfl (hb hby d9_14) k) ?_
      have Vc2372 := VC
      obtain ⟨clc2372, Arc2372, qc2372, Sc2372, Nc2372, Hc2372, Gc2372⟩ := Vc2372
      have hin2373 : ¬ ((0 : Int32) < 0 ∨ clc2372.slots.size ≤ ((0 : Int32)).toNatClampNeg) := inb_of Sc2372 ⟨by decide, by decide⟩
      have hat2374 : clc2372.slots[((0 : Int32)).toNatClampNeg]? = some (.int (2 : Int32)) := Hc2372.at hin2373 rfl
      refine Goes.of (fun t k => X0.iaload hx (j := (0 : Int32)) (v := (.int (2 : Int32))) (by rw [e0]; exact Arc2372.1) (State.isArrayOf_alike hZ.alike Arc2372.2.1) Arc2372.2.2 hin2373 hat2374 (g := (mkF m 15 #[.val (.ref a1), .val (.ref a2), .val (.ref a3), .val (.ref a4), .val (.int p5), .val (.int (1 : Int32)), .unset, .unset, .unset] [(.int (0 : Int32)), (.ref a4)])) rfl rfl (hb hby d9_15) _ k) ?_
      show Goes p e below (s₁.setTop (mkF m 16 #[.val (.ref a1), .val (.ref a2), .val (.ref a3), .val (.ref a4), .val (.int p5), .val (.int (1 : Int32)), .unset, .unset, .unset] [(.int (2 : Int32))])) _
      refine Goes.of (fun t k => XS.iconst X0.here hx rfl (hb hby d9_16) k) ?_
      show Goes p e below (s₁.setTop (mkF m 17 #[.val (.ref a1), .val (.ref a2), .val (.ref a3), .val (.ref a4), .val (.int p5), .val (.int (1 : Int32)), .unset, .unset, .unset] [(.int (1 : Int32)), (.int (2 : Int32))])) _
      refine Goes.of (fun t k => XS.icmpYes X0.here hx rfl (pc0 := 17) (pc' := 82) rfl (hb hby d9_17) rfl (feq (by decide)).2 (by decide) (by decide) k) ?_
      show Goes p e below (s₁.setTop (mkF m 82 #[.val (.ref a1), .val (.ref a2), .val (.ref a3), .val (.ref a4), .val (.int p5), .val (.int (1 : Int32)), .unset, .unset, .unset] [])) _
      refine Goes.of (fun t k => XS.aloadN X0.here hx rfl (hb hby d9_82) rfl rfl k) ?_
      show Goes p e below (s₁.setTop (mkF m 83 #[.val (.ref a1), .val (.ref a2), .val (.ref a3), .val (.ref a4), .val (.int p5), .val (.int (1 : Int32)), .unset, .unset, .unset] [(.ref a3)])) _
      refine Goes.of (fun t k => XS.iload X0.here hx rfl (hb hby d9_83) rfl k) ?_
      have Vc2375 := VO
      obtain ⟨clc2375, Arc2375, qc2375, Sc2375, Nc2375, Hc2375, Gc2375⟩ := Vc2375
      have hin2376 : ¬ ((1 : Int32) < 0 ∨ clc2375.slots.size ≤ ((1 : Int32)).toNatClampNeg) := inb_of Sc2375 ⟨by decide, by decide⟩
      have hat2377 : clc2375.slots[((1 : Int32)).toNatClampNeg]? = some (.int (1 : Int32)) := Hc2375.at hin2376 rfl
      refine Goes.of (fun t k => X0.baloadBooleans hx (j := (1 : Int32)) (v := (.int (1 : Int32))) (by rw [e0]; exact Arc2375.1) (State.isArrayOf_alike hZ.alike Arc2375.2.1) Arc2375.2.2 hin2376 hat2377 (g := (mkF m 85 #[.val (.ref a1), .val (.ref a2), .val (.ref a3), .val (.ref a4), .val (.int p5), .val (.int (1 : Int32)), .unset, .unset, .unset] [(.int (1 : Int32)), (.ref a3)])) rfl rfl (hb hby d9_85) _ k) ?_
      show Goes p e below (s₁.setTop (mkF m 86 #[.val (.ref a1), .val (.ref a2), .val (.ref a3), .val (.ref a4), .val (.int p5), .val (.int (1 : Int32)), .unset, .unset, .unset] [(.int (1 : Int32))])) _
      refine Goes.of (fun t k => XS.ifNo X0.here hx rfl (hb hby d9_86) rfl ((if0 _ _).trans (feq (by decide)).1) k) ?_
      show Goes p e below (s₁.setTop (mkF m 89 #[.val (.ref a1), .val (.ref a2), .val (.ref a3), .val (.ref a4), .val (.int p5), .val (.int (1 : Int32)), .unset, .unset, .unset] [])) _
      refine Goes.of (fun t k => XS.aloadN X0.here hx rfl (hb hby d9_89) rfl rfl k) ?_
      show Goes p e below (s₁.setTop (mkF m 90 #[.val (.ref a1), .val (.ref a2), .val (.ref a3), .val (.ref a4), .val (.int p5), .val (.int (1 : Int32)), .unset, .unset, .unset] [(.ref a1)])) _
      refine Goes.of (fun t k => XS.aloadN X0.here hx rfl (hb hby d9_90) rfl rfl k) ?_
      show Goes p e below (s₁.setTop (mkF m 91 #[.val (.ref a1), .val (.ref a2), .val (.ref a3), .val (.ref a4), .val (.int p5), .val (.int (1 : Int32)), .unset, .unset, .unset] [(.ref a2), (.ref a1)])) _
      refine Goes.of (fun t k => XS.iload X0.here hx rfl (hb hby d9_91) rfl k) ?_
      have Vc2378 := VT
      obtain ⟨clc2378, Arc2378, qc2378, Sc2378, Nc2378, Hc2378, Gc2378⟩ := Vc2378
      have hin2379 : ¬ ((1 : Int32) < 0 ∨ clc2378.slots.size ≤ ((1 : Int32)).toNatClampNeg) := inb_of Sc2378 ⟨by decide, by decide⟩
      have hat2380 : clc2378.slots[((1 : Int32)).toNatClampNeg]? = some (.ref x1) := Hc2378.at hin2379 rfl
      refine Goes.of (fun t k => X0.aaload hx (j := (1 : Int32)) (v := (.ref x1)) (by rw [e0]; exact Arc2378.1) (State.isArrayOf_alike hZ.alike Arc2378.2.1) rfl Arc2378.2.2 hin2379 hat2380 (g := (mkF m 93 #[.val (.ref a1), .val (.ref a2), .val (.ref a3), .val (.ref a4), .val (.int p5), .val (.int (1 : Int32)), .unset, .unset, .unset] [(.int (1 : Int32)), (.ref a2), (.ref a1)])) rfl rfl (hb hby d9_93) _ k) ?_
      obtain ⟨cq2381, kq2381, q2381a, q2381b, q2381c⟩ := isOf hZ e0 E
      obtain ⟨_, _, ⟨T2381, L2381, k2381, n2381⟩, -, X2381, ⟨Lc2381, hQ2381, l2381, y2381, z2381⟩, st2381⟩ := X0.virtualBack hx (y := (⟨"com/example/ripplematch/ripplematch/core/Agenda", "remove", "(Lcom/example/ripplematch/ripplematch/core/Activation;)V"⟩ : MethodName)) (z := (⟨"com/example/ripplematch/ripplematch/core/Agenda", "remove", "(Lcom/example/ripplematch/ripplematch/core/Activation;)V"⟩ : MethodName)) hown (mvT hZ (wd hw 85 rfl)) (mvT hZ (wd hw 86 rfl)) (notFace_of_selects (args := #[]) (mvT hZ (wd hw 88 rfl))) (mvT hZ (wd hw 88 rfl)) (mvT hZ (wd hw 87 rfl)) (by decide) (backOf (W := 0) (rm11_576 l Z a0 hw [] a1 x1 HA FA x0 _ _ h0 n0 Z0 O0 SA E F_heap F_heapSize F_gone F_disordered F_fresh F_freshSize F_size VH VF E_x1 P_x1 E_x0 P_x0 g_a1 g_HA g_FA g_x1 g_x0 n_a1_HA n_a1_FA n_a1_x1 n_a1_x0 n_HA_FA n_HA_x1 n_HA_x0 n_FA_x1 n_FA_x0 (Ne.symm n_x0_x1) OH OF) hZ (wd hw 89 rfl) (wd hw 2 rfl) (by decide) (by decide)) q2381a q2381c (g := (mkF m 94 #[.val (.ref a1), .val (.ref a2), .val (.ref a3), .val (.ref a4), .val (.int p5), .val (.int (1 : Int32)), .unset, .unset, .unset] [(.ref x1), (.ref a1)])) rfl (by rw [hml]; rfl) (Steps.refl _) (argsL := [(.ref x1)]) (rest := []) (lenOf pd_5 rfl) rfl (by show 2 * 0 + _ ≤ _; exact Nat.le_of_eq rfl) (hb hby d9_94) (fun _ _ => ⟨rfl, e0, (by decide : 0 + 0 ≤ _), (by decide : 0 + 0 ≤ _)⟩)
      dsimp only [Pt.U, Pt.locs, Pt.cells, Pt.slots] at X2381 l2381 y2381 z2381 st2381 hQ2381
      subst l2381 y2381 z2381
      obtain ⟨rfl, N2381q, K2381, E_2381, F_heap_2381, F_heapSize_2381, F_gone_2381, F_disordered_2381, F_fresh_2381, F_freshSize_2381, F_size_2381, VH_2381, VF_2381, E_x1_2381, P_x1_2381, E_x0_2381, P_x0_2381⟩ := hQ2381
      have N2381 := Fr.app N0 N2381q
      have K2382 : Keep h0 T2381.heap [a1, a3, a4, HA, FA, x0, x1] := K0.trans K2381 (allS (Or.inl (List.mem_of_getElem? (i := 0) rfl)) (allS (Or.inl (List.mem_of_getElem? (i := 4) rfl)) (allS (Or.inl (List.mem_of_getElem? (i := 6) rfl)) (allS (Or.inl (List.mem_of_getElem? (i := 5) rfl)) all0))))
      have z2383 : n0 ≤ T2381.heap.size := Nat.le_trans Z0 K2381.1
      have f2384 := E.keep K2381
      have f2392 := VH.keep K2381 (ninS (Ne.symm n_a1_HA) (ninS n_HA_FA (ninS n_HA_x1 (ninS n_HA_x0 nin0))))
      have f2394 := E_x0.keep K2381
      have f2396 := E_x1.keep K2381
      have f2398 := VO.keep K2381 (ninS (Ne.symm n_a1_a3) (ninS n_a3_FA (ninS n_a3_x1 (ninS n_a3_x0 nin0))))
      have f2399 := VC.keep K2381 (ninS (Ne.symm n_a1_a4) (ninS n_a4_FA (ninS n_a4_x1 (ninS n_a4_x0 nin0))))
      have f2400 := O0.keep K2381 (allS g_a1 (allS g_FA (allS g_x1 (allS g_x0 all0))))
      have f2401 := VT.keep K2381 (ninS (Ne.symm n_a1_a2) (ninS n_a2_FA (ninS n_a2_x1 (ninS n_a2_x0 nin0))))
      refine Goes.of (fun t k => st2381.trans k) ?_
      show Goes p e below (T2381.setTop (mkF m 97 #[.val (.ref a1), .val (.ref a2), .val (.ref a3), .val (.ref a4), .val (.int p5), .val (.int (1 : Int32)), .unset, .unset, .unset] [])) _
      refine Goes.of (fun t k => XS.aloadN X2381.here hx rfl (hb hby d9_97) rfl rfl k) ?_
      show Goes p e below (T2381.setTop (mkF m 98 #[.val (.ref a1), .val (.ref a2), .val (.ref a3), .val (.ref a4), .val (.int p5), .val (.int (1 : Int32)), .unset, .unset, .unset] [(.ref a3)])) _
      refine Goes.of (fun t k => XS.iload X2381.here hx rfl (hb hby d9_98) rfl k) ?_
      show Goes p e below (T2381.setTop (mkF m 100 #[.val (.ref a1), .val (.ref a2), .val (.ref a3), .val (.ref a4), .val (.int p5), .val (.int (1 : Int32)), .unset, .unset, .unset] [(.int (1 : Int32)), (.ref a3)])) _
      refine Goes.of (fun t k => XS.iconst X2381.here hx rfl (hb hby d9_100) k) ?_
      have Vc2402 := f2398
      obtain ⟨clc2402, Arc2402, qc2402, Sc2402, Nc2402, Hc2402, Gc2402⟩ := Vc2402
      have hin2403 : ¬ ((1 : Int32) < 0 ∨ clc2402.slots.size ≤ ((1 : Int32)).toNatClampNeg) := inb_of Sc2402 ⟨by decide, by decide⟩
      obtain ⟨T2404, h2404, X2404, e2404, W2404, st2404⟩ := stZ X2381 hx hZ rfl Arc2402 (j := (1 : Int32)) hin2403 (g := (mkF m 101 #[.val (.ref a1), .val (.ref a2), .val (.ref a3), .val (.ref a4), .val (.int p5), .val (.int (1 : Int32)), .unset, .unset, .unset] [(.int (0 : Int32)), (.int (1 : Int32)), (.ref a3)])) rfl rfl (hb hby d9_101)
      have V2404 : Arv Z h2404 a3 kO .boolean (2 : Int32) [(.int (1 : Int32)), (.int (nar .boolean (0 : Int32)))] (.int (0 : Int32)) := Arv.set Arc2402 qc2402 Sc2402 Nc2402 Hc2402 Gc2402 (fits_nar_bool _) W2404 1 rfl (Nat.le_of_ble_eq_true rfl)
      have K2405 : Keep h0 h2404 [a1, a3, a4, HA, FA, x0, x1] := K2382.wr W2404 (Or.inl (List.mem_of_getElem? (i := 1) rfl))
      have z2406 : n0 ≤ h2404.size := Nat.le_trans z2383 (Keep.of_wr W2404).1
      have f2407 := E_2381.wr W2404
      have f2408 := VH_2381.other W2404 (Ne.symm n_a3_HA)
      have f2409 := E_x0_2381.wr W2404
      have f2410 := E_x1_2381.wr W2404
      have f2412 := f2399.other W2404 (Ne.symm n_a3_a4)
      have f2413 := f2400.wr W2404 g_a3
      have f2414 := f2401.other W2404 n_a2_a3
      have f2415 := F_heap_2381.other W2404 (Or.inl n_a1_a3)
      have f2416 := F_heapSize_2381.other W2404 (Or.inl n_a1_a3)
      have f2417 := F_gone_2381.other W2404 (Or.inl n_a1_a3)
      have f2418 := F_disordered_2381.other W2404 (Or.inl n_a1_a3)
      have f2419 := F_fresh_2381.other W2404 (Or.inl n_a1_a3)
      have f2420 := F_freshSize_2381.other W2404 (Or.inl n_a1_a3)
      have f2421 := F_size_2381.other W2404 (Or.inl n_a1_a3)
      have f2422 := VF_2381.other W2404 (Ne.symm n_a3_FA)
      have f2423 := P_x1_2381.other W2404 (Or.inl (Ne.symm n_a3_x1))
      have f2424 := P_x0_2381.other W2404 (Or.inl (Ne.symm n_a3_x0))
      have N2404 := Fr.snoc X2404 N2381 g_a3
      refine Goes.of st2404 ?_
      show Goes p e below (T2404.setTop (mkF m 102 #[.val (.ref a1), .val (.ref a2), .val (.ref a3), .val (.ref a4), .val (.int p5), .val (.int (1 : Int32)), .unset, .unset, .unset] [])) _
      refine Goes.of (fun t k => XS.aloadN X2404.here hx rfl (hb hby d9_102) rfl rfl k) ?_
      show Goes p e below (T2404.setTop (mkF m 103 #[.val (.ref a1), .val (.ref a2), .val (.ref a3), .val (.ref a4), .val (.int p5), .val (.int (1 : Int32)), .unset, .unset, .unset] [(.ref a4)])) _
      refine Goes.of (fun t k => XS.iconst X2404.here hx rfl (hb hby d9_103) k) ?_
      show Goes p e below (T2404.setTop (mkF m 104 #[.val (.ref a1), .val (.ref a2), .val (.ref a3), .val (.ref a4), .val (.int p5), .val (.int (1 : Int32)), .unset, .unset, .unset] [(.int (0 : Int32)), (.ref a4)])) _
      refine Goes.of (fun t k => XS.aloadN X2404.here hx rfl (hb hby d9_104) rfl rfl k) ?_
      show Goes p e below (T2404.setTop (mkF m 105 #[.val (.ref a1), .val (.ref a2), .val (.ref a3), .val (.ref a4), .val (.int p5), .val (.int (1 : Int32)), .unset, .unset, .unset] [(.ref a4), (.int (0 : Int32)), (.ref a4)])) _
      refine Goes.of (fun t k => XS.iconst X2404.here hx rfl (hb hby d9_105) k) ?_
      have Vc2425 := f2412
      obtain ⟨clc2425, Arc2425, qc2425, Sc2425, Nc2425, Hc2425, Gc2425⟩ := Vc2425
      have hin2426 : ¬ ((0 : Int32) < 0 ∨ clc2425.slots.size ≤ ((0 : Int32)).toNatClampNeg) := inb_of Sc2425 ⟨by decide, by decide⟩
      have hat2427 : clc2425.slots[((0 : Int32)).toNatClampNeg]? = some (.int (2 : Int32)) := Hc2425.at hin2426 rfl
      refine Goes.of (fun t k => X2404.iaload hx (j := (0 : Int32)) (v := (.int (2 : Int32))) (by rw [e2404]; exact Arc2425.1) (State.isArrayOf_alike hZ.alike Arc2425.2.1) Arc2425.2.2 hin2426 hat2427 (g := (mkF m 106 #[.val (.ref a1), .val (.ref a2), .val (.ref a3), .val (.ref a4), .val (.int p5), .val (.int (1 : Int32)), .unset, .unset, .unset] [(.int (0 : Int32)), (.ref a4), (.int (0 : Int32)), (.ref a4)])) rfl rfl (hb hby d9_106) _ k) ?_
      show Goes p e below (T2404.setTop (mkF m 107 #[.val (.ref a1), .val (.ref a2), .val (.ref a3), .val (.ref a4), .val (.int p5), .val (.int (1 : Int32)), .unset, .unset, .unset] [(.int (2 : Int32)), (.int (0 : Int32)), (.ref a4)])) _
      refine Goes.of (fun t k => XS.iconst X2404.here hx rfl (hb hby d9_107) k) ?_
      show Goes p e below (T2404.setTop (mkF m 108 #[.val (.ref a1), .val (.ref a2), .val (.ref a3), .val (.ref a4), .val (.int p5), .val (.int (1 : Int32)), .unset, .unset, .unset] [(.int (1 : Int32)), (.int (2 : Int32)), (.int (0 : Int32)), (.ref a4)])) _
      refine Goes.of (fun t k => XS.isub X2404.here hx rfl (hb hby d9_108) rfl k) ?_
      have Vc2428 := f2412
      obtain ⟨clc2428, Arc2428, qc2428, Sc2428, Nc2428, Hc2428, Gc2428⟩ := Vc2428
      have hin2429 : ¬ ((0 : Int32) < 0 ∨ clc2428.slots.size ≤ ((0 : Int32)).toNatClampNeg) := inb_of Sc2428 ⟨by decide, by decide⟩
      obtain ⟨T2430, h2430, X2430, e2430, W2430, st2430⟩ := stI X2404 hx hZ e2404 Arc2428 (j := (0 : Int32)) hin2429 (g := (mkF m 109 #[.val (.ref a1), .val (.ref a2), .val (.ref a3), .val (.ref a4), .val (.int p5), .val (.int (1 : Int32)), .unset, .unset, .unset] [(.int (1 : Int32)), (.int (0 : Int32)), (.ref a4)])) rfl rfl (hb hby d9_109)
      have V2430 : Arv Z h2430 a4 kC .int (1 : Int32) [(.int (1 : Int32))] (.int (0 : Int32)) := Arv.set Arc2428 qc2428 Sc2428 Nc2428 Hc2428 Gc2428 rfl W2430 0 rfl (Nat.le_of_ble_eq_true rfl)
      have K2431 : Keep h0 h2430 [a1, a3, a4, HA, FA, x0, x1] := K2405.wr W2430 (Or.inl (List.mem_of_getElem? (i := 2) rfl))
      have z2432 : n0 ≤ h2430.size := Nat.le_trans z2406 (Keep.of_wr W2430).1
      have f2433 := f2407.wr W2430
      have f2434 := f2408.other W2430 (Ne.symm n_a4_HA)
      have f2435 := f2409.wr W2430
      have f2436 := f2410.wr W2430
      have f2437 := V2404.other W2430 n_a3_a4
      have f2439 := f2413.wr W2430 g_a4
      have f2440 := f2414.other W2430 n_a2_a4
      have f2441 := f2415.other W2430 (Or.inl n_a1_a4)
      have f2442 := f2416.other W2430 (Or.inl n_a1_a4)
      have f2443 := f2417.other W2430 (Or.inl n_a1_a4)
      have f2444 := f2418.other W2430 (Or.inl n_a1_a4)
      have f2445 := f2419.other W2430 (Or.inl n_a1_a4)
      have f2446 := f2420.other W2430 (Or.inl n_a1_a4)
      have f2447 := f2421.other W2430 (Or.inl n_a1_a4)
      have f2448 := f2422.other W2430 (Ne.symm n_a4_FA)
      have f2449 := f2423.other W2430 (Or.inl (Ne.symm n_a4_x1))
      have f2450 := f2424.other W2430 (Or.inl (Ne.symm n_a4_x0))
      have N2430 := Fr.snoc X2430 N2404 g_a4
      refine Goes.of st2430 ?_
      show Goes p e below (T2430.setTop (mkF m 110 #[.val (.ref a1), .val (.ref a2), .val (.ref a3), .val (.ref a4), .val (.int p5), .val (.int (1 : Int32)), .unset, .unset, .unset] [])) _
      refine Goes.of (fun t k => XS.goto X2430.here hx rfl (pc0 := 110) (pc' := 134) rfl (hb hby d9_110) (by decide) (by decide) k) ?_
      show Goes p e below (T2430.setTop (mkF m 134 #[.val (.ref a1), .val (.ref a2), .val (.ref a3), .val (.ref a4), .val (.int p5), .val (.int (1 : Int32)), .unset, .unset, .unset] [])) _
      refine Goes.of (fun t k => XS.aloadN X2430.here hx rfl (hb hby d9_134) rfl rfl k) ?_
      obtain ⟨cq2451, kq2451, q2451a, q2451b, q2451c⟩ := isOf hZ e2430 f2433
      obtain ⟨_, _, ⟨T2451, L2451, k2451, n2451⟩, -, X2451, ⟨Lc2451, hQ2451, l2451, y2451, z2451⟩, st2451⟩ := X2430.virtualBack hx (y := (⟨"com/example/ripplematch/ripplematch/core/Agenda", "isEmpty", "()Z"⟩ : MethodName)) (z := (⟨"com/example/ripplematch/ripplematch/core/Agenda", "isEmpty", "()Z"⟩ : MethodName)) hown (mvT hZ (wd hw 64 rfl)) (mvT hZ (wd hw 65 rfl)) (notFace_of_selects (args := #[]) (mvT hZ (wd hw 67 rfl))) (mvT hZ (wd hw 67 rfl)) (mvT hZ (wd hw 66 rfl)) (by decide) (backOf (W := 0) (rm8 l Z a0 hw [] a1 (1 : Int32) h2430 n0 z2432 f2447) hZ (wd hw 68 rfl) (wd hw 2 rfl) (by decide) (by decide)) q2451a q2451c (g := (mkF m 135 #[.val (.ref a1), .val (.ref a2), .val (.ref a3), .val (.ref a4), .val (.int p5), .val (.int (1 : Int32)), .unset, .unset, .unset] [(.ref a1)])) rfl (by rw [hml]; rfl) (Steps.refl _) (argsL := []) (rest := []) (lenOf pd_6 rfl) rfl (by show 2 * 0 + _ ≤ _; exact Nat.le_of_eq rfl) (hb hby d9_135) (fun _ _ => ⟨rfl, e2430, (by decide : 0 + 0 ≤ _), (by decide : 0 + 0 ≤ _)⟩)
      dsimp only [Pt.U, Pt.locs, Pt.cells, Pt.slots] at X2451 l2451 y2451 z2451 st2451 hQ2451
      subst l2451 y2451 z2451
      obtain ⟨rfl, N2451q, e2451⟩ := hQ2451
      have N2451 := Fr.app N2430 N2451q
      refine Goes.of (fun t k => st2451.trans k) ?_
      show Goes p e below (T2451.setTop (mkF m 138 #[.val (.ref a1), .val (.ref a2), .val (.ref a3), .val (.ref a4), .val (.int p5), .val (.int (1 : Int32)), .unset, .unset, .unset] [(.int (0 : Int32))])) _
      refine Goes.of (fun t k => XS.aloadN X2451.here hx rfl (hb hby d9_138) rfl rfl k) ?_
      show Goes p e below (T2451.setTop (mkF m 139 #[.val (.ref a1), .val (.ref a2), .val (.ref a3), .val (.ref a4), .val (.int p5), .val (.int (1 : Int32)), .unset, .unset, .unset] [(.ref a4), (.int (0 : Int32))])) _
      refine Goes.of (fun t k => XS.iconst X2451.here hx rfl (hb hby d9_139) k) ?_
      have Vc2452 := V2430
      obtain ⟨clc2452, Arc2452, qc2452, Sc2452, Nc2452, Hc2452, Gc2452⟩ := Vc2452
      have hin2453 : ¬ ((0 : Int32) < 0 ∨ clc2452.slots.size ≤ ((0 : Int32)).toNatClampNeg) := inb_of Sc2452 ⟨by decide, by decide⟩
      have hat2454 : clc2452.slots[((0 : Int32)).toNatClampNeg]? = some (.int (1 : Int32)) := Hc2452.at hin2453 rfl
      refine Goes.of (fun t k => X2451.iaload hx (j := (0 : Int32)) (v := (.int (1 : Int32))) (by rw [e2451]; exact Arc2452.1) (State.isArrayOf_alike hZ.alike Arc2452.2.1) Arc2452.2.2 hin2453 hat2454 (g := (mkF m 140 #[.val (.ref a1), .val (.ref a2), .val (.ref a3), .val (.ref a4), .val (.int p5), .val (.int (1 : Int32)), .unset, .unset, .unset] [(.int (0 : Int32)), (.ref a4), (.int (0 : Int32))])) rfl rfl (hb hby d9_140) _ k) ?_
      show Goes p e below (T2451.setTop (mkF m 141 #[.val (.ref a1), .val (.ref a2), .val (.ref a3), .val (.ref a4), .val (.int p5), .val (.int (1 : Int32)), .unset, .unset, .unset] [(.int (1 : Int32)), (.int (0 : Int32))])) _
      refine Goes.of (fun t k => XS.ifYes X2451.here hx rfl (pc0 := 141) (pc' := 148) rfl (hb hby d9_141) rfl ((if0 _ _).trans (feq (by decide)).2) (by decide) (by decide) k) ?_
      show Goes p e below (T2451.setTop (mkF m 148 #[.val (.ref a1), .val (.ref a2), .val (.ref a3), .val (.ref a4), .val (.int p5), .val (.int (1 : Int32)), .unset, .unset, .unset] [(.int (0 : Int32))])) _
      refine Goes.of (fun t k => XS.iconst X2451.here hx rfl (hb hby d9_148) k) ?_
      show Goes p e below (T2451.setTop (mkF m 149 #[.val (.ref a1), .val (.ref a2), .val (.ref a3), .val (.ref a4), .val (.int p5), .val (.int (1 : Int32)), .unset, .unset, .unset] [(.int (0 : Int32)), (.int (0 : Int32))])) _
      refine Goes.of (fun t k => XS.icmpNo X2451.here hx rfl (hb hby d9_149) rfl (teq (by decide)).2 k) ?_
      show Goes p e below (T2451.setTop (mkF m 152 #[.val (.ref a1), .val (.ref a2), .val (.ref a3), .val (.ref a4), .val (.int p5), .val (.int (1 : Int32)), .unset, .unset, .unset] [])) _
      refine Goes.of (fun t k => XS.iconst X2451.here hx rfl (hb hby d9_152) k) ?_
      show Goes p e below (T2451.setTop (mkF m 153 #[.val (.ref a1), .val (.ref a2), .val (.ref a3), .val (.ref a4), .val (.int p5), .val (.int (1 : Int32)), .unset, .unset, .unset] [(.int (1 : Int32))])) _
      refine Goes.of (fun t k => XS.goto X2451.here hx rfl (pc0 := 153) (pc' := 157) rfl (hb hby d9_153) (by decide) (by decide) k) ?_
      show Goes p e below (T2451.setTop (mkF m 157 #[.val (.ref a1), .val (.ref a2), .val (.ref a3), .val (.ref a4), .val (.int p5), .val (.int (1 : Int32)), .unset, .unset, .unset] [(.int (1 : Int32))])) _
      have eh : T2451.heap = h2430 := e2451
      exact Goes.retN (t := .boolean) X2451 hx Bd.returns (by simp) hlocks (hb hby d9_157) (⟨rfl, N2451, by rw [eh]; exact K2431, Or.inr (Or.inl ⟨by rw [eh]; exact f2433, by rw [eh]; exact f2441, by rw [eh]; exact f2442, by rw [eh]; exact f2443, by rw [eh]; exact f2444, by rw [eh]; exact f2445, by rw [eh]; exact f2446, by rw [eh]; exact f2447, by rw [eh]; exact f2434, by rw [eh]; exact f2448, by rw [eh]; exact f2435, by rw [eh]; exact f2450, by rw [eh]; exact f2436, by rw [eh]; exact f2449, by rw [eh]; exact f2437, by rw [eh]; exact V2430⟩)⟩) (by decide) (by decide)
theorem own_rm9 (l : Launch) (Z : State) (a0 : Array Value) (hw : ∀ d ∈ tables_1, d.before a0 Z = true) (ws : List Jvm.Cond) (a1 : Addr) (a2 : Addr) (a3 : Addr) (a4 : Addr) (p5 : Int32) (HA : Addr) (FA : Addr) (x0 : Addr) (x1 : Addr) (kH : ClassId) (kF : ClassId) (kO : ClassId) (kC : ClassId) (kT : ClassId) (h0 : Heap) (n0 : Nat) (Z0 : n0 ≤ h0.size) (O0 : Old Z n0 h0) (SA : Sta Z Z.heap "com/example/ripplematch/ripplematch/core/Agenda" "$assertionsDisabled" "Z" (.int (1 : Int32))) (I9 : own_st Z h0 a1 a2 a3 a4 HA FA x0 x1 kH kF kO kC) (VT : Arv Z h0 a2 kT (.object "com/example/ripplematch/ripplematch/core/Activation") (2 : Int32) [(.ref x0), (.ref x1)] .null) (g_a1 : n0 ≤ a1) (g_a3 : n0 ≤ a3) (g_a4 : n0 ≤ a4) (g_HA : n0 ≤ HA) (g_FA : n0 ≤ FA) (g_x0 : n0 ≤ x0) (g_x1 : n0 ≤ x1) (n_a1_a2 : a1 ≠ a2) (n_a1_a3 : a1 ≠ a3) (n_a1_a4 : a1 ≠ a4) (n_a1_HA : a1 ≠ HA) (n_a1_FA : a1 ≠ FA) (n_a1_x0 : a1 ≠ x0) (n_a1_x1 : a1 ≠ x1) (n_a2_a3 : a2 ≠ a3) (n_a2_a4 : a2 ≠ a4) (n_a2_HA : a2 ≠ HA) (n_a2_FA : a2 ≠ FA) (n_a2_x0 : a2 ≠ x0) (n_a2_x1 : a2 ≠ x1) (n_a3_a4 : a3 ≠ a4) (n_a3_HA : a3 ≠ HA) (n_a3_FA : a3 ≠ FA) (n_a3_x0 : a3 ≠ x0) (n_a3_x1 : a3 ≠ x1) (n_a4_HA : a4 ≠ HA) (n_a4_FA : a4 ≠ FA) (n_a4_x0 : a4 ≠ x0) (n_a4_x1 : a4 ≠ x1) (n_HA_FA : HA ≠ FA) (n_HA_x0 : HA ≠ x0) (n_HA_x1 : HA ≠ x1) (n_FA_x0 : FA ≠ x0) (n_FA_x1 : FA ≠ x1) (n_x0_x1 : x0 ≠ x1) (OH : Ovr Z kH "com/example/ripplematch/ripplematch/core/Activation") (OF : Ovr Z kF "com/example/ripplematch/ripplematch/core/Activation") :
    MetFree l (⟨"com/example/ripplematch/ripplematch/core/AgendaIsEmptyPinLaw", "step", "(Lcom/example/ripplematch/ripplematch/core/Agenda;[Lcom/example/ripplematch/ripplematch/core/Activation;[Z[II)Z"⟩ : MethodName) (head1 (Jvm.Cond.code (⟨"com/example/ripplematch/ripplematch/core/AgendaIsEmptyPinLaw", "step", "(Lcom/example/ripplematch/ripplematch/core/Agenda;[Lcom/example/ripplematch/ripplematch/core/Activation;[Z[II)Z"⟩ : MethodName) method_3_code 9 (some .boolean) :: ws) ({ frames := 4, cells := 0, slots := 0, locals := 60 } : Room)) (fun a U => a = #[(.ref a1), (.ref a2), (.ref a3), (.ref a4), (.int p5)] ∧ Z.Warmed39 U.vm ∧ U.heap = h0) (fun _ _ _ _ _ => True) (fun _ U o U' => ∃ v L, o = .returned v ∧ Q9 Z a1 a2 a3 a4 p5 HA FA x0 x1 kH kF kO kC kT h0 n0 v U'.heap L ∧ FrameEnd U o U' L ({ frames := 4, cells := 0, slots := 0, locals := 60 } : Room).cells ({ frames := 4, cells := 0, slots := 0, locals := 60 } : Room).slots) := by
  rcases I9 with ⟨i0, i1, i2, i3, i4, i5, i6, i7, i8, i9, i10, i11, i12, i13, i14, i15⟩ | ⟨i0, i1, i2, i3, i4, i5, i6, i7, i8, i9, i10, i11, i12, i13, i14, i15⟩ | ⟨i0, i1, i2, i3, i4, i5, i6, i7, i8, i9, i10, i11, i12, i13, i14, i15⟩ | ⟨i0, i1, i2, i3, i4, i5, i6, i7, i8, i9, i10, i11, i12, i13, i14, i15⟩ | ⟨i0, i1, i2, i3, i4, i5, i6, i7, i8, i9, i10, i11, i12, i13, i14, i15⟩
  · exact rm9 l Z a0 hw ws a1 a2 a3 a4 p5 HA FA x0 x1 kH kF kO kC kT h0 n0 Z0 O0 SA i0 i1 i2 i3 i4 i5 i6 i7 i8 i9 i10 i11 i12 i13 i14 i15 VT g_a1 g_a3 g_a4 g_HA g_FA g_x0 g_x1 n_a1_a2 n_a1_a3 n_a1_a4 n_a1_HA n_a1_FA n_a1_x0 n_a1_x1 n_a2_a3 n_a2_a4 n_a2_HA n_a2_FA n_a2_x0 n_a2_x1 n_a3_a4 n_a3_HA n_a3_FA n_a3_x0 n_a3_x1 n_a4_HA n_a4_FA n_a4_x0 n_a4_x1 n_HA_FA n_HA_x0 n_HA_x1 n_FA_x0 n_FA_x1 n_x0_x1 OH OF
  · exact rm9_1163 l Z a0 hw ws a1 a2 a3 a4 p5 HA FA x0 x1 kH kF kO kC kT h0 n0 Z0 O0 SA i0 i1 i2 i3 i4 i5 i6 i7 i8 i9 i10 i11 i12 i13 i14 i15 VT g_a1 g_a3 g_a4 g_HA g_FA g_x0 g_x1 n_a1_a2 n_a1_a3 n_a1_a4 n_a1_HA n_a1_FA n_a1_x0 n_a1_x1 n_a2_a3 n_a2_a4 n_a2_HA n_a2_FA n_a2_x0 n_a2_x1 n_a3_a4 n_a3_HA n_a3_FA n_a3_x0 n_a3_x1 n_a4_HA n_a4_FA n_a4_x0 n_a4_x1 n_HA_FA n_HA_x0 n_HA_x1 n_FA_x0 n_FA_x1 n_x0_x1 OH OF
  · exact rm9_1480 l Z a0 hw ws a1 a2 a3 a4 p5 HA FA x0 x1 kH kF kO kC kT h0 n0 Z0 O0 SA i0 i1 i2 i3 i4 i5 i6 i7 i8 i9 i10 i11 i12 i13 i14 i15 VT g_a1 g_a3 g_a4 g_HA g_FA g_x0 g_x1 n_a1_a2 n_a1_a3 n_a1_a4 n_a1_HA n_a1_FA n_a1_x0 n_a1_x1 n_a2_a3 n_a2_a4 n_a2_HA n_a2_FA n_a2_x0 n_a2_x1 n_a3_a4 n_a3_HA n_a3_FA n_a3_x0 n_a3_x1 n_a4_HA n_a4_FA n_a4_x0 n_a4_x1 n_HA_FA n_HA_x0 n_HA_x1 n_FA_x0 n_FA_x1 n_x0_x1 OH OF
  · exact rm9_1797 l Z a0 hw ws a1 a2 a3 a4 p5 HA FA x0 x1 kH kF kO kC kT h0 n0 Z0 O0 SA i0 i1 i2 i3 i4 i5 i6 i7 i8 i9 i10 i11 i12 i13 i14 i15 VT g_a1 g_a3 g_a4 g_HA g_FA g_x0 g_x1 n_a1_a2 n_a1_a3 n_a1_a4 n_a1_HA n_a1_FA n_a1_x0 n_a1_x1 n_a2_a3 n_a2_a4 n_a2_HA n_a2_FA n_a2_x0 n_a2_x1 n_a3_a4 n_a3_HA n_a3_FA n_a3_x0 n_a3_x1 n_a4_HA n_a4_FA n_a4_x0 n_a4_x1 n_HA_FA n_HA_x0 n_HA_x1 n_FA_x0 n_FA_x1 n_x0_x1 OH OF
  · exact rm9_2126 l Z a0 hw ws a1 a2 a3 a4 p5 HA FA x0 x1 kH kF kO kC kT h0 n0 Z0 O0 SA i0 i1 i2 i3 i4 i5 i6 i7 i8 i9 i10 i11 i12 i13 i14 i15 VT g_a1 g_a3 g_a4 g_HA g_FA g_x0 g_x1 n_a1_a2 n_a1_a3 n_a1_a4 n_a1_HA n_a1_FA n_a1_x0 n_a1_x1 n_a2_a3 n_a2_a4 n_a2_HA n_a2_FA n_a2_x0 n_a2_x1 n_a3_a4 n_a3_HA n_a3_FA n_a3_x0 n_a3_x1 n_a4_HA n_a4_FA n_a4_x0 n_a4_x1 n_HA_FA n_HA_x0 n_HA_x1 n_FA_x0 n_FA_x1 n_x0_x1 OH OF
theorem ef_4 (m : MethodId) (x0 : Addr) : entryFrame m #[(.ref x0), .null, .null, .null] 4 = mkF m 0 #[.val (.ref x0), .val .null, .val .null, .val .null] [] := by first | (simp [entryFrame, mkF, argsToLocals, Value.category]; done) | rfl
def Q4 (Z : State) (a1 : Addr) (h0 : Heap) (n0 : Nat) (v : Option Value) (h : Heap) (L : List Loc) : Prop := v = none ∧ Fr n0 L ∧ Keep h0 h [a1] ∧ Exa Z h a1 "com/example/ripplematch/ripplematch/core/PartialMatch" ∧ Fld Z h a1 "com/example/ripplematch/ripplematch/core/PartialMatch" "parent" "Lcom/example/ripplematch/ripplematch/core/PartialMatch;" .null ∧ Fld Z h a1 "com/example/ripplematch/ripplematch/core/PartialMatch" "holders" "I" (.int (0 : Int32))
set_option maxRecDepth 65536 in
set_option maxHeartbeats 40000000 in
theorem rm4 (l : Launch) (Z : State) (a0 : Array Value) (hw : ∀ d ∈ tables_1, d.before a0 Z = true) (ws : List Jvm.Cond) (a1 : Addr) (h0 : Heap) (n0 : Nat) (Z0 : n0 ≤ h0.size) (E : Exa Z h0 a1 "com/example/ripplematch/ripplematch/core/PartialMatch") (g : n0 ≤ a1) (F_linked : Fld Z h0 a1 "com/example/ripplematch/ripplematch/core/PartialMatch" "linked" "Z" (.int (0 : Int32))) (F_parent : Fld Z h0 a1 "com/example/ripplematch/ripplematch/core/PartialMatch" "parent" "Lcom/example/ripplematch/ripplematch/core/PartialMatch;" .null) (F_fact : Fld Z h0 a1 "com/example/ripplematch/ripplematch/core/PartialMatch" "fact" "Lcom/example/ripplematch/ripplematch/core/Fact;" .null) (F_node : Fld Z h0 a1 "com/example/ripplematch/ripplematch/core/PartialMatch" "node" "Lcom/example/ripplematch/ripplematch/core/BetaNode;" .null) (F_size : Fld Z h0 a1 "com/example/ripplematch/ripplematch/core/PartialMatch" "size" "I" (.int (0 : Int32))) (F_holders : Fld Z h0 a1 "com/example/ripplematch/ripplematch/core/PartialMatch" "holders" "I" (.int (0 : Int32))) :
    MetFree l (⟨"com/example/ripplematch/ripplematch/core/PartialMatch", "<init>", "(Lcom/example/ripplematch/ripplematch/core/PartialMatch;Lcom/example/ripplematch/ripplematch/core/Fact;Lcom/example/ripplematch/ripplematch/core/BetaNode;)V"⟩ : MethodName) (head1 (Jvm.Cond.code (⟨"com/example/ripplematch/ripplematch/core/PartialMatch", "<init>", "(Lcom/example/ripplematch/ripplematch/core/PartialMatch;Lcom/example/ripplematch/ripplematch/core/Fact;Lcom/example/ripplematch/ripplematch/core/BetaNode;)V"⟩ : MethodName) prog_51_method_1_code 4 none :: ws) ({ frames := 1, cells := 0, slots := 0, locals := 12 } : Room)) (fun a U => a = #[(.ref a1), .null, .null, .null] ∧ Z.Warmed39 U.vm ∧ U.heap = h0) (fun _ _ _ _ _ => True) (fun _ U o U' => ∃ v L, o = .returned v ∧ Q4 Z a1 h0 n0 v U'.heap L ∧ FrameEnd U o U' L ({ frames := 1, cells := 0, slots := 0, locals := 12 } : Room).cells ({ frames := 1, cells := 0, slots := 0, locals := 12 } : Room).slots) := by
  refine MetFree.of_bodySF (plainFor_of_name pn_8) hisR ?_
  intro p e s m args below meth c s₁ Bd hml0 hP hK
  obtain ⟨rfl, hZ, hh⟩ := hP
  have hx := Bd.exec
  have hby := Bd.bytes
  have hml : c.maxLocals = 4 := hml0
  have hown : s.vm.findClass "com/example/ripplematch/ripplematch/core/PartialMatch" = some m.cls := findClass_of_methodNamed Bd.named
  have hnm := (name_of_methodNamed Bd.named Bd.method).1
  have hlocks : meth.locks = false := BodyLoose.notSynchronized Bd
  have X0 : Stand p l e ({ frames := 1, cells := 0, slots := 0, locals := 12 } : Room) s m #[(.ref a1), .null, .null, .null] below meth c s₁ [] 0 0 := Stand.of_body Bd
  have e0 : s₁.heap = h0 := by rw [← hh, Bd.state]; rfl
  have N0 := Fr.nil n0
  show Goes p e below (s₁.setTop (entryFrame m #[(.ref a1), .null, .null, .null] 4)) (Fin s (Q4 Z a1 h0 n0) ({ frames := 1, cells := 0, slots := 0, locals := 12 } : Room).cells ({ frames := 1, cells := 0, slots := 0, locals := 12 } : Room).slots)
  refine Goes.of (fun t k => castTop (ef_4 m a1) k) ?_
  have K0 : Keep h0 h0 [a1] := Keep.refl _ _
  show Goes p e below (s₁.setTop (mkF m 0 #[.val (.ref a1), .val .null, .val .null, .val .null] [])) _
  refine Goes.of (fun t k => XS.aloadN X0.here hx rfl (hb hby d4_0) rfl rfl k) ?_
  obtain ⟨T2455, X2455, e2455, st2455⟩ := initO X0 hx hZ hown (wd hw 24 rfl) (wd hw 7 rfl) (wd hw 8 rfl) e0 (g := (mkF m 1 #[.val (.ref a1), .val .null, .val .null, .val .null] [(.ref a1)])) rfl (by rw [hml]; rfl) rfl (hb hby d4_1) (by decide) (W := 0) (by show 2 * 0 + _ ≤ _; exact Nat.le_of_eq rfl) (by decide)
  refine Goes.of st2455 ?_
  show Goes p e below (T2455.setTop (mkF m 4 #[.val (.ref a1), .val .null, .val .null, .val .null] [])) _
  refine Goes.of (fun t k => XS.aloadN X2455.here hx rfl (hb hby d4_4) rfl rfl k) ?_
  show Goes p e below (T2455.setTop (mkF m 5 #[.val (.ref a1), .val .null, .val .null, .val .null] [(.ref a1)])) _
  refine Goes.of (fun t k => XS.iconst X2455.here hx rfl (hb hby d4_5) k) ?_
  obtain ⟨T2456, h2456, X2456, e2456, W2456, st2456⟩ := putFN X2455 hx hZ hown (wd hw 25 rfl) Via.refl e2455 F_linked E (Or.inl (wd hw 26 rfl)) (wd hw 20 rfl) (ty := .boolean) (v' := (.int (1 : Int32))) (by decide) rfl (by decide) (g := (mkF m 6 #[.val (.ref a1), .val .null, .val .null, .val .null] [(.int (1 : Int32)), (.ref a1)])) rfl rfl (hb hby d4_6)
  have f2457 := F_linked.same W2456
  have K2458 : Keep h0 h2456 [a1] := K0.wr W2456 (Or.inl (List.mem_of_getElem? (i := 0) rfl))
  have z2459 : n0 ≤ h2456.size := Nat.le_trans Z0 (Keep.of_wr W2456).1
  have f2460 := E.wr W2456
  have f2462 := F_parent.other W2456 (Or.inr (slot_ne (Or.inr (wd hw 28 rfl)) (Or.inl (wd hw 26 rfl)) (by decide) (t := (.object "com/example/ripplematch/ripplematch/core/PartialMatch")) (t' := .boolean) (by decide) (by decide)))
  have f2463 := F_fact.other W2456 (Or.inr (slot_ne (Or.inr (wd hw 30 rfl)) (Or.inl (wd hw 26 rfl)) (by decide) (t := (.object "com/example/ripplematch/ripplematch/core/Fact")) (t' := .boolean) (by decide) (by decide)))
  have f2464 := F_node.other W2456 (Or.inr (slot_ne (Or.inr (wd hw 32 rfl)) (Or.inl (wd hw 26 rfl)) (by decide) (t := (.object "com/example/ripplematch/ripplematch/core/BetaNode")) (t' := .boolean) (by decide) (by decide)))
  have f2465 := F_size.other W2456 (Or.inr (slot_ne (Or.inr (wd hw 34 rfl)) (Or.inl (wd hw 26 rfl)) (by decide) (t := .int) (t' := .boolean) (by decide) (by decide)))
  have f2466 := F_holders.other W2456 (Or.inr (slot_ne (Or.inl (wd hw 36 rfl)) (Or.inl (wd hw 26 rfl)) (by decide) (t := .int) (t' := .boolean) (by decide) (by decide)))
  have N2456 := Fr.snoc X2456 N0 g
  refine Goes.of st2456 ?_
  show Goes p e below (T2456.setTop (mkF m 9 #[.val (.ref a1), .val .null, .val .null, .val .null] [])) _
  refine Goes.of (fun t k => XS.aloadN X2456.here hx rfl (hb hby d4_9) rfl rfl k) ?_
  show Goes p e below (T2456.setTop (mkF m 10 #[.val (.ref a1), .val .null, .val .null, .val .null] [(.ref a1)])) _
  refine Goes.of (fun t k => XS.aloadN X2456.here hx rfl (hb hby d4_10) rfl rfl k) ?_
  obtain ⟨T2467, h2467, X2467, e2467, W2467, st2467⟩ := putF X2456 hx hZ hown (host := "") (Or.inl (wd hw 27 rfl)) Via.refl e2456 f2462 f2460 (Or.inr ⟨(wd hw 28 rfl), rfl, hnm⟩) (wd hw 20 rfl) (ty := (.object "com/example/ripplematch/ripplematch/core/PartialMatch")) (by decide) rfl rfl (g := (mkF m 11 #[.val (.ref a1), .val .null, .val .null, .val .null] [.null, (.ref a1)])) rfl rfl (hb hby d4_11)
  have f2468 := f2462.same W2467
  have K2469 : Keep h0 h2467 [a1] := K2458.wr W2467 (Or.inl (List.mem_of_getElem? (i := 0) rfl))
  have z2470 : n0 ≤ h2467.size := Nat.le_trans z2459 (Keep.of_wr W2467).1
  have f2471 := f2460.wr W2467
  have f2472 := f2457.other W2467 (Or.inr (slot_ne (Or.inl (wd hw 26 rfl)) (Or.inr (wd hw 28 rfl)) (by decide) (t := .boolean) (t' := (.object "com/example/ripplematch/ripplematch/core/PartialMatch")) (by decide) (by decide)))
  have f2474 := f2463.other W2467 (Or.inr (slot_ne (Or.inr (wd hw 30 rfl)) (Or.inr (wd hw 28 rfl)) (by decide) (t := (.object "com/example/ripplematch/ripplematch/core/Fact")) (t' := (.object "com/example/ripplematch/ripplematch/core/PartialMatch")) (by decide) (by decide)))
  have f2475 := f2464.other W2467 (Or.inr (slot_ne (Or.inr (wd hw 32 rfl)) (Or.inr (wd hw 28 rfl)) (by decide) (t := (.object "com/example/ripplematch/ripplematch/core/BetaNode")) (t' := (.object "com/example/ripplematch/ripplematch/core/PartialMatch")) (by decide) (by decide)))
  have f2476 := f2465.other W2467 (Or.inr (slot_ne (Or.inr (wd hw 34 rfl)) (Or.inr (wd hw 28 rfl)) (by decide) (t := .int) (t' := (.object "com/example/ripplematch/ripplematch/core/PartialMatch")) (by decide) (by decide)))
  have f2477 := f2466.other W2467 (Or.inr (slot_ne (Or.inl (wd hw 36 rfl)) (Or.inr (wd hw 28 rfl)) (by decide) (t := .int) (t' := (.object "com/example/ripplematch/ripplematch/core/PartialMatch")) (by decide) (by decide)))
  have N2467 := Fr.snoc X2467 N2456 g
  refine Goes.of st2467 ?_
  show Goes p e below (T2467.setTop (mkF m 14 #[.val (.ref a1), .val .null, .val .null, .val .null] [])) _
  refine Goes.of (fun t k => XS.aloadN X2467.here hx rfl (hb hby d4_14) rfl rfl k) ?_
  show Goes p e below (T2467.setTop (mkF m 15 #[.val (.ref a1), .val .null, .val .null, .val .null] [(.ref a1)])) _
  refine Goes.of (fun t k => XS.aloadN X2467.here hx rfl (hb hby d4_15) rfl rfl k) ?_
  obtain ⟨T2478, h2478, X2478, e2478, W2478, st2478⟩ := putF X2467 hx hZ hown (host := "") (Or.inl (wd hw 29 rfl)) Via.refl e2467 f2474 f2471 (Or.inr ⟨(wd hw 30 rfl), rfl, hnm⟩) (wd hw 20 rfl) (ty := (.object "com/example/ripplematch/ripplematch/core/Fact")) (by decide) rfl rfl (g := (mkF m 16 #[.val (.ref a1), .val .null, .val .null, .val .null] [.null, (.ref a1)])) rfl rfl (hb hby d4_16)
  have f2479 := f2474.same W2478
  have K2480 : Keep h0 h2478 [a1] := K2469.wr W2478 (Or.inl (List.mem_of_getElem? (i := 0) rfl))
  have z2481 : n0 ≤ h2478.size := Nat.le_trans z2470 (Keep.of_wr W2478).1
  have f2482 := f2471.wr W2478
  have f2483 := f2472.other W2478 (Or.inr (slot_ne (Or.inl (wd hw 26 rfl)) (Or.inr (wd hw 30 rfl)) (by decide) (t := .boolean) (t' := (.object "com/example/ripplematch/ripplematch/core/Fact")) (by decide) (by decide)))
  have f2484 := f2468.other W2478 (Or.inr (slot_ne (Or.inr (wd hw 28 rfl)) (Or.inr (wd hw 30 rfl)) (by decide) (t := (.object "com/example/ripplematch/ripplematch/core/PartialMatch")) (t' := (.object "com/example/ripplematch/ripplematch/core/Fact")) (by decide) (by decide)))
  have f2486 := f2475.other W2478 (Or.inr (slot_ne (Or.inr (wd hw 32 rfl)) (Or.inr (wd hw 30 rfl)) (by decide) (t := (.object "com/example/ripplematch/ripplematch/core/BetaNode")) (t' := (.object "com/example/ripplematch/ripplematch/core/Fact")) (by decide) (by decide)))
  have f2487 := f2476.other W2478 (Or.inr (slot_ne (Or.inr (wd hw 34 rfl)) (Or.inr (wd hw 30 rfl)) (by decide) (t := .int) (t' := (.object "com/example/ripplematch/ripplematch/core/Fact")) (by decide) (by decide)))
  have f2488 := f2477.other W2478 (Or.inr (slot_ne (Or.inl (wd hw 36 rfl)) (Or.inr (wd hw 30 rfl)) (by decide) (t := .int) (t' := (.object "com/example/ripplematch/ripplematch/core/Fact")) (by decide) (by decide)))
  have N2478 := Fr.snoc X2478 N2467 g
  refine Goes.of st2478 ?_
  show Goes p e below (T2478.setTop (mkF m 19 #[.val (.ref a1), .val .null, .val .null, .val .null] [])) _
  refine Goes.of (fun t k => XS.aloadN X2478.here hx rfl (hb hby d4_19) rfl rfl k) ?_
  show Goes p e below (T2478.setTop (mkF m 20 #[.val (.ref a1), .val .null, .val .null, .val .null] [(.ref a1)])) _
  refine Goes.of (fun t k => XS.aloadN X2478.here hx rfl (hb hby d4_20) rfl rfl k) ?_
  obtain ⟨T2489, h2489, X2489, e2489, W2489, st2489⟩ := putF X2478 hx hZ hown (host := "") (Or.inl (wd hw 31 rfl)) Via.refl e2478 f2486 f2482 (Or.inr ⟨(wd hw 32 rfl), rfl, hnm⟩) (wd hw 20 rfl) (ty := (.object "com/example/ripplematch/ripplematch/core/BetaNode")) (by decide) rfl rfl (g := (mkF m 21 #[.val (.ref a1), .val .null, .val .null, .val .null] [.null, (.ref a1)])) rfl rfl (hb hby d4_21)
  have f2490 := f2486.same W2489
  have K2491 : Keep h0 h2489 [a1] := K2480.wr W2489 (Or.inl (List.mem_of_getElem? (i := 0) rfl))
  have z2492 : n0 ≤ h2489.size := Nat.le_trans z2481 (Keep.of_wr W2489).1
  have f2493 := f2482.wr W2489
  have f2494 := f2483.other W2489 (Or.inr (slot_ne (Or.inl (wd hw 26 rfl)) (Or.inr (wd hw 32 rfl)) (by decide) (t := .boolean) (t' := (.object "com/example/ripplematch/ripplematch/core/BetaNode")) (by decide) (by decide)))
  have f2495 := f2484.other W2489 (Or.inr (slot_ne (Or.inr (wd hw 28 rfl)) (Or.inr (wd hw 32 rfl)) (by decide) (t := (.object "com/example/ripplematch/ripplematch/core/PartialMatch")) (t' := (.object "com/example/ripplematch/ripplematch/core/BetaNode")) (by decide) (by decide)))
  have f2496 := f2479.other W2489 (Or.inr (slot_ne (Or.inr (wd hw 30 rfl)) (Or.inr (wd hw 32 rfl)) (by decide) (t := (.object "com/example/ripplematch/ripplematch/core/Fact")) (t' := (.object "com/example/ripplematch/ripplematch/core/BetaNode")) (by decide) (by decide)))
  have f2498 := f2487.other W2489 (Or.inr (slot_ne (Or.inr (wd hw 34 rfl)) (Or.inr (wd hw 32 rfl)) (by decide) (t := .int) (t' := (.object "com/example/ripplematch/ripplematch/core/BetaNode")) (by decide) (by decide)))
  have f2499 := f2488.other W2489 (Or.inr (slot_ne (Or.inl (wd hw 36 rfl)) (Or.inr (wd hw 32 rfl)) (by decide) (t := .int) (t' := (.object "com/example/ripplematch/ripplematch/core/BetaNode")) (by decide) (by decide)))
  have N2489 := Fr.snoc X2489 N2478 g
  refine Goes.of st2489 ?_
  show Goes p e below (T2489.setTop (mkF m 24 #[.val (.ref a1), .val .null, .val .null, .val .null] [])) _
  refine Goes.of (fun t k => XS.aloadN X2489.here hx rfl (hb hby d4_24) rfl rfl k) ?_
  show Goes p e below (T2489.setTop (mkF m 25 #[.val (.ref a1), .val .null, .val .null, .val .null] [(.ref a1)])) _
  refine Goes.of (fun t k => XS.aloadN X2489.here hx rfl (hb hby d4_25) rfl rfl k) ?_
  show Goes p e below (T2489.setTop (mkF m 26 #[.val (.ref a1), .val .null, .val .null, .val .null] [.null, (.ref a1)])) _
  refine Goes.of (fun t k => XS.ifnonnullNo X2489.here hx rfl (hb hby d4_26) rfl k) ?_
  show Goes p e below (T2489.setTop (mkF m 29 #[.val (.ref a1), .val .null, .val .null, .val .null] [(.ref a1)])) _
  refine Goes.of (fun t k => XS.iconst X2489.here hx rfl (hb hby d4_29) k) ?_
  show Goes p e below (T2489.setTop (mkF m 30 #[.val (.ref a1), .val .null, .val .null, .val .null] [(.int (0 : Int32)), (.ref a1)])) _
  refine Goes.of (fun t k => XS.goto X2489.here hx rfl (pc0 := 30) (pc' := 39) rfl (hb hby d4_30) (by decide) (by decide) k) ?_
  obtain ⟨T2500, h2500, X2500, e2500, W2500, st2500⟩ := putF X2489 hx hZ hown (host := "") (Or.inl (wd hw 33 rfl)) Via.refl e2489 f2498 f2493 (Or.inr ⟨(wd hw 34 rfl), rfl, hnm⟩) (wd hw 20 rfl) (ty := .int) (by decide) rfl rfl (g := (mkF m 39 #[.val (.ref a1), .val .null, .val .null, .val .null] [(.int (0 : Int32)), (.ref a1)])) rfl rfl (hb hby d4_39)
  have f2501 := f2498.same W2500
  have K2502 : Keep h0 h2500 [a1] := K2491.wr W2500 (Or.inl (List.mem_of_getElem? (i := 0) rfl))
  have z2503 : n0 ≤ h2500.size := Nat.le_trans z2492 (Keep.of_wr W2500).1
  have f2504 := f2493.wr W2500
  have f2505 := f2494.other W2500 (Or.inr (slot_ne (Or.inl (wd hw 26 rfl)) (Or.inr (wd hw 34 rfl)) (by decide) (t := .boolean) (t' := .int) (by decide) (by decide)))
  have f2506 := f2495.other W2500 (Or.inr (slot_ne (Or.inr (wd hw 28 rfl)) (Or.inr (wd hw 34 rfl)) (by decide) (t := (.object "com/example/ripplematch/ripplematch/core/PartialMatch")) (t' := .int) (by decide) (by decide)))
  have f2507 := f2496.other W2500 (Or.inr (slot_ne (Or.inr (wd hw 30 rfl)) (Or.inr (wd hw 34 rfl)) (by decide) (t := (.object "com/example/ripplematch/ripplematch/core/Fact")) (t' := .int) (by decide) (by decide)))
  have f2508 := f2490.other W2500 (Or.inr (slot_ne (Or.inr (wd hw 32 rfl)) (Or.inr (wd hw 34 rfl)) (by decide) (t := (.object "com/example/ripplematch/ripplematch/core/BetaNode")) (t' := .int) (by decide) (by decide)))
  have f2510 := f2499.other W2500 (Or.inr (slot_ne (Or.inl (wd hw 36 rfl)) (Or.inr (wd hw 34 rfl)) (by decide) (t := .int) (t' := .int) (by decide) (by decide)))
  have N2500 := Fr.snoc X2500 N2489 g
  refine Goes.of st2500 ?_
  show Goes p e below (T2500.setTop (mkF m 42 #[.val (.ref a1), .val .null, .val .null, .val .null] [])) _
  refine Goes.of (fun t k => XS.aloadN X2500.here hx rfl (hb hby d4_42) rfl rfl k) ?_
  show Goes p e below (T2500.setTop (mkF m 43 #[.val (.ref a1), .val .null, .val .null, .val .null] [.null])) _
  refine Goes.of (fun t k => XS.ifnullYes X2500.here hx rfl (pc0 := 43) (pc' := 74) rfl (hb hby d4_43) rfl (by decide) (by decide) k) ?_
  show Goes p e below (T2500.setTop (mkF m 74 #[.val (.ref a1), .val .null, .val .null, .val .null] [])) _
  refine Goes.of (fun t k => XS.aloadN X2500.here hx rfl (hb hby d4_74) rfl rfl k) ?_
  show Goes p e below (T2500.setTop (mkF m 75 #[.val (.ref a1), .val .null, .val .null, .val .null] [.null])) _
  refine Goes.of (fun t k => XS.ifnullYes X2500.here hx rfl (pc0 := 75) (pc' := 106) rfl (hb hby d4_75) rfl (by decide) (by decide) k) ?_
  show Goes p e below (T2500.setTop (mkF m 106 #[.val (.ref a1), .val .null, .val .null, .val .null] [])) _
  have eh : T2500.heap = h2500 := e2500
  exact Goes.retV X2500 hx Bd.returns hlocks (hb hby d4_106) (⟨rfl, N2500, by rw [eh]; exact K2502, by rw [eh]; exact f2504, by rw [eh]; exact f2506, by rw [eh]; exact f2510⟩) (by decide) (by decide)
theorem ef_3 (m : MethodId)  : entryFrame m #[] 1 = mkF m 0 #[.unset] [] := by first | (simp [entryFrame, mkF, argsToLocals, Value.category]; done) | rfl
def Q3 (Z : State)  (h0 : Heap) (n0 : Nat) (v : Option Value) (h : Heap) (L : List Loc) : Prop := ∃ b : Addr, v = some (.ref b) ∧ Fr n0 L ∧ Keep h0 h [] ∧ h0.size ≤ b ∧ Exa Z h b "com/example/ripplematch/ripplematch/core/PartialMatch" ∧ Fld Z h b "com/example/ripplematch/ripplematch/core/PartialMatch" "parent" "Lcom/example/ripplematch/ripplematch/core/PartialMatch;" .null
set_option maxRecDepth 65536 in
set_option maxHeartbeats 40000000 in
theorem rm3 (l : Launch) (Z : State) (a0 : Array Value) (hw : ∀ d ∈ tables_1, d.before a0 Z = true) (ws : List Jvm.Cond)  (h0 : Heap) (n0 : Nat) (Z0 : n0 ≤ h0.size)  :
    MetFree l (⟨"com/example/ripplematch/ripplematch/core/PartialMatch", "root", "()Lcom/example/ripplematch/ripplematch/core/PartialMatch;"⟩ : MethodName) (head1 (Jvm.Cond.code (⟨"com/example/ripplematch/ripplematch/core/PartialMatch", "root", "()Lcom/example/ripplematch/ripplematch/core/PartialMatch;"⟩ : MethodName) prog_51_method_2_code 1 (some (.object "com/example/ripplematch/ripplematch/core/PartialMatch")) :: ws) ({ frames := 2, cells := 1, slots := 15, locals := 28 } : Room)) (fun a U => a = #[] ∧ Z.Warmed39 U.vm ∧ U.heap = h0) (fun _ _ _ _ _ => True) (fun _ U o U' => ∃ v L, o = .returned v ∧ Q3 Z  h0 n0 v U'.heap L ∧ FrameEnd U o U' L ({ frames := 2, cells := 1, slots := 15, locals := 28 } : Room).cells ({ frames := 2, cells := 1, slots := 15, locals := 28 } : Room).slots) := by
  refine MetFree.of_bodySF (plainFor_of_name pn_8) hisR ?_
  intro p e s m args below meth c s₁ Bd hml0 hP hK
  obtain ⟨rfl, hZ, hh⟩ := hP
  have hx := Bd.exec
  have hby := Bd.bytes
  have hml : c.maxLocals = 1 := hml0
  have hown : s.vm.findClass "com/example/ripplematch/ripplematch/core/PartialMatch" = some m.cls := findClass_of_methodNamed Bd.named
  have hnm := (name_of_methodNamed Bd.named Bd.method).1
  have hlocks : meth.locks = false := BodyLoose.notSynchronized Bd
  have X0 : Stand p l e ({ frames := 2, cells := 1, slots := 15, locals := 28 } : Room) s m #[] below meth c s₁ [] 0 0 := Stand.of_body Bd
  have e0 : s₁.heap = h0 := by rw [← hh, Bd.state]; rfl
  have N0 := Fr.nil n0
  show Goes p e below (s₁.setTop (entryFrame m #[] 1)) (Fin s (Q3 Z  h0 n0) ({ frames := 2, cells := 1, slots := 15, locals := 28 } : Room).cells ({ frames := 2, cells := 1, slots := 15, locals := 28 } : Room).slots)
  refine Goes.of (fun t k => castTop (ef_3 m ) k) ?_
  have K0 : Keep h0 h0 [] := Keep.refl _ _
  obtain ⟨T2511, h2511, X2511, e2511, E2511, A2511, D2511, -, st2511⟩ := newO X0 hx hZ hown (wd hw 19 rfl) (wd hw 20 rfl) (wd hw 17 rfl) e0 (g := (mkF m 0 #[.unset] [])) rfl (hb hby d3_0) (by decide) (by decide)
  obtain ⟨b2511, g2511⟩ : ∃ z, z = h0.size := ⟨_, rfl⟩
  rw [← g2511] at A2511 D2511 st2511
  have g2512 : n0 ≤ b2511 := Nat.le_trans Z0 (Nat.le_of_eq g2511.symm)
  have z2513 : n0 ≤ h2511.size := Nat.le_trans Z0 E2511.1
  have z2514 : h0.size ≤ b2511 := Nat.le_trans K0.1 (Nat.le_of_eq g2511.symm)
  have K2515 : Keep h0 h2511 [] := K0.ext E2511
  have f2516 : Fld Z h2511 b2511 "com/example/ripplematch/ripplematch/core/PartialMatch" "linked" "Z" (.int (0 : Int32)) := D2511 (Or.inl (wd hw 26 rfl)) (ty := .boolean) (by decide)
  have f2517 : Fld Z h2511 b2511 "com/example/ripplematch/ripplematch/core/PartialMatch" "parent" "Lcom/example/ripplematch/ripplematch/core/PartialMatch;" .null := D2511 (Or.inr (wd hw 28 rfl)) (ty := (.object "com/example/ripplematch/ripplematch/core/PartialMatch")) (by decide)
  have f2518 : Fld Z h2511 b2511 "com/example/ripplematch/ripplematch/core/PartialMatch" "fact" "Lcom/example/ripplematch/ripplematch/core/Fact;" .null := D2511 (Or.inr (wd hw 30 rfl)) (ty := (.object "com/example/ripplematch/ripplematch/core/Fact")) (by decide)
  have f2519 : Fld Z h2511 b2511 "com/example/ripplematch/ripplematch/core/PartialMatch" "node" "Lcom/example/ripplematch/ripplematch/core/BetaNode;" .null := D2511 (Or.inr (wd hw 32 rfl)) (ty := (.object "com/example/ripplematch/ripplematch/core/BetaNode")) (by decide)
  have f2520 : Fld Z h2511 b2511 "com/example/ripplematch/ripplematch/core/PartialMatch" "size" "I" (.int (0 : Int32)) := D2511 (Or.inr (wd hw 34 rfl)) (ty := .int) (by decide)
  have f2521 : Fld Z h2511 b2511 "com/example/ripplematch/ripplematch/core/PartialMatch" "holders" "I" (.int (0 : Int32)) := D2511 (Or.inl (wd hw 36 rfl)) (ty := .int) (by decide)
  refine Goes.of st2511 ?_
  show Goes p e below (T2511.setTop (mkF m 3 #[.unset] [(.ref b2511)])) _
  refine Goes.of (fun t k => XS.dup X2511.here hx rfl (hb hby d3_3) rfl rfl k) ?_
  show Goes p e below (T2511.setTop (mkF m 4 #[.unset] [(.ref b2511), (.ref b2511)])) _
  refine Goes.of (fun t k => XS.aconstNull X2511.here hx rfl (hb hby d3_4) k) ?_
  show Goes p e below (T2511.setTop (mkF m 5 #[.unset] [.null, (.ref b2511), (.ref b2511)])) _
  refine Goes.of (fun t k => XS.aconstNull X2511.here hx rfl (hb hby d3_5) k) ?_
  show Goes p e below (T2511.setTop (mkF m 6 #[.unset] [.null, .null, (.ref b2511), (.ref b2511)])) _
  refine Goes.of (fun t k => XS.aconstNull X2511.here hx rfl (hb hby d3_6) k) ?_
  obtain ⟨_, _, ⟨T2522, L2522, k2522, n2522⟩, -, X2522, ⟨Lc2522, hQ2522, l2522, y2522, z2522⟩, st2522⟩ := X2511.specialBack hx (y := (⟨"com/example/ripplematch/ripplematch/core/PartialMatch", "<init>", "(Lcom/example/ripplematch/ripplematch/core/PartialMatch;Lcom/example/ripplematch/ripplematch/core/Fact;Lcom/example/ripplematch/ripplematch/core/BetaNode;)V"⟩ : MethodName)) rfl hown (mvT hZ (wd hw 21 rfl)) (mvT hZ (wd hw 22 rfl)) (mvT hZ (wd hw 23 rfl)) (by decide) (backOf (W := 1) (rm4 l Z a0 hw [] b2511     h2511 n0 z2513 A2511 g2512 f2516 f2517 f2518 f2519 f2520 f2521) hZ (wd hw 23 rfl) (wd hw 17 rfl) (by decide) (by decide)) (g := (mkF m 7 #[.unset] [.null, .null, .null, (.ref b2511), (.ref b2511)])) rfl (by rw [hml]; rfl) (Steps.refl _) (a := b2511) (argsL := [.null, .null, .null]) (rest := [(.ref b2511)]) (lenOf pd_9 rfl) rfl (by show 2 * 0 + _ ≤ _; exact Nat.le_of_eq rfl) (hb hby d3_7) (fun _ _ => ⟨rfl, e2511, (by decide : 1 + 0 ≤ _), (by decide : 15 + 0 ≤ _)⟩)
  dsimp only [Pt.U, Pt.locs, Pt.cells, Pt.slots] at X2522 l2522 y2522 z2522 st2522 hQ2522
  subst l2522 y2522 z2522
  obtain ⟨rfl, N2522q, K2522, E2522, Fp2522, Fh2522⟩ := hQ2522
  have N2522 := Fr.app N0 N2522q
  have K2523 : Keep h0 T2522.heap [] := K2515.trans K2522 (allS (Or.inr z2514) all0)
  have z2524 : n0 ≤ T2522.heap.size := Nat.le_trans z2513 K2522.1
  have f2525 := A2511.keep K2522
  refine Goes.of (fun t k => st2522.trans k) ?_
  show Goes p e below (T2522.setTop (mkF m 10 #[.unset] [(.ref b2511)])) _
  refine Goes.of (fun t k => XS.astoreN X2522.here hx rfl (hb hby d3_10) rfl rfl (l' := #[.val (.ref b2511)]) rfl k) ?_
  show Goes p e below (T2522.setTop (mkF m 11 #[.val (.ref b2511)] [])) _
  refine Goes.of (fun t k => XS.aloadN X2522.here hx rfl (hb hby d3_11) rfl rfl k) ?_
  show Goes p e below (T2522.setTop (mkF m 12 #[.val (.ref b2511)] [(.ref b2511)])) _
  refine Goes.of (fun t k => XS.iconst X2522.here hx rfl (hb hby d3_12) k) ?_
  obtain ⟨T2532, h2532, X2532, e2532, W2532, st2532⟩ := putF X2522 hx hZ hown (host := "") (Or.inl (wd hw 35 rfl)) Via.refl rfl Fh2522 f2525 (Or.inl (wd hw 36 rfl)) (wd hw 20 rfl) (ty := .int) (by decide) rfl rfl (g := (mkF m 13 #[.val (.ref b2511)] [(.int (1 : Int32)), (.ref b2511)])) rfl rfl (hb hby d3_13)
  have f2533 := Fh2522.same W2532
  have K2534 : Keep h0 h2532 [] := K2523.wr W2532 (Or.inr z2514)
  have z2535 : n0 ≤ h2532.size := Nat.le_trans z2524 (Keep.of_wr W2532).1
  have f2536 := f2525.wr W2532
  have f2537 := Fp2522.other W2532 (Or.inr (slot_ne (Or.inr (wd hw 28 rfl)) (Or.inl (wd hw 36 rfl)) (by decide) (t := (.object "com/example/ripplematch/ripplematch/core/PartialMatch")) (t' := .int) (by decide) (by decide)))
  have N2532 := Fr.snoc X2532 N2522 g2512
  refine Goes.of st2532 ?_
  show Goes p e below (T2532.setTop (mkF m 16 #[.val (.ref b2511)] [])) _
  refine Goes.of (fun t k => XS.aloadN X2532.here hx rfl (hb hby d3_16) rfl rfl k) ?_
  show Goes p e below (T2532.setTop (mkF m 17 #[.val (.ref b2511)] [(.ref b2511)])) _
  have eh : T2532.heap = h2532 := e2532
  exact Goes.retA X2532 hx (by rfl) Bd.returns (by rfl) hlocks (hb hby d3_17) (⟨b2511, rfl, N2532, by rw [eh]; exact K2534, z2514, by rw [eh]; exact f2536, by rw [eh]; exact f2537⟩) (by decide) (by decide)
theorem ef_6 (m : MethodId) (x0 : Addr) : entryFrame m #[(.ref x0)] 4 = mkF m 0 #[.val (.ref x0), .unset, .unset, .unset] [] := by first | (simp [entryFrame, mkF, argsToLocals, Value.category]; done) | rfl
def Q6 (Z : State) (a1 : Addr) (h0 : Heap) (n0 : Nat) (v : Option Value) (h : Heap) (L : List Loc) : Prop := ∃ (b : Addr) (k : ClassId), v = some (.ref b) ∧ Fr n0 L ∧ Keep h0 h [] ∧ h0.size ≤ b ∧ Arv Z h b k .long (0 : Int32) [] (.long (0 : Int64))
set_option maxRecDepth 65536 in
set_option maxHeartbeats 40000000 in
theorem rm6 (l : Launch) (Z : State) (a0 : Array Value) (hw : ∀ d ∈ tables_1, d.before a0 Z = true) (ws : List Jvm.Cond) (a1 : Addr) (h0 : Heap) (n0 : Nat) (Z0 : n0 ≤ h0.size) (F : Fld Z h0 a1 "com/example/ripplematch/ripplematch/core/PartialMatch" "parent" "Lcom/example/ripplematch/ripplematch/core/PartialMatch;" .null) :
    MetFree l (⟨"com/example/ripplematch/ripplematch/core/PartialMatch", "tags", "()[J"⟩ : MethodName) (head1 (Jvm.Cond.code (⟨"com/example/ripplematch/ripplematch/core/PartialMatch", "tags", "()[J"⟩ : MethodName) prog_51_method_7_code 4 (some (.array .long)) :: ws) ({ frames := 0, cells := 1, slots := 0, locals := 0 } : Room)) (fun a U => a = #[(.ref a1)] ∧ Z.Warmed39 U.vm ∧ U.heap = h0) (fun _ _ _ _ _ => True) (fun _ U o U' => ∃ v L, o = .returned v ∧ Q6 Z a1 h0 n0 v U'.heap L ∧ FrameEnd U o U' L ({ frames := 0, cells := 1, slots := 0, locals := 0 } : Room).cells ({ frames := 0, cells := 1, slots := 0, locals := 0 } : Room).slots) := by
  refine MetFree.of_bodySF (plainFor_of_name pn_8) hisR ?_
  intro p e s m args below meth c s₁ Bd hml0 hP hK
  obtain ⟨rfl, hZ, hh⟩ := hP
  have hx := Bd.exec
  have hby := Bd.bytes
  have hml : c.maxLocals = 4 := hml0
  have hown : s.vm.findClass "com/example/ripplematch/ripplematch/core/PartialMatch" = some m.cls := findClass_of_methodNamed Bd.named
  have hnm := (name_of_methodNamed Bd.named Bd.method).1
  have hlocks : meth.locks = false := BodyLoose.notSynchronized Bd
  have X0 : Stand p l e ({ frames := 0, cells := 1, slots := 0, locals := 0 } : Room) s m #[(.ref a1)] below meth c s₁ [] 0 0 := Stand.of_body Bd
  have e0 : s₁.heap = h0 := by rw [← hh, Bd.state]; rfl
  have N0 := Fr.nil n0
  show Goes p e below (s₁.setTop (entryFrame m #[(.ref a1)] 4)) (Fin s (Q6 Z a1 h0 n0) ({ frames := 0, cells := 1, slots := 0, locals := 0 } : Room).cells ({ frames := 0, cells := 1, slots := 0, locals := 0 } : Room).slots)
  refine Goes.of (fun t k => castTop (ef_6 m a1) k) ?_
  have K0 : Keep h0 h0 [] := Keep.refl _ _
  show Goes p e below (s₁.setTop (mkF m 0 #[.val (.ref a1), .unset, .unset, .unset] [])) _
  refine Goes.of (fun t k => XS.iconst X0.here hx rfl (hb hby d6_0) k) ?_
  show Goes p e below (s₁.setTop (mkF m 1 #[.val (.ref a1), .unset, .unset, .unset] [(.int (0 : Int32))])) _
  refine Goes.of (fun t k => XS.istoreN X0.here hx rfl (hb hby d6_1) rfl (l' := #[.val (.ref a1), .val (.int (0 : Int32)), .unset, .unset]) rfl k) ?_
  show Goes p e below (s₁.setTop (mkF m 2 #[.val (.ref a1), .val (.int (0 : Int32)), .unset, .unset] [])) _
  refine Goes.of (fun t k => XS.aloadN X0.here hx rfl (hb hby d6_2) rfl rfl k) ?_
  show Goes p e below (s₁.setTop (mkF m 3 #[.val (.ref a1), .val (.int (0 : Int32)), .unset, .unset] [(.ref a1)])) _
  refine Goes.of (fun t k => XS.astoreN X0.here hx rfl (hb hby d6_3) rfl rfl (l' := #[.val (.ref a1), .val (.int (0 : Int32)), .val (.ref a1), .unset]) rfl k) ?_
  show Goes p e below (s₁.setTop (mkF m 4 #[.val (.ref a1), .val (.int (0 : Int32)), .val (.ref a1), .unset] [])) _
  refine Goes.of (fun t k => XS.aloadN X0.here hx rfl (hb hby d6_4) rfl rfl k) ?_
  obtain ⟨T2539, X2539, e2539, st2539⟩ := getF X0 hx hZ hown (host := "") (Or.inl (wd hw 27 rfl)) Via.refl e0 F (g := (mkF m 5 #[.val (.ref a1), .val (.int (0 : Int32)), .val (.ref a1), .unset] [(.ref a1)])) rfl rfl (hb hby d6_5)
  refine Goes.of st2539 ?_
  show Goes p e below (T2539.setTop (mkF m 8 #[.val (.ref a1), .val (.int (0 : Int32)), .val (.ref a1), .unset] [.null])) _
  refine Goes.of (fun t k => XS.ifnullYes X2539.here hx rfl (pc0 := 8) (pc' := 29) rfl (hb hby d6_8) rfl (by decide) (by decide) k) ?_
  show Goes p e below (T2539.setTop (mkF m 29 #[.val (.ref a1), .val (.int (0 : Int32)), .val (.ref a1), .unset] [])) _
  refine Goes.of (fun t k => XS.iloadN X2539.here hx rfl (hb hby d6_29) rfl k) ?_
  obtain ⟨T2540, h2540, k2540, X2540, e2540, E2540, A2540, st2540⟩ := newP X2539 hx hZ (wd hw 55 rfl) e2539 (g := (mkF m 30 #[.val (.ref a1), .val (.int (0 : Int32)), .val (.ref a1), .unset] [(.int (0 : Int32))])) rfl (hb hby d6_30) rfl (by decide) (cap := 0) (by decide) (by decide) (by decide) (by decide)
  obtain ⟨b2540, g2540⟩ : ∃ z, z = h0.size := ⟨_, rfl⟩
  rw [← g2540] at A2540 st2540
  have g2541 : n0 ≤ b2540 := Nat.le_trans Z0 (Nat.le_of_eq g2540.symm)
  have z2542 : n0 ≤ h2540.size := Nat.le_trans Z0 E2540.1
  have z2543 : h0.size ≤ b2540 := Nat.le_trans K0.1 (Nat.le_of_eq g2540.symm)
  have q2544 : a1 ≠ b2540 := Nat.ne_of_lt (Nat.lt_of_lt_of_le F.lt (Nat.le_of_eq g2540.symm))
  have f2545 := F.ext E2540
  have K2546 : Keep h0 h2540 [] := K0.ext E2540
  have V2540 : Arv Z h2540 b2540 k2540 .long (0 : Int32) [] (.long (0 : Int64)) := (Arv.new A2540 (by decide)).pad (pad_rep [] (.long (0 : Int64)) 0)
  refine Goes.of st2540 ?_
  show Goes p e below (T2540.setTop (mkF m 32 #[.val (.ref a1), .val (.int (0 : Int32)), .val (.ref a1), .unset] [(.ref b2540)])) _
  refine Goes.of (fun t k => XS.astoreN X2540.here hx rfl (hb hby d6_32) rfl rfl (l' := #[.val (.ref a1), .val (.int (0 : Int32)), .val (.ref b2540), .unset]) rfl k) ?_
  show Goes p e below (T2540.setTop (mkF m 33 #[.val (.ref a1), .val (.int (0 : Int32)), .val (.ref b2540), .unset] [])) _
  refine Goes.of (fun t k => XS.aloadN X2540.here hx rfl (hb hby d6_33) rfl rfl k) ?_
  show Goes p e below (T2540.setTop (mkF m 34 #[.val (.ref a1), .val (.int (0 : Int32)), .val (.ref b2540), .unset] [(.ref a1)])) _
  refine Goes.of (fun t k => XS.astoreN X2540.here hx rfl (hb hby d6_34) rfl rfl (l' := #[.val (.ref a1), .val (.int (0 : Int32)), .val (.ref b2540), .val (.ref a1)]) rfl k) ?_
  show Goes p e below (T2540.setTop (mkF m 35 #[.val (.ref a1), .val (.int (0 : Int32)), .val (.ref b2540), .val (.ref a1)] [])) _
  refine Goes.of (fun t k => XS.aloadN X2540.here hx rfl (hb hby d6_35) rfl rfl k) ?_
  obtain ⟨T2547, X2547, e2547, st2547⟩ := getF X2540 hx hZ hown (host := "") (Or.inl (wd hw 27 rfl)) Via.refl e2540 f2545 (g := (mkF m 36 #[.val (.ref a1), .val (.int (0 : Int32)), .val (.ref b2540), .val (.ref a1)] [(.ref a1)])) rfl rfl (hb hby d6_36)
  refine Goes.of st2547 ?_
  show Goes p e below (T2547.setTop (mkF m 39 #[.val (.ref a1), .val (.int (0 : Int32)), .val (.ref b2540), .val (.ref a1)] [.null])) _
  refine Goes.of (fun t k => XS.ifnullYes X2547.here hx rfl (pc0 := 39) (pc' := 70) rfl (hb hby d6_39) rfl (by decide) (by decide) k) ?_
  show Goes p e below (T2547.setTop (mkF m 70 #[.val (.ref a1), .val (.int (0 : Int32)), .val (.ref b2540), .val (.ref a1)] [])) _
  refine Goes.of (fun t k => XS.aloadN X2547.here hx rfl (hb hby d6_70) rfl rfl k) ?_
  show Goes p e below (T2547.setTop (mkF m 71 #[.val (.ref a1), .val (.int (0 : Int32)), .val (.ref b2540), .val (.ref a1)] [(.ref b2540)])) _
  have eh : T2547.heap = h2540 := e2547
  exact Goes.retA X2547 hx (by rfl) Bd.returns (by rfl) hlocks (hb hby d6_71) (⟨b2540, k2540, rfl, N0, by rw [eh]; exact K2546, z2543, by rw [eh]; exact V2540⟩) (by decide) (by decide)
theorem ef_7 (m : MethodId) (x0 : Addr) : entryFrame m #[(.ref x0)] 5 = mkF m 0 #[.val (.ref x0), .unset, .unset, .unset, .unset] [] := by first | (simp [entryFrame, mkF, argsToLocals, Value.category]; done) | rfl
def Q7 (Z : State) (a1 : Addr) (kL : ClassId) (h0 : Heap) (n0 : Nat) (v : Option Value) (h : Heap) (L : List Loc) : Prop := v = some (.ref a1) ∧ Fr n0 L ∧ h = h0
set_option maxRecDepth 65536 in
set_option maxHeartbeats 40000000 in
theorem rm7 (l : Launch) (Z : State) (a0 : Array Value) (hw : ∀ d ∈ tables_1, d.before a0 Z = true) (ws : List Jvm.Cond) (a1 : Addr) (kL : ClassId) (h0 : Heap) (n0 : Nat) (Z0 : n0 ≤ h0.size) (VL : Arv Z h0 a1 kL .long (0 : Int32) [] (.long (0 : Int64))) :
    MetFree l (⟨"com/example/ripplematch/ripplematch/core/Activation", "newestFirst", "([J)[J"⟩ : MethodName) (head1 (Jvm.Cond.code (⟨"com/example/ripplematch/ripplematch/core/Activation", "newestFirst", "([J)[J"⟩ : MethodName) prog_11_method_2_code 5 (some (.array .long)) :: ws) ({ frames := 0, cells := 0, slots := 0, locals := 0 } : Room)) (fun a U => a = #[(.ref a1)] ∧ Z.Warmed39 U.vm ∧ U.heap = h0) (fun _ _ _ _ _ => True) (fun _ U o U' => ∃ v L, o = .returned v ∧ Q7 Z a1 kL h0 n0 v U'.heap L ∧ FrameEnd U o U' L ({ frames := 0, cells := 0, slots := 0, locals := 0 } : Room).cells ({ frames := 0, cells := 0, slots := 0, locals := 0 } : Room).slots) := by
  refine MetFree.of_bodySF (plainFor_of_name pn_10) hisR ?_
  intro p e s m args below meth c s₁ Bd hml0 hP hK
  obtain ⟨rfl, hZ, hh⟩ := hP
  have hx := Bd.exec
  have hby := Bd.bytes
  have hml : c.maxLocals = 5 := hml0
  have hown : s.vm.findClass "com/example/ripplematch/ripplematch/core/Activation" = some m.cls := findClass_of_methodNamed Bd.named
  have hnm := (name_of_methodNamed Bd.named Bd.method).1
  have hlocks : meth.locks = false := BodyLoose.notSynchronized Bd
  have X0 : Stand p l e ({ frames := 0, cells := 0, slots := 0, locals := 0 } : Room) s m #[(.ref a1)] below meth c s₁ [] 0 0 := Stand.of_body Bd
  have e0 : s₁.heap = h0 := by rw [← hh, Bd.state]; rfl
  have N0 := Fr.nil n0
  show Goes p e below (s₁.setTop (entryFrame m #[(.ref a1)] 5)) (Fin s (Q7 Z a1 kL h0 n0) ({ frames := 0, cells := 0, slots := 0, locals := 0 } : Room).cells ({ frames := 0, cells := 0, slots := 0, locals := 0 } : Room).slots)
  refine Goes.of (fun t k => castTop (ef_7 m a1) k) ?_
  show Goes p e below (s₁.setTop (mkF m 0 #[.val (.ref a1), .unset, .unset, .unset, .unset] [])) _
  refine Goes.of (fun t k => XS.aloadN X0.here hx rfl (hb hby d7_0) rfl rfl k) ?_
  have Vc2548 := VL
  obtain ⟨clc2548, Arc2548, qc2548, Sc2548, Nc2548, Hc2548, Gc2548⟩ := Vc2548
  refine Goes.of (X0.arraylength hx (by rw [e0]; exact Arc2548.1) (State.isArrayOf_alike hZ.alike Arc2548.2.1) (g := (mkF m 1 #[.val (.ref a1), .unset, .unset, .unset, .unset] [(.ref a1)])) rfl rfl (hb hby d7_1)) ?_
  rw [len_of Sc2548 Nc2548]
  show Goes p e below (s₁.setTop (mkF m 2 #[.val (.ref a1), .unset, .unset, .unset, .unset] [(.int (0 : Int32))])) _
  refine Goes.of (fun t k => XS.bipush X0.here hx rfl (hb hby d7_2) k) ?_
  show Goes p e below (s₁.setTop (mkF m 4 #[.val (.ref a1), .unset, .unset, .unset, .unset] [(.int (16 : Int32)), (.int (0 : Int32))])) _
  refine Goes.of (fun t k => XS.icmpNo X0.here hx rfl (hb hby d7_4) rfl (flt (by decide)).2.2.1 k) ?_
  show Goes p e below (s₁.setTop (mkF m 7 #[.val (.ref a1), .unset, .unset, .unset, .unset] [])) _
  refine Goes.of (fun t k => XS.iconst X0.here hx rfl (hb hby d7_7) k) ?_
  show Goes p e below (s₁.setTop (mkF m 8 #[.val (.ref a1), .unset, .unset, .unset, .unset] [(.int (1 : Int32))])) _
  refine Goes.of (fun t k => XS.istoreN X0.here hx rfl (hb hby d7_8) rfl (l' := #[.val (.ref a1), .val (.int (1 : Int32)), .unset, .unset, .unset]) rfl k) ?_
  show Goes p e below (s₁.setTop (mkF m 9 #[.val (.ref a1), .val (.int (1 : Int32)), .unset, .unset, .unset] [])) _
  refine Goes.of (fun t k => XS.iloadN X0.here hx rfl (hb hby d7_9) rfl k) ?_
  show Goes p e below (s₁.setTop (mkF m 10 #[.val (.ref a1), .val (.int (1 : Int32)), .unset, .unset, .unset] [(.int (1 : Int32))])) _
  refine Goes.of (fun t k => XS.aloadN X0.here hx rfl (hb hby d7_10) rfl rfl k) ?_
  have Vc2549 := VL
  obtain ⟨clc2549, Arc2549, qc2549, Sc2549, Nc2549, Hc2549, Gc2549⟩ := Vc2549
  refine Goes.of (X0.arraylength hx (by rw [e0]; exact Arc2549.1) (State.isArrayOf_alike hZ.alike Arc2549.2.1) (g := (mkF m 11 #[.val (.ref a1), .val (.int (1 : Int32)), .unset, .unset, .unset] [(.ref a1), (.int (1 : Int32))])) rfl rfl (hb hby d7_11)) ?_
  rw [len_of Sc2549 Nc2549]
  show Goes p e below (s₁.setTop (mkF m 12 #[.val (.ref a1), .val (.int (1 : Int32)), .unset, .unset, .unset] [(.int (0 : Int32)), (.int (1 : Int32))])) _
  refine Goes.of (fun t k => XS.icmpYes X0.here hx rfl (pc0 := 12) (pc' := 65) rfl (hb hby d7_12) rfl (flt (by decide)).2.1 (by decide) (by decide) k) ?_
  show Goes p e below (s₁.setTop (mkF m 65 #[.val (.ref a1), .val (.int (1 : Int32)), .unset, .unset, .unset] [])) _
  refine Goes.of (fun t k => XS.goto X0.here hx rfl (pc0 := 65) (pc' := 107) rfl (hb hby d7_65) (by decide) (by decide) k) ?_
  show Goes p e below (s₁.setTop (mkF m 107 #[.val (.ref a1), .val (.int (1 : Int32)), .unset, .unset, .unset] [])) _
  refine Goes.of (fun t k => XS.aloadN X0.here hx rfl (hb hby d7_107) rfl rfl k) ?_
  show Goes p e below (s₁.setTop (mkF m 108 #[.val (.ref a1), .val (.int (1 : Int32)), .unset, .unset, .unset] [(.ref a1)])) _
  exact Goes.retA X0 hx (by rfl) Bd.returns (by rfl) hlocks (hb hby d7_108) (⟨rfl, N0, e0⟩) (by decide) (by decide)
theorem ef_5 (m : MethodId) (x0 : Addr) (x2 : Addr) : entryFrame m #[(.ref x0), .null, (.ref x2)] 3 = mkF m 0 #[.val (.ref x0), .val .null, .val (.ref x2)] [] := by first | (simp [entryFrame, mkF, argsToLocals, Value.category]; done) | rfl
def Q5 (Z : State) (a1 : Addr) (a3 : Addr) (h0 : Heap) (n0 : Nat) (v : Option Value) (h : Heap) (L : List Loc) : Prop := v = none ∧ Fr n0 L ∧ Keep h0 h [a1] ∧ Exa Z h a1 "com/example/ripplematch/ripplematch/core/Activation" ∧ Fld Z h a1 "com/example/ripplematch/ripplematch/core/Activation" "place" "I" (.int (-1 : Int32))
set_option maxRecDepth 65536 in
set_option maxHeartbeats 40000000 in
theorem rm5 (l : Launch) (Z : State) (a0 : Array Value) (hw : ∀ d ∈ tables_1, d.before a0 Z = true) (ws : List Jvm.Cond) (a1 : Addr) (a3 : Addr) (h0 : Heap) (n0 : Nat) (Z0 : n0 ≤ h0.size) (E : Exa Z h0 a1 "com/example/ripplematch/ripplematch/core/Activation") (g : n0 ≤ a1) (F_place : Fld Z h0 a1 "com/example/ripplematch/ripplematch/core/Activation" "place" "I" (.int (0 : Int32))) (F_rule : Fld Z h0 a1 "com/example/ripplematch/ripplematch/core/Activation" "rule" "Lcom/example/ripplematch/ripplematch/core/CompiledRule;" .null) (F_match : Fld Z h0 a1 "com/example/ripplematch/ripplematch/core/Activation" "match" "Lcom/example/ripplematch/ripplematch/core/PartialMatch;" .null) (F_recency : Fld Z h0 a1 "com/example/ripplematch/ripplematch/core/Activation" "recency" "[J" .null) (n13 : a1 ≠ a3) (E3 : Exa Z h0 a3 "com/example/ripplematch/ripplematch/core/PartialMatch") (F3 : Fld Z h0 a3 "com/example/ripplematch/ripplematch/core/PartialMatch" "parent" "Lcom/example/ripplematch/ripplematch/core/PartialMatch;" .null) :
    MetFree l (⟨"com/example/ripplematch/ripplematch/core/Activation", "<init>", "(Lcom/example/ripplematch/ripplematch/core/CompiledRule;Lcom/example/ripplematch/ripplematch/core/PartialMatch;)V"⟩ : MethodName) (head1 (Jvm.Cond.code (⟨"com/example/ripplematch/ripplematch/core/Activation", "<init>", "(Lcom/example/ripplematch/ripplematch/core/CompiledRule;Lcom/example/ripplematch/ripplematch/core/PartialMatch;)V"⟩ : MethodName) prog_11_method_1_code 3 none :: ws) ({ frames := 1, cells := 1, slots := 0, locals := 17 } : Room)) (fun a U => a = #[(.ref a1), .null, (.ref a3)] ∧ Z.Warmed39 U.vm ∧ U.heap = h0) (fun _ _ _ _ _ => True) (fun _ U o U' => ∃ v L, o = .returned v ∧ Q5 Z a1 a3 h0 n0 v U'.heap L ∧ FrameEnd U o U' L ({ frames := 1, cells := 1, slots := 0, locals := 17 } : Room).cells ({ frames := 1, cells := 1, slots := 0, locals := 17 } : Room).slots) := by
  refine MetFree.of_bodySF (plainFor_of_name pn_10) hisR ?_
  intro p e s m args below meth c s₁ Bd hml0 hP hK
  obtain ⟨rfl, hZ, hh⟩ := hP
  have hx := Bd.exec
  have hby := Bd.bytes
  have hml : c.maxLocals = 3 := hml0
  have hown : s.vm.findClass "com/example/ripplematch/ripplematch/core/Activation" = some m.cls := findClass_of_methodNamed Bd.named
  have hnm := (name_of_methodNamed Bd.named Bd.method).1
  have hlocks : meth.locks = false := BodyLoose.notSynchronized Bd
  have X0 : Stand p l e ({ frames := 1, cells := 1, slots := 0, locals := 17 } : Room) s m #[(.ref a1), .null, (.ref a3)] below meth c s₁ [] 0 0 := Stand.of_body Bd
  have e0 : s₁.heap = h0 := by rw [← hh, Bd.state]; rfl
  have N0 := Fr.nil n0
  show Goes p e below (s₁.setTop (entryFrame m #[(.ref a1), .null, (.ref a3)] 3)) (Fin s (Q5 Z a1 a3 h0 n0) ({ frames := 1, cells := 1, slots := 0, locals := 17 } : Room).cells ({ frames := 1, cells := 1, slots := 0, locals := 17 } : Room).slots)
  refine Goes.of (fun t k => castTop (ef_5 m a1 a3) k) ?_
  have K0 : Keep h0 h0 [a1] := Keep.refl _ _
  show Goes p e below (s₁.setTop (mkF m 0 #[.val (.ref a1), .val .null, .val (.ref a3)] [])) _
  refine Goes.of (fun t k => XS.aloadN X0.here hx rfl (hb hby d5_0) rfl rfl k) ?_
  obtain ⟨T2550, X2550, e2550, st2550⟩ := initO X0 hx hZ hown (wd hw 43 rfl) (wd hw 7 rfl) (wd hw 8 rfl) e0 (g := (mkF m 1 #[.val (.ref a1), .val .null, .val (.ref a3)] [(.ref a1)])) rfl (by rw [hml]; rfl) rfl (hb hby d5_1) (by decide) (W := 0) (by show 2 * 0 + _ ≤ _; exact Nat.le_of_eq rfl) (by decide)
  refine Goes.of st2550 ?_
  show Goes p e below (T2550.setTop (mkF m 4 #[.val (.ref a1), .val .null, .val (.ref a3)] [])) _
  refine Goes.of (fun t k => XS.aloadN X2550.here hx rfl (hb hby d5_4) rfl rfl k) ?_
  show Goes p e below (T2550.setTop (mkF m 5 #[.val (.ref a1), .val .null, .val (.ref a3)] [(.ref a1)])) _
  refine Goes.of (fun t k => XS.iconst X2550.here hx rfl (hb hby d5_5) k) ?_
  obtain ⟨T2551, h2551, X2551, e2551, W2551, st2551⟩ := putF X2550 hx hZ hown (host := "") (Or.inl (wd hw 44 rfl)) Via.refl e2550 F_place E (Or.inl (wd hw 45 rfl)) (wd hw 38 rfl) (ty := .int) (by decide) rfl rfl (g := (mkF m 6 #[.val (.ref a1), .val .null, .val (.ref a3)] [(.int (-1 : Int32)), (.ref a1)])) rfl rfl (hb hby d5_6)
  have f2552 := F_place.same W2551
  have K2553 : Keep h0 h2551 [a1] := K0.wr W2551 (Or.inl (List.mem_of_getElem? (i := 0) rfl))
  have z2554 : n0 ≤ h2551.size := Nat.le_trans Z0 (Keep.of_wr W2551).1
  have f2555 := E.wr W2551
  have f2556 := E3.wr W2551
  have f2557 := F3.other W2551 (Or.inl (Ne.symm n13))
  have f2559 := F_rule.other W2551 (Or.inr (slot_ne (Or.inr (wd hw 47 rfl)) (Or.inl (wd hw 45 rfl)) (by decide) (t := (.object "com/example/ripplematch/ripplematch/core/CompiledRule")) (t' := .int) (by decide) (by decide)))
  have f2560 := F_match.other W2551 (Or.inr (slot_ne (Or.inr (wd hw 49 rfl)) (Or.inl (wd hw 45 rfl)) (by decide) (t := (.object "com/example/ripplematch/ripplematch/core/PartialMatch")) (t' := .int) (by decide) (by decide)))
  have f2561 := F_recency.other W2551 (Or.inr (slot_ne (Or.inr (wd hw 60 rfl)) (Or.inl (wd hw 45 rfl)) (by decide) (t := (.array .long)) (t' := .int) (by decide) (by decide)))
  have N2551 := Fr.snoc X2551 N0 g
  refine Goes.of st2551 ?_
  show Goes p e below (T2551.setTop (mkF m 9 #[.val (.ref a1), .val .null, .val (.ref a3)] [])) _
  refine Goes.of (fun t k => XS.aloadN X2551.here hx rfl (hb hby d5_9) rfl rfl k) ?_
  show Goes p e below (T2551.setTop (mkF m 10 #[.val (.ref a1), .val .null, .val (.ref a3)] [(.ref a1)])) _
  refine Goes.of (fun t k => XS.aloadN X2551.here hx rfl (hb hby d5_10) rfl rfl k) ?_
  obtain ⟨T2562, h2562, X2562, e2562, W2562, st2562⟩ := putF X2551 hx hZ hown (host := "") (Or.inl (wd hw 46 rfl)) Via.refl e2551 f2559 f2555 (Or.inr ⟨(wd hw 47 rfl), rfl, hnm⟩) (wd hw 38 rfl) (ty := (.object "com/example/ripplematch/ripplematch/core/CompiledRule")) (by decide) rfl rfl (g := (mkF m 11 #[.val (.ref a1), .val .null, .val (.ref a3)] [.null, (.ref a1)])) rfl rfl (hb hby d5_11)
  have f2563 := f2559.same W2562
  have K2564 : Keep h0 h2562 [a1] := K2553.wr W2562 (Or.inl (List.mem_of_getElem? (i := 0) rfl))
  have z2565 : n0 ≤ h2562.size := Nat.le_trans z2554 (Keep.of_wr W2562).1
  have f2566 := f2555.wr W2562
  have f2567 := f2556.wr W2562
  have f2568 := f2557.other W2562 (Or.inl (Ne.symm n13))
  have f2569 := f2552.other W2562 (Or.inr (slot_ne (Or.inl (wd hw 45 rfl)) (Or.inr (wd hw 47 rfl)) (by decide) (t := .int) (t' := (.object "com/example/ripplematch/ripplematch/core/CompiledRule")) (by decide) (by decide)))
  have f2571 := f2560.other W2562 (Or.inr (slot_ne (Or.inr (wd hw 49 rfl)) (Or.inr (wd hw 47 rfl)) (by decide) (t := (.object "com/example/ripplematch/ripplematch/core/PartialMatch")) (t' := (.object "com/example/ripplematch/ripplematch/core/CompiledRule")) (by decide) (by decide)))
  have f2572 := f2561.other W2562 (Or.inr (slot_ne (Or.inr (wd hw 60 rfl)) (Or.inr (wd hw 47 rfl)) (by decide) (t := (.array .long)) (t' := (.object "com/example/ripplematch/ripplematch/core/CompiledRule")) (by decide) (by decide)))
  have N2562 := Fr.snoc X2562 N2551 g
  refine Goes.of st2562 ?_
  show Goes p e below (T2562.setTop (mkF m 14 #[.val (.ref a1), .val .null, .val (.ref a3)] [])) _
  refine Goes.of (fun t k => XS.aloadN X2562.here hx rfl (hb hby d5_14) rfl rfl k) ?_
  show Goes p e below (T2562.setTop (mkF m 15 #[.val (.ref a1), .val .null, .val (.ref a3)] [(.ref a1)])) _
  refine Goes.of (fun t k => XS.aloadN X2562.here hx rfl (hb hby d5_15) rfl rfl k) ?_
  obtain ⟨T2573, h2573, X2573, e2573, W2573, st2573⟩ := putF X2562 hx hZ hown (host := "") (Or.inl (wd hw 48 rfl)) Via.refl e2562 f2571 f2566 (Or.inr ⟨(wd hw 49 rfl), rfl, hnm⟩) (wd hw 38 rfl) (ty := (.object "com/example/ripplematch/ripplematch/core/PartialMatch")) (by decide) rfl rfl (g := (mkF m 16 #[.val (.ref a1), .val .null, .val (.ref a3)] [(.ref a3), (.ref a1)])) rfl rfl (hb hby d5_16)
  have f2574 := f2571.same W2573
  have K2575 : Keep h0 h2573 [a1] := K2564.wr W2573 (Or.inl (List.mem_of_getElem? (i := 0) rfl))
  have z2576 : n0 ≤ h2573.size := Nat.le_trans z2565 (Keep.of_wr W2573).1
  have f2577 := f2566.wr W2573
  have f2578 := f2567.wr W2573
  have f2579 := f2568.other W2573 (Or.inl (Ne.symm n13))
  have f2580 := f2569.other W2573 (Or.inr (slot_ne (Or.inl (wd hw 45 rfl)) (Or.inr (wd hw 49 rfl)) (by decide) (t := .int) (t' := (.object "com/example/ripplematch/ripplematch/core/PartialMatch")) (by decide) (by decide)))
  have f2581 := f2563.other W2573 (Or.inr (slot_ne (Or.inr (wd hw 47 rfl)) (Or.inr (wd hw 49 rfl)) (by decide) (t := (.object "com/example/ripplematch/ripplematch/core/CompiledRule")) (t' := (.object "com/example/ripplematch/ripplematch/core/PartialMatch")) (by decide) (by decide)))
  have f2583 := f2572.other W2573 (Or.inr (slot_ne (Or.inr (wd hw 60 rfl)) (Or.inr (wd hw 49 rfl)) (by decide) (t := (.array .long)) (t' := (.object "com/example/ripplematch/ripplematch/core/PartialMatch")) (by decide) (by decide)))
  have N2573 := Fr.snoc X2573 N2562 g
  refine Goes.of st2573 ?_
  show Goes p e below (T2573.setTop (mkF m 19 #[.val (.ref a1), .val .null, .val (.ref a3)] [])) _
  refine Goes.of (fun t k => XS.aloadN X2573.here hx rfl (hb hby d5_19) rfl rfl k) ?_
  show Goes p e below (T2573.setTop (mkF m 20 #[.val (.ref a1), .val .null, .val (.ref a3)] [(.ref a1)])) _
  refine Goes.of (fun t k => XS.aloadN X2573.here hx rfl (hb hby d5_20) rfl rfl k) ?_
  obtain ⟨cq2584, kq2584, q2584a, q2584b, q2584c⟩ := isOf hZ e2573 f2578
  obtain ⟨_, _, ⟨T2584, L2584, k2584, n2584⟩, -, X2584, ⟨Lc2584, hQ2584, l2584, y2584, z2584⟩, st2584⟩ := X2573.virtualBack hx (y := (⟨"com/example/ripplematch/ripplematch/core/PartialMatch", "tags", "()[J"⟩ : MethodName)) (z := (⟨"com/example/ripplematch/ripplematch/core/PartialMatch", "tags", "()[J"⟩ : MethodName)) hown (mvT hZ (wd hw 50 rfl)) (mvT hZ (wd hw 51 rfl)) (notFace_of_selects (args := #[]) (mvT hZ (wd hw 53 rfl))) (mvT hZ (wd hw 53 rfl)) (mvT hZ (wd hw 52 rfl)) (by decide) (backOf (W := 1) (rm6 l Z a0 hw [] a3  h2573 n0 z2576 f2579) hZ (wd hw 54 rfl) (wd hw 17 rfl) (by decide) (by decide)) q2584a q2584c (g := (mkF m 21 #[.val (.ref a1), .val .null, .val (.ref a3)] [(.ref a3), (.ref a1)])) rfl (by rw [hml]; rfl) (Steps.refl _) (argsL := []) (rest := [(.ref a1)]) (lenOf pd_11 rfl) rfl (by show 2 * 0 + _ ≤ _; exact Nat.le_of_eq rfl) (hb hby d5_21) (fun _ _ => ⟨rfl, e2573, (by decide : 0 + 1 ≤ _), (by decide : 0 + 0 ≤ _)⟩)
  dsimp only [Pt.U, Pt.locs, Pt.cells, Pt.slots] at X2584 l2584 y2584 z2584 st2584 hQ2584
  subst l2584 y2584 z2584
  obtain ⟨b2584, kk2584, rfl, N2584q, K2584, z2584b, V2584⟩ := hQ2584
  have N2584 := Fr.app N2573 N2584q
  have q2585 : a1 ≠ b2584 := Nat.ne_of_lt (Nat.lt_of_lt_of_le f2577.lt z2584b)
  have q2586 : a3 ≠ b2584 := Nat.ne_of_lt (Nat.lt_of_lt_of_le f2578.lt z2584b)
  have g2587 : n0 ≤ b2584 := Nat.le_trans z2576 z2584b
  have z2588 : h0.size ≤ b2584 := Nat.le_trans K2575.1 z2584b
  have K2589 : Keep h0 T2584.heap [a1] := K2575.trans K2584 all0
  have z2590 : n0 ≤ T2584.heap.size := Nat.le_trans z2576 K2584.1
  have f2591 := f2577.keep K2584
  have f2592 := f2578.keep K2584
  have f2593 := f2579.keep K2584 nin0
  have f2594 := f2580.keep K2584 nin0
  have f2595 := f2581.keep K2584 nin0
  have f2596 := f2574.keep K2584 nin0
  have f2597 := f2583.keep K2584 nin0
  refine Goes.of (fun t k => st2584.trans k) ?_
  obtain ⟨_, _, ⟨T2598, L2598, k2598, n2598⟩, -, X2598, ⟨Lc2598, hQ2598, l2598, y2598, z2598⟩, st2598⟩ := Jvm.LawKit.callS X2584 hx (y := (⟨"com/example/ripplematch/ripplematch/core/Activation", "newestFirst", "([J)[J"⟩ : MethodName)) hown (mvT hZ (wd hw 56 rfl)) (mvT hZ (wd hw 57 rfl)) (mvT hZ (wd hw 39 rfl)) (mvT hZ (wd hw 58 rfl)) (by decide) (backOf (W := 1) (rm7 l Z a0 hw [] b2584 _ T2584.heap n0 z2590 V2584) hZ (wd hw 58 rfl) (wd hw 39 rfl) (by decide) (by decide)) (g := (mkF m 24 #[.val (.ref a1), .val .null, .val (.ref a3)] [(.ref b2584), (.ref a1)])) rfl (by rw [hml]; rfl) (argsL := [(.ref b2584)]) (rest := [(.ref a1)]) (lenOf pd_12 rfl) rfl (by show 2 * 0 + _ ≤ _; exact Nat.le_of_eq rfl) (hb hby d5_24) (fun _ _ => ⟨rfl, rfl, (by decide : 1 + 0 ≤ _), (by decide : 0 + 0 ≤ _)⟩)
  dsimp only [Pt.U, Pt.locs, Pt.cells, Pt.slots] at X2598 l2598 y2598 z2598 st2598 hQ2598
  subst l2598 y2598 z2598
  obtain ⟨rfl, N2598q, e2598⟩ := hQ2598
  have N2598 := Fr.app N2584 N2598q
  refine Goes.of st2598 ?_
  obtain ⟨T2599, h2599, X2599, e2599, W2599, st2599⟩ := putF X2598 hx hZ hown (host := "") (Or.inl (wd hw 59 rfl)) Via.refl e2598 f2597 f2591 (Or.inr ⟨(wd hw 60 rfl), rfl, hnm⟩) (wd hw 38 rfl) (ty := (.array .long)) (by decide) rfl rfl (g := (mkF m 27 #[.val (.ref a1), .val .null, .val (.ref a3)] [(.ref b2584), (.ref a1)])) rfl rfl (hb hby d5_27)
  have f2600 := f2597.same W2599
  have K2601 : Keep h0 h2599 [a1] := K2589.wr W2599 (Or.inl (List.mem_of_getElem? (i := 0) rfl))
  have z2602 : n0 ≤ h2599.size := Nat.le_trans z2590 (Keep.of_wr W2599).1
  have f2603 := f2591.wr W2599
  have f2604 := f2592.wr W2599
  have f2605 := f2593.other W2599 (Or.inl (Ne.symm n13))
  have f2606 := f2594.other W2599 (Or.inr (slot_ne (Or.inl (wd hw 45 rfl)) (Or.inr (wd hw 60 rfl)) (by decide) (t := .int) (t' := (.array .long)) (by decide) (by decide)))
  have f2607 := f2595.other W2599 (Or.inr (slot_ne (Or.inr (wd hw 47 rfl)) (Or.inr (wd hw 60 rfl)) (by decide) (t := (.object "com/example/ripplematch/ripplematch/core/CompiledRule")) (t' := (.array .long)) (by decide) (by decide)))
  have f2608 := f2596.other W2599 (Or.inr (slot_ne (Or.inr (wd hw 49 rfl)) (Or.inr (wd hw 60 rfl)) (by decide) (t := (.object "com/example/ripplematch/ripplematch/core/PartialMatch")) (t' := (.array .long)) (by decide) (by decide)))
  have f2610 := V2584.other W2599 (Ne.symm q2585)
  have N2599 := Fr.snoc X2599 N2598 g
  refine Goes.of st2599 ?_
  show Goes p e below (T2599.setTop (mkF m 30 #[.val (.ref a1), .val .null, .val (.ref a3)] [])) _
  have eh : T2599.heap = h2599 := e2599
  exact Goes.retV X2599 hx Bd.returns hlocks (hb hby d5_30) (⟨rfl, N2599, by rw [eh]; exact K2601, by rw [eh]; exact f2603, by rw [eh]; exact f2606⟩) (by decide) (by decide)
theorem ef_1 (m : MethodId) (x0 : Addr) : entryFrame m #[(.ref x0)] 1 = mkF m 0 #[.val (.ref x0)] [] := by first | (simp [entryFrame, mkF, argsToLocals, Value.category]; done) | rfl
def Q1 (Z : State) (a1 : Addr) (h0 : Heap) (n0 : Nat) (v : Option Value) (h : Heap) (L : List Loc) : Prop := ∃ (HA FA : Addr) (kH kF : ClassId), v = none ∧ Fr n0 L ∧ Keep h0 h [a1] ∧ h0.size ≤ HA ∧ h0.size ≤ FA ∧ a1 ≠ HA ∧ a1 ≠ FA ∧ HA ≠ FA ∧ Ovr Z kH "com/example/ripplematch/ripplematch/core/Activation" ∧ Ovr Z kF "com/example/ripplematch/ripplematch/core/Activation" ∧ Exa Z h a1 "com/example/ripplematch/ripplematch/core/Agenda" ∧ Fld Z h a1 "com/example/ripplematch/ripplematch/core/Agenda" "heap" "[Lcom/example/ripplematch/ripplematch/core/Activation;" (.ref HA) ∧ Fld Z h a1 "com/example/ripplematch/ripplematch/core/Agenda" "heapSize" "I" (.int (0 : Int32)) ∧ Fld Z h a1 "com/example/ripplematch/ripplematch/core/Agenda" "gone" "I" (.int (0 : Int32)) ∧ Fld Z h a1 "com/example/ripplematch/ripplematch/core/Agenda" "disordered" "Z" (.int (0 : Int32)) ∧ Fld Z h a1 "com/example/ripplematch/ripplematch/core/Agenda" "fresh" "[Lcom/example/ripplematch/ripplematch/core/Activation;" (.ref FA) ∧ Fld Z h a1 "com/example/ripplematch/ripplematch/core/Agenda" "freshSize" "I" (.int (0 : Int32)) ∧ Fld Z h a1 "com/example/ripplematch/ripplematch/core/Agenda" "size" "I" (.int (0 : Int32)) ∧ Arv Z h HA kH (.object "com/example/ripplematch/ripplematch/core/Activation") (16 : Int32) [.null, .null, .null, .null, .null, .null, .null, .null, .null, .null, .null, .null, .null, .null, .null, .null] .null ∧ Arv Z h FA kF (.object "com/example/ripplematch/ripplematch/core/Activation") (16 : Int32) [.null, .null, .null, .null, .null, .null, .null, .null, .null, .null, .null, .null, .null, .null, .null, .null] .null
set_option maxRecDepth 65536 in
set_option maxHeartbeats 40000000 in
theorem rm1 (l : Launch) (Z : State) (a0 : Array Value) (hw : ∀ d ∈ tables_1, d.before a0 Z = true) (ws : List Jvm.Cond) (a1 : Addr) (h0 : Heap) (n0 : Nat) (Z0 : n0 ≤ h0.size) (E : Exa Z h0 a1 "com/example/ripplematch/ripplematch/core/Agenda") (g : n0 ≤ a1) (F_heap : Fld Z h0 a1 "com/example/ripplematch/ripplematch/core/Agenda" "heap" "[Lcom/example/ripplematch/ripplematch/core/Activation;" .null) (F_heapSize : Fld Z h0 a1 "com/example/ripplematch/ripplematch/core/Agenda" "heapSize" "I" (.int (0 : Int32))) (F_gone : Fld Z h0 a1 "com/example/ripplematch/ripplematch/core/Agenda" "gone" "I" (.int (0 : Int32))) (F_disordered : Fld Z h0 a1 "com/example/ripplematch/ripplematch/core/Agenda" "disordered" "Z" (.int (0 : Int32))) (F_fresh : Fld Z h0 a1 "com/example/ripplematch/ripplematch/core/Agenda" "fresh" "[Lcom/example/ripplematch/ripplematch/core/Activation;" .null) (F_freshSize : Fld Z h0 a1 "com/example/ripplematch/ripplematch/core/Agenda" "freshSize" "I" (.int (0 : Int32))) (F_size : Fld Z h0 a1 "com/example/ripplematch/ripplematch/core/Agenda" "size" "I" (.int (0 : Int32))) :
    MetFree l (⟨"com/example/ripplematch/ripplematch/core/Agenda", "<init>", "()V"⟩ : MethodName) (head1 (Jvm.Cond.code (⟨"com/example/ripplematch/ripplematch/core/Agenda", "<init>", "()V"⟩ : MethodName) prog_13_method_1_code 1 none :: ws) ({ frames := 1, cells := 2, slots := 32, locals := 13 } : Room)) (fun a U => a = #[(.ref a1)] ∧ Z.Warmed39 U.vm ∧ U.heap = h0) (fun _ _ _ _ _ => True) (fun _ U o U' => ∃ v L, o = .returned v ∧ Q1 Z a1 h0 n0 v U'.heap L ∧ FrameEnd U o U' L ({ frames := 1, cells := 2, slots := 32, locals := 13 } : Room).cells ({ frames := 1, cells := 2, slots := 32, locals := 13 } : Room).slots) := by
  refine MetFree.of_bodySF (plainFor_of_name pn_0) hisR ?_
  intro p e s m args below meth c s₁ Bd hml0 hP hK
  obtain ⟨rfl, hZ, hh⟩ := hP
  have hx := Bd.exec
  have hby := Bd.bytes
  have hml : c.maxLocals = 1 := hml0
  have hown : s.vm.findClass "com/example/ripplematch/ripplematch/core/Agenda" = some m.cls := findClass_of_methodNamed Bd.named
  have hnm := (name_of_methodNamed Bd.named Bd.method).1
  have hlocks : meth.locks = false := BodyLoose.notSynchronized Bd
  have X0 : Stand p l e ({ frames := 1, cells := 2, slots := 32, locals := 13 } : Room) s m #[(.ref a1)] below meth c s₁ [] 0 0 := Stand.of_body Bd
  have e0 : s₁.heap = h0 := by rw [← hh, Bd.state]; rfl
  have N0 := Fr.nil n0
  show Goes p e below (s₁.setTop (entryFrame m #[(.ref a1)] 1)) (Fin s (Q1 Z a1 h0 n0) ({ frames := 1, cells := 2, slots := 32, locals := 13 } : Room).cells ({ frames := 1, cells := 2, slots := 32, locals := 13 } : Room).slots)
  refine Goes.of (fun t k => castTop (ef_1 m a1) k) ?_
  have K0 : Keep h0 h0 [a1] := Keep.refl _ _
  show Goes p e below (s₁.setTop (mkF m 0 #[.val (.ref a1)] [])) _
  refine Goes.of (fun t k => XS.aloadN X0.here hx rfl (hb hby d1_0) rfl rfl k) ?_
  obtain ⟨T2611, X2611, e2611, st2611⟩ := initO X0 hx hZ hown (wd hw 6 rfl) (wd hw 7 rfl) (wd hw 8 rfl) e0 (g := (mkF m 1 #[.val (.ref a1)] [(.ref a1)])) rfl (by rw [hml]; rfl) rfl (hb hby d1_1) (by decide) (W := 0) (by show 2 * 0 + _ ≤ _; exact Nat.le_of_eq rfl) (by decide)
  refine Goes.of st2611 ?_
  show Goes p e below (T2611.setTop (mkF m 4 #[.val (.ref a1)] [])) _
  refine Goes.of (fun t k => XS.aloadN X2611.here hx rfl (hb hby d1_4) rfl rfl k) ?_
  show Goes p e below (T2611.setTop (mkF m 5 #[.val (.ref a1)] [(.ref a1)])) _
  refine Goes.of (fun t k => XS.bipush X2611.here hx rfl (hb hby d1_5) k) ?_
  obtain ⟨T2612, h2612, k2612, X2612, e2612, E2612, A2612, O2612, st2612⟩ := newR X2611 hx hZ hown (wd hw 9 rfl) (wd hw 10 rfl) e2611 (g := (mkF m 7 #[.val (.ref a1)] [(.int (16 : Int32)), (.ref a1)])) rfl (hb hby d1_7) rfl (by decide) (cap := 16) (by decide) (by decide) (by decide) (by decide)
  obtain ⟨b2612, g2612⟩ : ∃ z, z = h0.size := ⟨_, rfl⟩
  rw [← g2612] at A2612 st2612
  have g2613 : n0 ≤ b2612 := Nat.le_trans Z0 (Nat.le_of_eq g2612.symm)
  have z2614 : n0 ≤ h2612.size := Nat.le_trans Z0 E2612.1
  have z2615 : h0.size ≤ b2612 := Nat.le_trans K0.1 (Nat.le_of_eq g2612.symm)
  have q2616 : a1 ≠ b2612 := Nat.ne_of_lt (Nat.lt_of_lt_of_le E.lt (Nat.le_of_eq g2612.symm))
  have f2617 := E.ext E2612
  have f2618 := F_heap.ext E2612
  have f2619 := F_heapSize.ext E2612
  have f2620 := F_gone.ext E2612
  have f2621 := F_disordered.ext E2612
  have f2622 := F_fresh.ext E2612
  have f2623 := F_freshSize.ext E2612
  have f2624 := F_size.ext E2612
  have K2625 : Keep h0 h2612 [a1] := K0.ext E2612
  have V2612 : Arv Z h2612 b2612 k2612 (.object "com/example/ripplematch/ripplematch/core/Activation") (16 : Int32) [.null, .null, .null, .null, .null, .null, .null, .null, .null, .null, .null, .null, .null, .null, .null, .null] .null := (Arv.new A2612 (by decide)).pad (pad_rep [] .null 16)
  refine Goes.of st2612 ?_
  obtain ⟨T2626, h2626, X2626, e2626, W2626, st2626⟩ := putF X2612 hx hZ hown (host := "") (Or.inl (wd hw 11 rfl)) Via.refl e2612 f2618 f2617 (Or.inl (wd hw 12 rfl)) (wd hw 1 rfl) (ty := (.array (.object "com/example/ripplematch/ripplematch/core/Activation"))) (by decide) rfl rfl (g := (mkF m 10 #[.val (.ref a1)] [(.ref b2612), (.ref a1)])) rfl rfl (hb hby d1_10)
  have f2627 := f2618.same W2626
  have K2628 : Keep h0 h2626 [a1] := K2625.wr W2626 (Or.inl (List.mem_of_getElem? (i := 0) rfl))
  have z2629 : n0 ≤ h2626.size := Nat.le_trans z2614 (Keep.of_wr W2626).1
  have f2630 := f2617.wr W2626
  have f2632 := f2619.other W2626 (Or.inr (slot_ne (Or.inl (wd hw 104 rfl)) (Or.inl (wd hw 12 rfl)) (by decide) (t := .int) (t' := (.array (.object "com/example/ripplematch/ripplematch/core/Activation"))) (by decide) (by decide)))
  have f2633 := f2620.other W2626 (Or.inr (slot_ne (Or.inl (wd hw 102 rfl)) (Or.inl (wd hw 12 rfl)) (by decide) (t := .int) (t' := (.array (.object "com/example/ripplematch/ripplematch/core/Activation"))) (by decide) (by decide)))
  have f2634 := f2621.other W2626 (Or.inr (slot_ne (Or.inl (wd hw 100 rfl)) (Or.inl (wd hw 12 rfl)) (by decide) (t := .boolean) (t' := (.array (.object "com/example/ripplematch/ripplematch/core/Activation"))) (by decide) (by decide)))
  have f2635 := f2622.other W2626 (Or.inr (slot_ne (Or.inl (wd hw 14 rfl)) (Or.inl (wd hw 12 rfl)) (by decide) (t := (.array (.object "com/example/ripplematch/ripplematch/core/Activation"))) (t' := (.array (.object "com/example/ripplematch/ripplematch/core/Activation"))) (by decide) (by decide)))
  have f2636 := f2623.other W2626 (Or.inr (slot_ne (Or.inl (wd hw 83 rfl)) (Or.inl (wd hw 12 rfl)) (by decide) (t := .int) (t' := (.array (.object "com/example/ripplematch/ripplematch/core/Activation"))) (by decide) (by decide)))
  have f2637 := f2624.other W2626 (Or.inr (slot_ne (Or.inl (wd hw 70 rfl)) (Or.inl (wd hw 12 rfl)) (by decide) (t := .int) (t' := (.array (.object "com/example/ripplematch/ripplematch/core/Activation"))) (by decide) (by decide)))
  have f2638 := V2612.other W2626 (Ne.symm q2616)
  have N2626 := Fr.snoc X2626 N0 g
  refine Goes.of st2626 ?_
  show Goes p e below (T2626.setTop (mkF m 13 #[.val (.ref a1)] [])) _
  refine Goes.of (fun t k => XS.aloadN X2626.here hx rfl (hb hby d1_13) rfl rfl k) ?_
  show Goes p e below (T2626.setTop (mkF m 14 #[.val (.ref a1)] [(.ref a1)])) _
  refine Goes.of (fun t k => XS.bipush X2626.here hx rfl (hb hby d1_14) k) ?_
  obtain ⟨T2639, h2639, k2639, X2639, e2639, E2639, A2639, O2639, st2639⟩ := newR X2626 hx hZ hown (wd hw 9 rfl) (wd hw 10 rfl) e2626 (g := (mkF m 16 #[.val (.ref a1)] [(.int (16 : Int32)), (.ref a1)])) rfl (hb hby d1_16) rfl (by decide) (cap := 16) (by decide) (by decide) (by decide) (by decide)
  obtain ⟨b2639, g2639⟩ : ∃ z, z = h2626.size := ⟨_, rfl⟩
  rw [← g2639] at A2639 st2639
  have g2640 : n0 ≤ b2639 := Nat.le_trans z2629 (Nat.le_of_eq g2639.symm)
  have z2641 : n0 ≤ h2639.size := Nat.le_trans z2629 E2639.1
  have z2642 : h0.size ≤ b2639 := Nat.le_trans K2628.1 (Nat.le_of_eq g2639.symm)
  have q2643 : a1 ≠ b2639 := Nat.ne_of_lt (Nat.lt_of_lt_of_le f2630.lt (Nat.le_of_eq g2639.symm))
  have q2644 : b2612 ≠ b2639 := Nat.ne_of_lt (Nat.lt_of_lt_of_le f2638.lt (Nat.le_of_eq g2639.symm))
  have f2645 := f2630.ext E2639
  have f2646 := f2627.ext E2639
  have f2647 := f2632.ext E2639
  have f2648 := f2633.ext E2639
  have f2649 := f2634.ext E2639
  have f2650 := f2635.ext E2639
  have f2651 := f2636.ext E2639
  have f2652 := f2637.ext E2639
  have f2653 := f2638.ext E2639
  have K2654 : Keep h0 h2639 [a1] := K2628.ext E2639
  have V2639 : Arv Z h2639 b2639 k2639 (.object "com/example/ripplematch/ripplematch/core/Activation") (16 : Int32) [.null, .null, .null, .null, .null, .null, .null, .null, .null, .null, .null, .null, .null, .null, .null, .null] .null := (Arv.new A2639 (by decide)).pad (pad_rep [] .null 16)
  refine Goes.of st2639 ?_
  obtain ⟨T2655, h2655, X2655, e2655, W2655, st2655⟩ := putF X2639 hx hZ hown (host := "") (Or.inl (wd hw 13 rfl)) Via.refl e2639 f2650 f2645 (Or.inl (wd hw 14 rfl)) (wd hw 1 rfl) (ty := (.array (.object "com/example/ripplematch/ripplematch/core/Activation"))) (by decide) rfl rfl (g := (mkF m 19 #[.val (.ref a1)] [(.ref b2639), (.ref a1)])) rfl rfl (hb hby d1_19)
  have f2656 := f2650.same W2655
  have K2657 : Keep h0 h2655 [a1] := K2654.wr W2655 (Or.inl (List.mem_of_getElem? (i := 0) rfl))
  have z2658 : n0 ≤ h2655.size := Nat.le_trans z2641 (Keep.of_wr W2655).1
  have f2659 := f2645.wr W2655
  have f2660 := f2646.other W2655 (Or.inr (slot_ne (Or.inl (wd hw 12 rfl)) (Or.inl (wd hw 14 rfl)) (by decide) (t := (.array (.object "com/example/ripplematch/ripplematch/core/Activation"))) (t' := (.array (.object "com/example/ripplematch/ripplematch/core/Activation"))) (by decide) (by decide)))
  have f2661 := f2647.other W2655 (Or.inr (slot_ne (Or.inl (wd hw 104 rfl)) (Or.inl (wd hw 14 rfl)) (by decide) (t := .int) (t' := (.array (.object "com/example/ripplematch/ripplematch/core/Activation"))) (by decide) (by decide)))
  have f2662 := f2648.other W2655 (Or.inr (slot_ne (Or.inl (wd hw 102 rfl)) (Or.inl (wd hw 14 rfl)) (by decide) (t := .int) (t' := (.array (.object "com/example/ripplematch/ripplematch/core/Activation"))) (by decide) (by decide)))
  have f2663 := f2649.other W2655 (Or.inr (slot_ne (Or.inl (wd hw 100 rfl)) (Or.inl (wd hw 14 rfl)) (by decide) (t := .boolean) (t' := (.array (.object "com/example/ripplematch/ripplematch/core/Activation"))) (by decide) (by decide)))
  have f2665 := f2651.other W2655 (Or.inr (slot_ne (Or.inl (wd hw 83 rfl)) (Or.inl (wd hw 14 rfl)) (by decide) (t := .int) (t' := (.array (.object "com/example/ripplematch/ripplematch/core/Activation"))) (by decide) (by decide)))
  have f2666 := f2652.other W2655 (Or.inr (slot_ne (Or.inl (wd hw 70 rfl)) (Or.inl (wd hw 14 rfl)) (by decide) (t := .int) (t' := (.array (.object "com/example/ripplematch/ripplematch/core/Activation"))) (by decide) (by decide)))
  have f2667 := f2653.other W2655 (Ne.symm q2616)
  have f2668 := V2639.other W2655 (Ne.symm q2643)
  have N2655 := Fr.snoc X2655 N2626 g
  refine Goes.of st2655 ?_
  show Goes p e below (T2655.setTop (mkF m 22 #[.val (.ref a1)] [])) _
  have eh : T2655.heap = h2655 := e2655
  exact Goes.retV X2655 hx Bd.returns hlocks (hb hby d1_22) (⟨b2612, b2639, k2612, k2639, rfl, N2655, by rw [eh]; exact K2657, z2615, z2642, q2616, q2643, q2644, O2612, O2639, by rw [eh]; exact f2659, by rw [eh]; exact f2660, by rw [eh]; exact f2661, by rw [eh]; exact f2662, by rw [eh]; exact f2663, by rw [eh]; exact f2656, by rw [eh]; exact f2665, by rw [eh]; exact f2666, by rw [eh]; exact f2667, by rw [eh]; exact f2668⟩) (by decide) (by decide)
theorem ef_0 (m : MethodId) (x0 : Int32) : entryFrame m #[(.int x0)] maxLocals = mkF m 0 #[.val (.int x0), .unset, .unset, .unset, .unset, .unset, .unset] [] := by first | (simp [entryFrame, mkF, argsToLocals, Value.category, maxLocals]; done) | rfl
def Q0 (Z : State) (p1 : Int32) (h0 : Heap) (n0 : Nat) (v : Option Value) (h : Heap) (L : List Loc) : Prop := v = some (.int 1) ∧ Fr n0 L
set_option maxRecDepth 65536 in
set_option maxHeartbeats 40000000 in
theorem rm0 (l : Launch) (Z : State) (a0 : Array Value) (hw : ∀ d ∈ tables_1, d.before a0 Z = true) (ws : List Jvm.Cond) (p1 : Int32) (h0 : Heap) (n0 : Nat) (Z0 : n0 ≤ h0.size) (O0 : Old Z n0 h0) (SA : Sta Z Z.heap "com/example/ripplematch/ripplematch/core/Agenda" "$assertionsDisabled" "Z" (.int (1 : Int32)))  :
    MetFree l x (head1 (Jvm.Cond.code x code maxLocals ret :: ws) room_1) (fun a U => a = #[(.int p1)] ∧ Z.Warmed39 U.vm ∧ U.heap = h0) (fun _ _ _ _ _ => True) (fun _ U o U' => ∃ v L, o = .returned v ∧ Q0 Z p1 h0 n0 v U'.heap L ∧ FrameEnd U o U' L room_1.cells room_1.slots) := by
  refine MetFree.of_bodySF (plainFor_of_name pn_4) hisR ?_
  intro p e s m args below meth c s₁ Bd hml0 hP hK
  obtain ⟨rfl, hZ, hh⟩ := hP
  have hx := Bd.exec
  have hby := Bd.bytes
  have hml : c.maxLocals = 7 := hml0
  have hown : s.vm.findClass "com/example/ripplematch/ripplematch/core/AgendaIsEmptyPinLaw" = some m.cls := findClass_of_methodNamed Bd.named
  have hnm := (name_of_methodNamed Bd.named Bd.method).1
  have hlocks : meth.locks = false := BodyLoose.notSynchronized Bd
  have X0 : Stand p l e room_1 s m #[(.int p1)] below meth c s₁ [] 0 0 := Stand.of_body Bd
  have e0 : s₁.heap = h0 := by rw [← hh, Bd.state]; rfl
  have N0 := Fr.nil n0
  show Goes p e below (s₁.setTop (entryFrame m #[(.int p1)] maxLocals)) (Fin s (Q0 Z p1 h0 n0) room_1.cells room_1.slots)
  refine Goes.of (fun t k => castTop (ef_0 m p1) k) ?_
  obtain ⟨T2669, h2669, X2669, e2669, E2669, A2669, D2669, -, st2669⟩ := newO X0 hx hZ hown (wd hw 0 rfl) (wd hw 1 rfl) (wd hw 2 rfl) e0 (g := (mkF m 0 #[.val (.int p1), .unset, .unset, .unset, .unset, .unset, .unset] [])) rfl (hb hby at_0) (by decide) (by decide)
  obtain ⟨b2669, g2669⟩ : ∃ z, z = h0.size := ⟨_, rfl⟩
  rw [← g2669] at A2669 D2669 st2669
  have g2670 : n0 ≤ b2669 := Nat.le_trans Z0 (Nat.le_of_eq g2669.symm)
  have z2671 : n0 ≤ h2669.size := Nat.le_trans Z0 E2669.1
  have f2672 := O0.ext E2669
  have f2673 : Fld Z h2669 b2669 "com/example/ripplematch/ripplematch/core/Agenda" "heap" "[Lcom/example/ripplematch/ripplematch/core/Activation;" .null := D2669 (Or.inl (wd hw 12 rfl)) (ty := (.array (.object "com/example/ripplematch/ripplematch/core/Activation"))) (by decide)
  have f2674 : Fld Z h2669 b2669 "com/example/ripplematch/ripplematch/core/Agenda" "fresh" "[Lcom/example/ripplematch/ripplematch/core/Activation;" .null := D2669 (Or.inl (wd hw 14 rfl)) (ty := (.array (.object "com/example/ripplematch/ripplematch/core/Activation"))) (by decide)
  have f2675 : Fld Z h2669 b2669 "com/example/ripplematch/ripplematch/core/Agenda" "size" "I" (.int (0 : Int32)) := D2669 (Or.inl (wd hw 70 rfl)) (ty := .int) (by decide)
  have f2676 : Fld Z h2669 b2669 "com/example/ripplematch/ripplematch/core/Agenda" "freshSize" "I" (.int (0 : Int32)) := D2669 (Or.inl (wd hw 83 rfl)) (ty := .int) (by decide)
  have f2677 : Fld Z h2669 b2669 "com/example/ripplematch/ripplematch/core/Agenda" "disordered" "Z" (.int (0 : Int32)) := D2669 (Or.inl (wd hw 100 rfl)) (ty := .boolean) (by decide)
  have f2678 : Fld Z h2669 b2669 "com/example/ripplematch/ripplematch/core/Agenda" "gone" "I" (.int (0 : Int32)) := D2669 (Or.inl (wd hw 102 rfl)) (ty := .int) (by decide)
  have f2679 : Fld Z h2669 b2669 "com/example/ripplematch/ripplematch/core/Agenda" "heapSize" "I" (.int (0 : Int32)) := D2669 (Or.inl (wd hw 104 rfl)) (ty := .int) (by decide)
  refine Goes.of st2669 ?_
  show Goes p e below (T2669.setTop (mkF m 3 #[.val (.int p1), .unset, .unset, .unset, .unset, .unset, .unset] [(.ref b2669)])) _
  refine Goes.of (fun t k => XS.dup X2669.here hx rfl (hb hby at_3) rfl rfl k) ?_
  obtain ⟨_, _, ⟨T2680, L2680, k2680, n2680⟩, -, X2680, ⟨Lc2680, hQ2680, l2680, y2680, z2680⟩, st2680⟩ := X2669.specialBack hx (y := (⟨"com/example/ripplematch/ripplematch/core/Agenda", "<init>", "()V"⟩ : MethodName)) rfl hown (mvT hZ (wd hw 3 rfl)) (mvT hZ (wd hw 4 rfl)) (mvT hZ (wd hw 5 rfl)) (by decide) (backOf (W := 1) (rm1 l Z a0 hw [] b2669  h2669 n0 z2671 A2669 g2670 f2673 f2679 f2678 f2677 f2674 f2676 f2675) hZ (wd hw 5 rfl) (wd hw 2 rfl) (by decide) (by decide)) (g := (mkF m 4 #[.val (.int p1), .unset, .unset, .unset, .unset, .unset, .unset] [(.ref b2669), (.ref b2669)])) rfl (by rw [hml]; rfl) (Steps.refl _) (a := b2669) (argsL := []) (rest := [(.ref b2669)]) (lenOf pd_3 rfl) rfl (by show 2 * 0 + _ ≤ _; exact Nat.le_of_eq rfl) (hb hby at_4) (fun _ _ => ⟨rfl, e2669, (by decide : 1 + 2 ≤ _), (by decide : 7 + 32 ≤ _)⟩)
  dsimp only [Pt.U, Pt.locs, Pt.cells, Pt.slots] at X2680 l2680 y2680 z2680 st2680 hQ2680
  subst l2680 y2680 z2680
  obtain ⟨HA, FA, kH, kF, rfl, N2680q, K2680, zH, zF, nH, nF, nHF, OH, OF, E_2680, F_heap_2680, F_heapSize_2680, F_gone_2680, F_disordered_2680, F_fresh_2680, F_freshSize_2680, F_size_2680, VH_2680, VF_2680⟩ := hQ2680
  have N2680 := Fr.app N0 N2680q
  have q2681 : b2669 ≠ HA := Nat.ne_of_lt (Nat.lt_of_lt_of_le A2669.lt zH)
  have g2682 : n0 ≤ HA := Nat.le_trans z2671 zH
  have q2683 : b2669 ≠ FA := Nat.ne_of_lt (Nat.lt_of_lt_of_le A2669.lt zF)
  have g2684 : n0 ≤ FA := Nat.le_trans z2671 zF
  have z2685 : n0 ≤ T2680.heap.size := Nat.le_trans z2671 K2680.1
  have f2686 := f2672.keep K2680 (allS g2670 all0)
  have f2687 := A2669.keep K2680
  refine Goes.of (fun t k => st2680.trans k) ?_
  show Goes p e below (T2680.setTop (mkF m 7 #[.val (.int p1), .unset, .unset, .unset, .unset, .unset, .unset] [(.ref b2669)])) _
  refine Goes.of (fun t k => XS.astoreN X2680.here hx rfl (hb hby at_7) rfl rfl (l' := #[.val (.int p1), .val (.ref b2669), .unset, .unset, .unset, .unset, .unset]) rfl k) ?_
  obtain ⟨_, _, ⟨T2695, L2695, k2695, n2695⟩, -, X2695, ⟨Lc2695, hQ2695, l2695, y2695, z2695⟩, st2695⟩ := Jvm.LawKit.callS X2680 hx (y := (⟨"com/example/ripplematch/ripplematch/core/PartialMatch", "root", "()Lcom/example/ripplematch/ripplematch/core/PartialMatch;"⟩ : MethodName)) hown (mvT hZ (wd hw 15 rfl)) (mvT hZ (wd hw 16 rfl)) (mvT hZ (wd hw 17 rfl)) (mvT hZ (wd hw 18 rfl)) (by decide) (backOf (W := 0) (rm3 l Z a0 hw []   T2680.heap n0 z2685 ) hZ (wd hw 18 rfl) (wd hw 17 rfl) (by decide) (by decide)) (g := (mkF m 8 #[.val (.int p1), .val (.ref b2669), .unset, .unset, .unset, .unset, .unset] [])) rfl (by rw [hml]; rfl) (argsL := []) (rest := []) (lenOf pd_13 rfl) rfl (by show 2 * 0 + _ ≤ _; exact Nat.le_of_eq rfl) (hb hby at_8) (fun _ _ => ⟨rfl, rfl, (by decide : 3 + 1 ≤ _), (by decide : 39 + 15 ≤ _)⟩)
  dsimp only [Pt.U, Pt.locs, Pt.cells, Pt.slots] at X2695 l2695 y2695 z2695 st2695 hQ2695
  subst l2695 y2695 z2695
  obtain ⟨rt, rfl, N2695q, K2695, zrt, E2695, F2695⟩ := hQ2695
  have N2695 := Fr.app N2680 N2695q
  have q2696 : b2669 ≠ rt := Nat.ne_of_lt (Nat.lt_of_lt_of_le E_2680.lt zrt)
  have q2697 : HA ≠ rt := Nat.ne_of_lt (Nat.lt_of_lt_of_le VH_2680.lt zrt)
  have q2698 : FA ≠ rt := Nat.ne_of_lt (Nat.lt_of_lt_of_le VF_2680.lt zrt)
  have g2699 : n0 ≤ rt := Nat.le_trans z2685 zrt
  have z2700 : n0 ≤ T2695.heap.size := Nat.le_trans z2685 K2695.1
  have f2701 := f2686.keep K2695 all0
  have f2702 := E_2680.keep K2695
  have f2703 := F_heap_2680.keep K2695 nin0
  have f2704 := F_heapSize_2680.keep K2695 nin0
  have f2705 := F_gone_2680.keep K2695 nin0
  have f2706 := F_disordered_2680.keep K2695 nin0
  have f2707 := F_fresh_2680.keep K2695 nin0
  have f2708 := F_freshSize_2680.keep K2695 nin0
  have f2709 := F_size_2680.keep K2695 nin0
  have f2710 := VH_2680.keep K2695 nin0
  have f2711 := VF_2680.keep K2695 nin0
  refine Goes.of st2695 ?_
  show Goes p e below (T2695.setTop (mkF m 11 #[.val (.int p1), .val (.ref b2669), .unset, .unset, .unset, .unset, .unset] [(.ref rt)])) _
  refine Goes.of (fun t k => XS.astoreN X2695.here hx rfl (hb hby at_11) rfl rfl (l' := #[.val (.int p1), .val (.ref b2669), .val (.ref rt), .unset, .unset, .unset, .unset]) rfl k) ?_
  show Goes p e below (T2695.setTop (mkF m 12 #[.val (.int p1), .val (.ref b2669), .val (.ref rt), .unset, .unset, .unset, .unset] [])) _
  refine Goes.of (fun t k => XS.iconst X2695.here hx rfl (hb hby at_12) k) ?_
  obtain ⟨T2712, h2712, k2712, X2712, e2712, E2712, A2712, O2712, st2712⟩ := newR X2695 hx hZ hown (wd hw 37 rfl) (wd hw 10 rfl) rfl (g := (mkF m 13 #[.val (.int p1), .val (.ref b2669), .val (.ref rt), .unset, .unset, .unset, .unset] [(.int (2 : Int32))])) rfl (hb hby at_13) rfl (by decide) (cap := 2) (by decide) (by decide) (by decide) (by decide)
  obtain ⟨b2712, g2712⟩ : ∃ z, z = T2695.heap.size := ⟨_, rfl⟩
  rw [← g2712] at A2712 st2712
  have g2713 : n0 ≤ b2712 := Nat.le_trans z2700 (Nat.le_of_eq g2712.symm)
  have z2714 : n0 ≤ h2712.size := Nat.le_trans z2700 E2712.1
  have q2715 : b2669 ≠ b2712 := Nat.ne_of_lt (Nat.lt_of_lt_of_le f2702.lt (Nat.le_of_eq g2712.symm))
  have q2716 : HA ≠ b2712 := Nat.ne_of_lt (Nat.lt_of_lt_of_le f2710.lt (Nat.le_of_eq g2712.symm))
  have q2717 : FA ≠ b2712 := Nat.ne_of_lt (Nat.lt_of_lt_of_le f2711.lt (Nat.le_of_eq g2712.symm))
  have q2718 : rt ≠ b2712 := Nat.ne_of_lt (Nat.lt_of_lt_of_le E2695.lt (Nat.le_of_eq g2712.symm))
  have f2719 := f2701.ext E2712
  have f2720 := f2702.ext E2712
  have f2721 := f2703.ext E2712
  have f2722 := f2704.ext E2712
  have f2723 := f2705.ext E2712
  have f2724 := f2706.ext E2712
  have f2725 := f2707.ext E2712
  have f2726 := f2708.ext E2712
  have f2727 := f2709.ext E2712
  have f2728 := f2710.ext E2712
  have f2729 := f2711.ext E2712
  have f2730 := E2695.ext E2712
  have f2731 := F2695.ext E2712
  have V2712 : Arv Z h2712 b2712 k2712 (.object "com/example/ripplematch/ripplematch/core/Activation") (2 : Int32) [.null, .null] .null := (Arv.new A2712 (by decide)).pad (pad_rep [] .null 2)
  refine Goes.of st2712 ?_
  show Goes p e below (T2712.setTop (mkF m 16 #[.val (.int p1), .val (.ref b2669), .val (.ref rt), .unset, .unset, .unset, .unset] [(.ref b2712)])) _
  refine Goes.of (fun t k => XS.astoreN X2712.here hx rfl (hb hby at_16) rfl rfl (l' := #[.val (.int p1), .val (.ref b2669), .val (.ref rt), .val (.ref b2712), .unset, .unset, .unset]) rfl k) ?_
  show Goes p e below (T2712.setTop (mkF m 17 #[.val (.int p1), .val (.ref b2669), .val (.ref rt), .val (.ref b2712), .unset, .unset, .unset] [])) _
  refine Goes.of (fun t k => XS.aloadN X2712.here hx rfl (hb hby at_17) rfl rfl k) ?_
  show Goes p e below (T2712.setTop (mkF m 18 #[.val (.int p1), .val (.ref b2669), .val (.ref rt), .val (.ref b2712), .unset, .unset, .unset] [(.ref b2712)])) _
  refine Goes.of (fun t k => XS.iconst X2712.here hx rfl (hb hby at_18) k) ?_
  obtain ⟨T2732, h2732, X2732, e2732, E2732, A2732, D2732, -, st2732⟩ := newO X2712 hx hZ hown (wd hw 37 rfl) (wd hw 38 rfl) (wd hw 39 rfl) e2712 (g := (mkF m 19 #[.val (.int p1), .val (.ref b2669), .val (.ref rt), .val (.ref b2712), .unset, .unset, .unset] [(.int (0 : Int32)), (.ref b2712)])) rfl (hb hby at_19) (by decide) (by decide)
  obtain ⟨b2732, g2732⟩ : ∃ z, z = h2712.size := ⟨_, rfl⟩
  rw [← g2732] at A2732 D2732 st2732
  have g2733 : n0 ≤ b2732 := Nat.le_trans z2714 (Nat.le_of_eq g2732.symm)
  have z2734 : n0 ≤ h2732.size := Nat.le_trans z2714 E2732.1
  have q2735 : b2669 ≠ b2732 := Nat.ne_of_lt (Nat.lt_of_lt_of_le f2720.lt (Nat.le_of_eq g2732.symm))
  have q2736 : HA ≠ b2732 := Nat.ne_of_lt (Nat.lt_of_lt_of_le f2728.lt (Nat.le_of_eq g2732.symm))
  have q2737 : FA ≠ b2732 := Nat.ne_of_lt (Nat.lt_of_lt_of_le f2729.lt (Nat.le_of_eq g2732.symm))
  have q2738 : rt ≠ b2732 := Nat.ne_of_lt (Nat.lt_of_lt_of_le f2730.lt (Nat.le_of_eq g2732.symm))
  have q2739 : b2712 ≠ b2732 := Nat.ne_of_lt (Nat.lt_of_lt_of_le V2712.lt (Nat.le_of_eq g2732.symm))
  have f2740 := f2719.ext E2732
  have f2741 := f2720.ext E2732
  have f2742 := f2721.ext E2732
  have f2743 := f2722.ext E2732
  have f2744 := f2723.ext E2732
  have f2745 := f2724.ext E2732
  have f2746 := f2725.ext E2732
  have f2747 := f2726.ext E2732
  have f2748 := f2727.ext E2732
  have f2749 := f2728.ext E2732
  have f2750 := f2729.ext E2732
  have f2751 := f2730.ext E2732
  have f2752 := f2731.ext E2732
  have f2753 := V2712.ext E2732
  have f2754 : Fld Z h2732 b2732 "com/example/ripplematch/ripplematch/core/Activation" "place" "I" (.int (0 : Int32)) := D2732 (Or.inl (wd hw 45 rfl)) (ty := .int) (by decide)
  have f2755 : Fld Z h2732 b2732 "com/example/ripplematch/ripplematch/core/Activation" "rule" "Lcom/example/ripplematch/ripplematch/core/CompiledRule;" .null := D2732 (Or.inr (wd hw 47 rfl)) (ty := (.object "com/example/ripplematch/ripplematch/core/CompiledRule")) (by decide)
  have f2756 : Fld Z h2732 b2732 "com/example/ripplematch/ripplematch/core/Activation" "match" "Lcom/example/ripplematch/ripplematch/core/PartialMatch;" .null := D2732 (Or.inr (wd hw 49 rfl)) (ty := (.object "com/example/ripplematch/ripplematch/core/PartialMatch")) (by decide)
  have f2757 : Fld Z h2732 b2732 "com/example/ripplematch/ripplematch/core/Activation" "recency" "[J" .null := D2732 (Or.inr (wd hw 60 rfl)) (ty := (.array .long)) (by decide)
  refine Goes.of st2732 ?_
  show Goes p e below (T2732.setTop (mkF m 22 #[.val (.int p1), .val (.ref b2669), .val (.ref rt), .val (.ref b2712), .unset, .unset, .unset] [(.ref b2732), (.int (0 : Int32)), (.ref b2712)])) _
  refine Goes.of (fun t k => XS.dup X2732.here hx rfl (hb hby at_22) rfl rfl k) ?_
  show Goes p e below (T2732.setTop (mkF m 23 #[.val (.int p1), .val (.ref b2669), .val (.ref rt), .val (.ref b2712), .unset, .unset, .unset] [(.ref b2732), (.ref b2732), (.int (0 : Int32)), (.ref b2712)])) _
  refine Goes.of (fun t k => XS.aconstNull X2732.here hx rfl (hb hby at_23) k) ?_
  show Goes p e below (T2732.setTop (mkF m 24 #[.val (.int p1), .val (.ref b2669), .val (.ref rt), .val (.ref b2712), .unset, .unset, .unset] [.null, (.ref b2732), (.ref b2732), (.int (0 : Int32)), (.ref b2712)])) _
  refine Goes.of (fun t k => XS.aloadN X2732.here hx rfl (hb hby at_24) rfl rfl k) ?_
  obtain ⟨_, _, ⟨T2758, L2758, k2758, n2758⟩, -, X2758, ⟨Lc2758, hQ2758, l2758, y2758, z2758⟩, st2758⟩ := X2732.specialBack hx (y := (⟨"com/example/ripplematch/ripplematch/core/Activation", "<init>", "(Lcom/example/ripplematch/ripplematch/core/CompiledRule;Lcom/example/ripplematch/ripplematch/core/PartialMatch;)V"⟩ : MethodName)) rfl hown (mvT hZ (wd hw 40 rfl)) (mvT hZ (wd hw 41 rfl)) (mvT hZ (wd hw 42 rfl)) (by decide) (backOf (W := 3) (rm5 l Z a0 hw [] b2732  rt  h2732 n0 z2734 A2732 g2733 f2754 f2755 f2756 f2757 (Ne.symm q2738) f2751 f2752) hZ (wd hw 42 rfl) (wd hw 39 rfl) (by decide) (by decide)) (g := (mkF m 25 #[.val (.int p1), .val (.ref b2669), .val (.ref rt), .val (.ref b2712), .unset, .unset, .unset] [(.ref rt), .null, (.ref b2732), (.ref b2732), (.int (0 : Int32)), (.ref b2712)])) rfl (by rw [hml]; rfl) (Steps.refl _) (a := b2732) (argsL := [.null, (.ref rt)]) (rest := [(.ref b2732), (.int (0 : Int32)), (.ref b2712)]) (lenOf pd_14 rfl) rfl (by show 2 * 0 + _ ≤ _; exact Nat.le_of_eq rfl) (hb hby at_25) (fun _ _ => ⟨rfl, e2732, (by decide : 6 + 1 ≤ _), (by decide : 61 + 0 ≤ _)⟩)
  dsimp only [Pt.U, Pt.locs, Pt.cells, Pt.slots] at X2758 l2758 y2758 z2758 st2758 hQ2758
  subst l2758 y2758 z2758
  obtain ⟨rfl, N2758q, K2758, E2758, F2758⟩ := hQ2758
  have N2758 := Fr.app N2695 N2758q
  have z2759 : n0 ≤ T2758.heap.size := Nat.le_trans z2734 K2758.1
  have f2760 := f2740.keep K2758 (allS g2733 all0)
  have f2761 := f2741.keep K2758
  have f2762 := f2742.keep K2758 (ninS q2735 nin0)
  have f2763 := f2743.keep K2758 (ninS q2735 nin0)
  have f2764 := f2744.keep K2758 (ninS q2735 nin0)
  have f2765 := f2745.keep K2758 (ninS q2735 nin0)
  have f2766 := f2746.keep K2758 (ninS q2735 nin0)
  have f2767 := f2747.keep K2758 (ninS q2735 nin0)
  have f2768 := f2748.keep K2758 (ninS q2735 nin0)
  have f2769 := f2749.keep K2758 (ninS q2736 nin0)
  have f2770 := f2750.keep K2758 (ninS q2737 nin0)
  have f2771 := f2751.keep K2758
  have f2772 := f2752.keep K2758 (ninS q2738 nin0)
  have f2773 := f2753.keep K2758 (ninS q2739 nin0)
  have f2774 := A2732.keep K2758
  refine Goes.of (fun t k => st2758.trans k) ?_
  have Vc2779 := f2773
  obtain ⟨clc2779, Arc2779, qc2779, Sc2779, Nc2779, Hc2779, Gc2779⟩ := Vc2779
  have hin2780 : ¬ ((0 : Int32) < 0 ∨ clc2779.slots.size ≤ ((0 : Int32)).toNatClampNeg) := inb_of Sc2779 ⟨by decide, by decide⟩
  obtain ⟨T2781, h2781, X2781, e2781, W2781, st2781⟩ := stR X2758 hx hZ rfl Arc2779 (j := (0 : Int32)) hin2780 rfl (Sto.ofV Arc2779 qc2779 O2712 (Ins.self f2774)) (g := (mkF m 28 #[.val (.int p1), .val (.ref b2669), .val (.ref rt), .val (.ref b2712), .unset, .unset, .unset] [(.ref b2732), (.int (0 : Int32)), (.ref b2712)])) rfl rfl (hb hby at_28)
  have V2781 : Arv Z h2781 b2712 k2712 (.object "com/example/ripplematch/ripplematch/core/Activation") (2 : Int32) [(.ref b2732), .null] .null := Arv.set Arc2779 qc2779 Sc2779 Nc2779 Hc2779 Gc2779 rfl W2781 0 rfl (Nat.le_of_ble_eq_true rfl)
  have z2782 : n0 ≤ h2781.size := Nat.le_trans z2759 (Keep.of_wr W2781).1
  have f2783 := f2760.wr W2781 g2713
  have f2784 := f2761.wr W2781
  have f2785 := f2762.other W2781 (Or.inl q2715)
  have f2786 := f2763.other W2781 (Or.inl q2715)
  have f2787 := f2764.other W2781 (Or.inl q2715)
  have f2788 := f2765.other W2781 (Or.inl q2715)
  have f2789 := f2766.other W2781 (Or.inl q2715)
  have f2790 := f2767.other W2781 (Or.inl q2715)
  have f2791 := f2768.other W2781 (Or.inl q2715)
  have f2792 := f2769.other W2781 q2716
  have f2793 := f2770.other W2781 q2717
  have f2794 := f2771.wr W2781
  have f2795 := f2772.other W2781 (Or.inl q2718)
  have f2797 := f2774.wr W2781
  have f2798 := F2758.other W2781 (Or.inl (Ne.symm q2739))
  have N2781 := Fr.snoc X2781 N2758 g2713
  refine Goes.of st2781 ?_
  show Goes p e below (T2781.setTop (mkF m 29 #[.val (.int p1), .val (.ref b2669), .val (.ref rt), .val (.ref b2712), .unset, .unset, .unset] [])) _
  refine Goes.of (fun t k => XS.aloadN X2781.here hx rfl (hb hby at_29) rfl rfl k) ?_
  show Goes p e below (T2781.setTop (mkF m 30 #[.val (.int p1), .val (.ref b2669), .val (.ref rt), .val (.ref b2712), .unset, .unset, .unset] [(.ref b2712)])) _
  refine Goes.of (fun t k => XS.iconst X2781.here hx rfl (hb hby at_30) k) ?_
  obtain ⟨T2799, h2799, X2799, e2799, E2799, A2799, D2799, -, st2799⟩ := newO X2781 hx hZ hown (wd hw 37 rfl) (wd hw 38 rfl) (wd hw 39 rfl) e2781 (g := (mkF m 31 #[.val (.int p1), .val (.ref b2669), .val (.ref rt), .val (.ref b2712), .unset, .unset, .unset] [(.int (1 : Int32)), (.ref b2712)])) rfl (hb hby at_31) (by decide) (by decide)
  obtain ⟨b2799, g2799⟩ : ∃ z, z = h2781.size := ⟨_, rfl⟩
  rw [← g2799] at A2799 D2799 st2799
  have g2800 : n0 ≤ b2799 := Nat.le_trans z2782 (Nat.le_of_eq g2799.symm)
  have z2801 : n0 ≤ h2799.size := Nat.le_trans z2782 E2799.1
  have q2802 : b2669 ≠ b2799 := Nat.ne_of_lt (Nat.lt_of_lt_of_le f2784.lt (Nat.le_of_eq g2799.symm))
  have q2803 : HA ≠ b2799 := Nat.ne_of_lt (Nat.lt_of_lt_of_le f2792.lt (Nat.le_of_eq g2799.symm))
  have q2804 : FA ≠ b2799 := Nat.ne_of_lt (Nat.lt_of_lt_of_le f2793.lt (Nat.le_of_eq g2799.symm))
  have q2805 : rt ≠ b2799 := Nat.ne_of_lt (Nat.lt_of_lt_of_le f2794.lt (Nat.le_of_eq g2799.symm))
  have q2806 : b2712 ≠ b2799 := Nat.ne_of_lt (Nat.lt_of_lt_of_le V2781.lt (Nat.le_of_eq g2799.symm))
  have q2807 : b2732 ≠ b2799 := Nat.ne_of_lt (Nat.lt_of_lt_of_le f2797.lt (Nat.le_of_eq g2799.symm))
  have f2808 := f2783.ext E2799
  have f2809 := f2784.ext E2799
  have f2810 := f2785.ext E2799
  have f2811 := f2786.ext E2799
  have f2812 := f2787.ext E2799
  have f2813 := f2788.ext E2799
  have f2814 := f2789.ext E2799
  have f2815 := f2790.ext E2799
  have f2816 := f2791.ext E2799
  have f2817 := f2792.ext E2799
  have f2818 := f2793.ext E2799
  have f2819 := f2794.ext E2799
  have f2820 := f2795.ext E2799
  have f2821 := V2781.ext E2799
  have f2822 := f2797.ext E2799
  have f2823 := f2798.ext E2799
  have f2824 : Fld Z h2799 b2799 "com/example/ripplematch/ripplematch/core/Activation" "place" "I" (.int (0 : Int32)) := D2799 (Or.inl (wd hw 45 rfl)) (ty := .int) (by decide)
  have f2825 : Fld Z h2799 b2799 "com/example/ripplematch/ripplematch/core/Activation" "rule" "Lcom/example/ripplematch/ripplematch/core/CompiledRule;" .null := D2799 (Or.inr (wd hw 47 rfl)) (ty := (.object "com/example/ripplematch/ripplematch/core/CompiledRule")) (by decide)
  have f2826 : Fld Z h2799 b2799 "com/example/ripplematch/ripplematch/core/Activation" "match" "Lcom/example/ripplematch/ripplematch/core/PartialMatch;" .null := D2799 (Or.inr (wd hw 49 rfl)) (ty := (.object "com/example/ripplematch/ripplematch/core/PartialMatch")) (by decide)
  have f2827 : Fld Z h2799 b2799 "com/example/ripplematch/ripplematch/core/Activation" "recency" "[J" .null := D2799 (Or.inr (wd hw 60 rfl)) (ty := (.array .long)) (by decide)
  refine Goes.of st2799 ?_
  show Goes p e below (T2799.setTop (mkF m 34 #[.val (.int p1), .val (.ref b2669), .val (.ref rt), .val (.ref b2712), .unset, .unset, .unset] [(.ref b2799), (.int (1 : Int32)), (.ref b2712)])) _
  refine Goes.of (fun t k => XS.dup X2799.here hx rfl (hb hby at_34) rfl rfl k) ?_
  show Goes p e below (T2799.setTop (mkF m 35 #[.val (.int p1), .val (.ref b2669), .val (.ref rt), .val (.ref b2712), .unset, .unset, .unset] [(.ref b2799), (.ref b2799), (.int (1 : Int32)), (.ref b2712)])) _
  refine Goes.of (fun t k => XS.aconstNull X2799.here hx rfl (hb hby at_35) k) ?_
  show Goes p e below (T2799.setTop (mkF m 36 #[.val (.int p1), .val (.ref b2669), .val (.ref rt), .val (.ref b2712), .unset, .unset, .unset] [.null, (.ref b2799), (.ref b2799), (.int (1 : Int32)), (.ref b2712)])) _
  refine Goes.of (fun t k => XS.aloadN X2799.here hx rfl (hb hby at_36) rfl rfl k) ?_
  obtain ⟨_, _, ⟨T2828, L2828, k2828, n2828⟩, -, X2828, ⟨Lc2828, hQ2828, l2828, y2828, z2828⟩, st2828⟩ := X2799.specialBack hx (y := (⟨"com/example/ripplematch/ripplematch/core/Activation", "<init>", "(Lcom/example/ripplematch/ripplematch/core/CompiledRule;Lcom/example/ripplematch/ripplematch/core/PartialMatch;)V"⟩ : MethodName)) rfl hown (mvT hZ (wd hw 40 rfl)) (mvT hZ (wd hw 41 rfl)) (mvT hZ (wd hw 42 rfl)) (by decide) (backOf (W := 3) (rm5 l Z a0 hw [] b2799  rt  h2799 n0 z2801 A2799 g2800 f2824 f2825 f2826 f2827 (Ne.symm q2805) f2819 f2820) hZ (wd hw 42 rfl) (wd hw 39 rfl) (by decide) (by decide)) (g := (mkF m 37 #[.val (.int p1), .val (.ref b2669), .val (.ref rt), .val (.ref b2712), .unset, .unset, .unset] [(.ref rt), .null, (.ref b2799), (.ref b2799), (.int (1 : Int32)), (.ref b2712)])) rfl (by rw [hml]; rfl) (Steps.refl _) (a := b2799) (argsL := [.null, (.ref rt)]) (rest := [(.ref b2799), (.int (1 : Int32)), (.ref b2712)]) (lenOf pd_14 rfl) rfl (by show 2 * 0 + _ ≤ _; exact Nat.le_of_eq rfl) (hb hby at_37) (fun _ _ => ⟨rfl, e2799, (by decide : 8 + 1 ≤ _), (by decide : 66 + 0 ≤ _)⟩)
  dsimp only [Pt.U, Pt.locs, Pt.cells, Pt.slots] at X2828 l2828 y2828 z2828 st2828 hQ2828
  subst l2828 y2828 z2828
  obtain ⟨rfl, N2828q, K2828, E2828, F2828⟩ := hQ2828
  have N2828 := Fr.app N2781 N2828q
  have z2829 : n0 ≤ T2828.heap.size := Nat.le_trans z2801 K2828.1
  have f2830 := f2808.keep K2828 (allS g2800 all0)
  have f2831 := f2809.keep K2828
  have f2832 := f2810.keep K2828 (ninS q2802 nin0)
  have f2833 := f2811.keep K2828 (ninS q2802 nin0)
  have f2834 := f2812.keep K2828 (ninS q2802 nin0)
  have f2835 := f2813.keep K2828 (ninS q2802 nin0)
  have f2836 := f2814.keep K2828 (ninS q2802 nin0)
  have f2837 := f2815.keep K2828 (ninS q2802 nin0)
  have f2838 := f2816.keep K2828 (ninS q2802 nin0)
  have f2839 := f2817.keep K2828 (ninS q2803 nin0)
  have f2840 := f2818.keep K2828 (ninS q2804 nin0)
  have f2841 := f2819.keep K2828
  have f2842 := f2820.keep K2828 (ninS q2805 nin0)
  have f2843 := f2821.keep K2828 (ninS q2806 nin0)
  have f2844 := f2822.keep K2828
  have f2845 := f2823.keep K2828 (ninS q2807 nin0)
  have f2846 := A2799.keep K2828
  refine Goes.of (fun t k => st2828.trans k) ?_
  have Vc2851 := f2843
  obtain ⟨clc2851, Arc2851, qc2851, Sc2851, Nc2851, Hc2851, Gc2851⟩ := Vc2851
  have hin2852 : ¬ ((1 : Int32) < 0 ∨ clc2851.slots.size ≤ ((1 : Int32)).toNatClampNeg) := inb_of Sc2851 ⟨by decide, by decide⟩
  obtain ⟨T2853, h2853, X2853, e2853, W2853, st2853⟩ := stR X2828 hx hZ rfl Arc2851 (j := (1 : Int32)) hin2852 rfl (Sto.ofV Arc2851 qc2851 O2712 (Ins.self f2846)) (g := (mkF m 40 #[.val (.int p1), .val (.ref b2669), .val (.ref rt), .val (.ref b2712), .unset, .unset, .unset] [(.ref b2799), (.int (1 : Int32)), (.ref b2712)])) rfl rfl (hb hby at_40)
  have V2853 : Arv Z h2853 b2712 k2712 (.object "com/example/ripplematch/ripplematch/core/Activation") (2 : Int32) [(.ref b2732), (.ref b2799)] .null := Arv.set Arc2851 qc2851 Sc2851 Nc2851 Hc2851 Gc2851 rfl W2853 1 rfl (Nat.le_of_ble_eq_true rfl)
  have z2854 : n0 ≤ h2853.size := Nat.le_trans z2829 (Keep.of_wr W2853).1
  have f2855 := f2830.wr W2853 g2713
  have f2856 := f2831.wr W2853
  have f2857 := f2832.other W2853 (Or.inl q2715)
  have f2858 := f2833.other W2853 (Or.inl q2715)
  have f2859 := f2834.other W2853 (Or.inl q2715)
  have f2860 := f2835.other W2853 (Or.inl q2715)
  have f2861 := f2836.other W2853 (Or.inl q2715)
  have f2862 := f2837.other W2853 (Or.inl q2715)
  have f2863 := f2838.other W2853 (Or.inl q2715)
  have f2864 := f2839.other W2853 q2716
  have f2865 := f2840.other W2853 q2717
  have f2866 := f2841.wr W2853
  have f2867 := f2842.other W2853 (Or.inl q2718)
  have f2869 := f2844.wr W2853
  have f2870 := f2845.other W2853 (Or.inl (Ne.symm q2739))
  have f2871 := f2846.wr W2853
  have f2872 := F2828.other W2853 (Or.inl (Ne.symm q2806))
  have N2853 := Fr.snoc X2853 N2828 g2713
  refine Goes.of st2853 ?_
  show Goes p e below (T2853.setTop (mkF m 41 #[.val (.int p1), .val (.ref b2669), .val (.ref rt), .val (.ref b2712), .unset, .unset, .unset] [])) _
  refine Goes.of (fun t k => XS.iconst X2853.here hx rfl (hb hby at_41) k) ?_
  obtain ⟨T2873, h2873, k2873, X2873, e2873, E2873, A2873, st2873⟩ := newP X2853 hx hZ (wd hw 62 rfl) e2853 (g := (mkF m 42 #[.val (.int p1), .val (.ref b2669), .val (.ref rt), .val (.ref b2712), .unset, .unset, .unset] [(.int (2 : Int32))])) rfl (hb hby at_42) rfl (by decide) (cap := 2) (by decide) (by decide) (by decide) (by decide)
  obtain ⟨b2873, g2873⟩ : ∃ z, z = h2853.size := ⟨_, rfl⟩
  rw [← g2873] at A2873 st2873
  have g2874 : n0 ≤ b2873 := Nat.le_trans z2854 (Nat.le_of_eq g2873.symm)
  have z2875 : n0 ≤ h2873.size := Nat.le_trans z2854 E2873.1
  have q2876 : b2669 ≠ b2873 := Nat.ne_of_lt (Nat.lt_of_lt_of_le f2856.lt (Nat.le_of_eq g2873.symm))
  have q2877 : HA ≠ b2873 := Nat.ne_of_lt (Nat.lt_of_lt_of_le f2864.lt (Nat.le_of_eq g2873.symm))
  have q2878 : FA ≠ b2873 := Nat.ne_of_lt (Nat.lt_of_lt_of_le f2865.lt (Nat.le_of_eq g2873.symm))
  have q2879 : rt ≠ b2873 := Nat.ne_of_lt (Nat.lt_of_lt_of_le f2866.lt (Nat.le_of_eq g2873.symm))
  have q2880 : b2712 ≠ b2873 := Nat.ne_of_lt (Nat.lt_of_lt_of_le V2853.lt (Nat.le_of_eq g2873.symm))
  have q2881 : b2732 ≠ b2873 := Nat.ne_of_lt (Nat.lt_of_lt_of_le f2869.lt (Nat.le_of_eq g2873.symm))
  have q2882 : b2799 ≠ b2873 := Nat.ne_of_lt (Nat.lt_of_lt_of_le f2871.lt (Nat.le_of_eq g2873.symm))
  have f2883 := f2855.ext E2873
  have f2884 := f2856.ext E2873
  have f2885 := f2857.ext E2873
  have f2886 := f2858.ext E2873
  have f2887 := f2859.ext E2873
  have f2888 := f2860.ext E2873
  have f2889 := f2861.ext E2873
  have f2890 := f2862.ext E2873
  have f2891 := f2863.ext E2873
  have f2892 := f2864.ext E2873
  have f2893 := f2865.ext E2873
  have f2894 := f2866.ext E2873
  have f2895 := f2867.ext E2873
  have f2896 := V2853.ext E2873
  have f2897 := f2869.ext E2873
  have f2898 := f2870.ext E2873
  have f2899 := f2871.ext E2873
  have f2900 := f2872.ext E2873
  have V2873 : Arv Z h2873 b2873 k2873 .boolean (2 : Int32) [(.int (0 : Int32)), (.int (0 : Int32))] (.int (0 : Int32)) := (Arv.new A2873 (by decide)).pad (pad_rep [] (.int (0 : Int32)) 2)
  refine Goes.of st2873 ?_
  show Goes p e below (T2873.setTop (mkF m 44 #[.val (.int p1), .val (.ref b2669), .val (.ref rt), .val (.ref b2712), .unset, .unset, .unset] [(.ref b2873)])) _
  refine Goes.of (fun t k => XS.astore X2873.here hx rfl (hb hby at_44) rfl rfl (l' := #[.val (.int p1), .val (.ref b2669), .val (.ref rt), .val (.ref b2712), .val (.ref b2873), .unset, .unset]) rfl k) ?_
  show Goes p e below (T2873.setTop (mkF m 46 #[.val (.int p1), .val (.ref b2669), .val (.ref rt), .val (.ref b2712), .val (.ref b2873), .unset, .unset] [])) _
  refine Goes.of (fun t k => XS.iconst X2873.here hx rfl (hb hby at_46) k) ?_
  obtain ⟨T2901, h2901, k2901, X2901, e2901, E2901, A2901, st2901⟩ := newP X2873 hx hZ (wd hw 63 rfl) e2873 (g := (mkF m 47 #[.val (.int p1), .val (.ref b2669), .val (.ref rt), .val (.ref b2712), .val (.ref b2873), .unset, .unset] [(.int (1 : Int32))])) rfl (hb hby at_47) rfl (by decide) (cap := 1) (by decide) (by decide) (by decide) (by decide)
  obtain ⟨b2901, g2901⟩ : ∃ z, z = h2873.size := ⟨_, rfl⟩
  rw [← g2901] at A2901 st2901
  have g2902 : n0 ≤ b2901 := Nat.le_trans z2875 (Nat.le_of_eq g2901.symm)
  have z2903 : n0 ≤ h2901.size := Nat.le_trans z2875 E2901.1
  have q2904 : b2669 ≠ b2901 := Nat.ne_of_lt (Nat.lt_of_lt_of_le f2884.lt (Nat.le_of_eq g2901.symm))
  have q2905 : HA ≠ b2901 := Nat.ne_of_lt (Nat.lt_of_lt_of_le f2892.lt (Nat.le_of_eq g2901.symm))
  have q2906 : FA ≠ b2901 := Nat.ne_of_lt (Nat.lt_of_lt_of_le f2893.lt (Nat.le_of_eq g2901.symm))
  have q2907 : rt ≠ b2901 := Nat.ne_of_lt (Nat.lt_of_lt_of_le f2894.lt (Nat.le_of_eq g2901.symm))
  have q2908 : b2712 ≠ b2901 := Nat.ne_of_lt (Nat.lt_of_lt_of_le f2896.lt (Nat.le_of_eq g2901.symm))
  have q2909 : b2732 ≠ b2901 := Nat.ne_of_lt (Nat.lt_of_lt_of_le f2897.lt (Nat.le_of_eq g2901.symm))
  have q2910 : b2799 ≠ b2901 := Nat.ne_of_lt (Nat.lt_of_lt_of_le f2899.lt (Nat.le_of_eq g2901.symm))
  have q2911 : b2873 ≠ b2901 := Nat.ne_of_lt (Nat.lt_of_lt_of_le V2873.lt (Nat.le_of_eq g2901.symm))
  have f2912 := f2883.ext E2901
  have f2913 := f2884.ext E2901
  have f2914 := f2885.ext E2901
  have f2915 := f2886.ext E2901
  have f2916 := f2887.ext E2901
  have f2917 := f2888.ext E2901
  have f2918 := f2889.ext E2901
  have f2919 := f2890.ext E2901
  have f2920 := f2891.ext E2901
  have f2921 := f2892.ext E2901
  have f2922 := f2893.ext E2901
  have f2923 := f2894.ext E2901
  have f2924 := f2895.ext E2901
  have f2925 := f2896.ext E2901
  have f2926 := f2897.ext E2901
  have f2927 := f2898.ext E2901
  have f2928 := f2899.ext E2901
  have f2929 := f2900.ext E2901
  have f2930 := V2873.ext E2901
  have V2901 : Arv Z h2901 b2901 k2901 .int (1 : Int32) [(.int (0 : Int32))] (.int (0 : Int32)) := (Arv.new A2901 (by decide)).pad (pad_rep [] (.int (0 : Int32)) 1)
  refine Goes.of st2901 ?_
  show Goes p e below (T2901.setTop (mkF m 49 #[.val (.int p1), .val (.ref b2669), .val (.ref rt), .val (.ref b2712), .val (.ref b2873), .unset, .unset] [(.ref b2901)])) _
  refine Goes.of (fun t k => XS.astore X2901.here hx rfl (hb hby at_49) rfl rfl (l' := #[.val (.int p1), .val (.ref b2669), .val (.ref rt), .val (.ref b2712), .val (.ref b2873), .val (.ref b2901), .unset]) rfl k) ?_
  show Goes p e below (T2901.setTop (mkF m 51 #[.val (.int p1), .val (.ref b2669), .val (.ref rt), .val (.ref b2712), .val (.ref b2873), .val (.ref b2901), .unset] [])) _
  refine Goes.of (fun t k => XS.aloadN X2901.here hx rfl (hb hby at_51) rfl rfl k) ?_
  obtain ⟨cq2931, kq2931, q2931a, q2931b, q2931c⟩ := isOf hZ e2901 f2913
  obtain ⟨_, _, ⟨T2931, L2931, k2931, n2931⟩, -, X2931, ⟨Lc2931, hQ2931, l2931, y2931, z2931⟩, st2931⟩ := X2901.virtualBack hx (y := (⟨"com/example/ripplematch/ripplematch/core/Agenda", "isEmpty", "()Z"⟩ : MethodName)) (z := (⟨"com/example/ripplematch/ripplematch/core/Agenda", "isEmpty", "()Z"⟩ : MethodName)) hown (mvT hZ (wd hw 64 rfl)) (mvT hZ (wd hw 65 rfl)) (notFace_of_selects (args := #[]) (mvT hZ (wd hw 67 rfl))) (mvT hZ (wd hw 67 rfl)) (mvT hZ (wd hw 66 rfl)) (by decide) (backOf (W := 0) (rm8 l Z a0 hw [] b2669 (0 : Int32) h2901 n0 z2903 f2920) hZ (wd hw 68 rfl) (wd hw 2 rfl) (by decide) (by decide)) q2931a q2931c (g := (mkF m 52 #[.val (.int p1), .val (.ref b2669), .val (.ref rt), .val (.ref b2712), .val (.ref b2873), .val (.ref b2901), .unset] [(.ref b2669)])) rfl (by rw [hml]; rfl) (Steps.refl _) (argsL := []) (rest := []) (lenOf pd_6 rfl) rfl (by show 2 * 0 + _ ≤ _; exact Nat.le_of_eq rfl) (hb hby at_52) (fun _ _ => ⟨rfl, e2901, (by decide : 11 + 0 ≤ _), (by decide : 69 + 0 ≤ _)⟩)
  dsimp only [Pt.U, Pt.locs, Pt.cells, Pt.slots] at X2931 l2931 y2931 z2931 st2931 hQ2931
  subst l2931 y2931 z2931
  obtain ⟨rfl, N2931q, e2931⟩ := hQ2931
  have N2931 := Fr.app N2853 N2931q
  refine Goes.of (fun t k => st2931.trans k) ?_
  show Goes p e below (T2931.setTop (mkF m 55 #[.val (.int p1), .val (.ref b2669), .val (.ref rt), .val (.ref b2712), .val (.ref b2873), .val (.ref b2901), .unset] [(.int (1 : Int32))])) _
  refine Goes.of (fun t k => XS.istore X2931.here hx rfl (hb hby at_55) rfl (l' := #[.val (.int p1), .val (.ref b2669), .val (.ref rt), .val (.ref b2712), .val (.ref b2873), .val (.ref b2901), .val (.int (1 : Int32))]) rfl k) ?_
  show Goes p e below (T2931.setTop (mkF m 57 #[.val (.int p1), .val (.ref b2669), .val (.ref rt), .val (.ref b2712), .val (.ref b2873), .val (.ref b2901), .val (.int (1 : Int32))] [])) _
  refine Goes.of (fun t k => XS.iload X2931.here hx rfl (hb hby at_57) rfl k) ?_
  show Goes p e below (T2931.setTop (mkF m 59 #[.val (.int p1), .val (.ref b2669), .val (.ref rt), .val (.ref b2712), .val (.ref b2873), .val (.ref b2901), .val (.int (1 : Int32))] [(.int (1 : Int32))])) _
  refine Goes.of (fun t k => XS.aloadN X2931.here hx rfl (hb hby at_59) rfl rfl k) ?_
  show Goes p e below (T2931.setTop (mkF m 60 #[.val (.int p1), .val (.ref b2669), .val (.ref rt), .val (.ref b2712), .val (.ref b2873), .val (.ref b2901), .val (.int (1 : Int32))] [(.ref b2669), (.int (1 : Int32))])) _
  refine Goes.of (fun t k => XS.aloadN X2931.here hx rfl (hb hby at_60) rfl rfl k) ?_
  show Goes p e below (T2931.setTop (mkF m 61 #[.val (.int p1), .val (.ref b2669), .val (.ref rt), .val (.ref b2712), .val (.ref b2873), .val (.ref b2901), .val (.int (1 : Int32))] [(.ref b2712), (.ref b2669), (.int (1 : Int32))])) _
  refine Goes.of (fun t k => XS.aload X2931.here hx rfl (hb hby at_61) rfl rfl k) ?_
  show Goes p e below (T2931.setTop (mkF m 63 #[.val (.int p1), .val (.ref b2669), .val (.ref rt), .val (.ref b2712), .val (.ref b2873), .val (.ref b2901), .val (.int (1 : Int32))] [(.ref b2873), (.ref b2712), (.ref b2669), (.int (1 : Int32))])) _
  refine Goes.of (fun t k => XS.aload X2931.here hx rfl (hb hby at_63) rfl rfl k) ?_
  show Goes p e below (T2931.setTop (mkF m 65 #[.val (.int p1), .val (.ref b2669), .val (.ref rt), .val (.ref b2712), .val (.ref b2873), .val (.ref b2901), .val (.int (1 : Int32))] [(.ref b2901), (.ref b2873), (.ref b2712), (.ref b2669), (.int (1 : Int32))])) _
  refine Goes.of (fun t k => XS.iloadN X2931.here hx rfl (hb hby at_65) rfl k) ?_
  show Goes p e below (T2931.setTop (mkF m 66 #[.val (.int p1), .val (.ref b2669), .val (.ref rt), .val (.ref b2712), .val (.ref b2873), .val (.ref b2901), .val (.int (1 : Int32))] [(.int p1), (.ref b2901), (.ref b2873), (.ref b2712), (.ref b2669), (.int (1 : Int32))])) _
  refine Goes.of (fun t k => XS.iconst X2931.here hx rfl (hb hby at_66) k) ?_
  show Goes p e below (T2931.setTop (mkF m 67 #[.val (.int p1), .val (.ref b2669), .val (.ref rt), .val (.ref b2712), .val (.ref b2873), .val (.ref b2901), .val (.int (1 : Int32))] [(.int (3 : Int32)), (.int p1), (.ref b2901), (.ref b2873), (.ref b2712), (.ref b2669), (.int (1 : Int32))])) _
  refine Goes.of (fun t k => XS.iand X2931.here hx rfl (hb hby at_67) rfl k) ?_
  obtain ⟨_, _, ⟨T2932, L2932, k2932, n2932⟩, -, X2932, ⟨Lc2932, hQ2932, l2932, y2932, z2932⟩, st2932⟩ := Jvm.LawKit.callS X2931 hx (y := (⟨"com/example/ripplematch/ripplematch/core/AgendaIsEmptyPinLaw", "step", "(Lcom/example/ripplematch/ripplematch/core/Agenda;[Lcom/example/ripplematch/ripplematch/core/Activation;[Z[II)Z"⟩ : MethodName)) hown (mvT hZ (wd hw 71 rfl)) (mvT hZ (wd hw 72 rfl)) (mvT hZ (wd hw 73 rfl)) (mvT hZ (wd hw 74 rfl)) (by decide) (backOf (W := 1) (own_rm9 l Z a0 hw [] b2669 b2712 b2873 b2901 (p1 &&& (3 : Int32)) HA FA b2732 b2799 kH kF k2873 k2901 k2712 h2901 n0 z2903 f2912 SA (Or.inl ⟨f2913, f2914, f2915, f2916, f2917, f2918, f2919, f2920, f2921, f2922, f2926, f2927, f2928, f2929, f2930, V2901⟩) f2925 g2670 g2874 g2902 g2682 g2684 g2733 g2800 q2715 q2876 q2904 nH nF q2735 q2802 q2880 q2908 (Ne.symm q2716) (Ne.symm q2717) q2739 q2806 q2911 (Ne.symm q2877) (Ne.symm q2878) (Ne.symm q2881) (Ne.symm q2882) (Ne.symm q2905) (Ne.symm q2906) (Ne.symm q2909) (Ne.symm q2910) nHF q2736 q2803 q2737 q2804 q2807 OH OF) hZ (wd hw 74 rfl) (wd hw 73 rfl) (by decide) (by decide)) (g := (mkF m 68 #[.val (.int p1), .val (.ref b2669), .val (.ref rt), .val (.ref b2712), .val (.ref b2873), .val (.ref b2901), .val (.int (1 : Int32))] [(.int (p1 &&& (3 : Int32))), (.ref b2901), (.ref b2873), (.ref b2712), (.ref b2669), (.int (1 : Int32))])) rfl (by rw [hml]; rfl) (argsL := [(.ref b2669), (.ref b2712), (.ref b2873), (.ref b2901), (.int (p1 &&& (3 : Int32)))]) (rest := [(.int (1 : Int32))]) (lenOf pd_15 rfl) rfl (by show 2 * 0 + _ ≤ _; exact Nat.le_of_eq rfl) (hb hby at_68) (fun _ _ => ⟨rfl, e2931, (by decide : 11 + 0 ≤ _), (by decide : 69 + 0 ≤ _)⟩)
  dsimp only [Pt.U, Pt.locs, Pt.cells, Pt.slots] at X2932 l2932 y2932 z2932 st2932 hQ2932
  subst l2932 y2932 z2932
  obtain ⟨rfl, N2932q, K2932, I2932⟩ := hQ2932
  have N2932 := Fr.app N2931 N2932q
  have z2933 : n0 ≤ T2932.heap.size := Nat.le_trans z2903 K2932.1
  have f2934 := f2912.keep K2932 (allS g2670 (allS g2874 (allS g2902 (allS g2682 (allS g2684 (allS g2733 (allS g2800 all0)))))))
  have f2935 := f2913.keep K2932
  have f2945 := f2923.keep K2932
  have f2946 := f2924.keep K2932 (ninS (Ne.symm q2696) (ninS q2879 (ninS q2907 (ninS (Ne.symm q2697) (ninS (Ne.symm q2698) (ninS q2738 (ninS q2805 nin0)))))))
  have f2947 := f2925.keep K2932 (ninS (Ne.symm q2715) (ninS q2880 (ninS q2908 (ninS (Ne.symm q2716) (ninS (Ne.symm q2717) (ninS q2739 (ninS q2806 nin0)))))))
  have f2948 := f2926.keep K2932
  have f2950 := f2928.keep K2932
  refine Goes.of st2932 ?_
  show Goes p e below (T2932.setTop (mkF m 71 #[.val (.int p1), .val (.ref b2669), .val (.ref rt), .val (.ref b2712), .val (.ref b2873), .val (.ref b2901), .val (.int (1 : Int32))] [(.int (1 : Int32)), (.int (1 : Int32))])) _
  refine Goes.of (fun t k => XS.iand X2932.here hx rfl (hb hby at_71) rfl k) ?_
  show Goes p e below (T2932.setTop (mkF m 72 #[.val (.int p1), .val (.ref b2669), .val (.ref rt), .val (.ref b2712), .val (.ref b2873), .val (.ref b2901), .val (.int (1 : Int32))] [(.int (1 : Int32))])) _
  refine Goes.of (fun t k => XS.istore X2932.here hx rfl (hb hby at_72) rfl (l' := #[.val (.int p1), .val (.ref b2669), .val (.ref rt), .val (.ref b2712), .val (.ref b2873), .val (.ref b2901), .val (.int (1 : Int32))]) rfl k) ?_
  show Goes p e below (T2932.setTop (mkF m 74 #[.val (.int p1), .val (.ref b2669), .val (.ref rt), .val (.ref b2712), .val (.ref b2873), .val (.ref b2901), .val (.int (1 : Int32))] [])) _
  refine Goes.of (fun t k => XS.iload X2932.here hx rfl (hb hby at_74) rfl k) ?_
  show Goes p e below (T2932.setTop (mkF m 76 #[.val (.int p1), .val (.ref b2669), .val (.ref rt), .val (.ref b2712), .val (.ref b2873), .val (.ref b2901), .val (.int (1 : Int32))] [(.int (1 : Int32))])) _
  refine Goes.of (fun t k => XS.aloadN X2932.here hx rfl (hb hby at_76) rfl rfl k) ?_
  show Goes p e below (T2932.setTop (mkF m 77 #[.val (.int p1), .val (.ref b2669), .val (.ref rt), .val (.ref b2712), .val (.ref b2873), .val (.ref b2901), .val (.int (1 : Int32))] [(.ref b2669), (.int (1 : Int32))])) _
  refine Goes.of (fun t k => XS.aloadN X2932.here hx rfl (hb hby at_77) rfl rfl k) ?_
  show Goes p e below (T2932.setTop (mkF m 78 #[.val (.int p1), .val (.ref b2669), .val (.ref rt), .val (.ref b2712), .val (.ref b2873), .val (.ref b2901), .val (.int (1 : Int32))] [(.ref b2712), (.ref b2669), (.int (1 : Int32))])) _
  refine Goes.of (fun t k => XS.aload X2932.here hx rfl (hb hby at_78) rfl rfl k) ?_
  show Goes p e below (T2932.setTop (mkF m 80 #[.val (.int p1), .val (.ref b2669), .val (.ref rt), .val (.ref b2712), .val (.ref b2873), .val (.ref b2901), .val (.int (1 : Int32))] [(.ref b2873), (.ref b2712), (.ref b2669), (.int (1 : Int32))])) _
  refine Goes.of (fun t k => XS.aload X2932.here hx rfl (hb hby at_80) rfl rfl k) ?_
  show Goes p e below (T2932.setTop (mkF m 82 #[.val (.int p1), .val (.ref b2669), .val (.ref rt), .val (.ref b2712), .val (.ref b2873), .val (.ref b2901), .val (.int (1 : Int32))] [(.ref b2901), (.ref b2873), (.ref b2712), (.ref b2669), (.int (1 : Int32))])) _
  refine Goes.of (fun t k => XS.iloadN X2932.here hx rfl (hb hby at_82) rfl k) ?_
  show Goes p e below (T2932.setTop (mkF m 83 #[.val (.int p1), .val (.ref b2669), .val (.ref rt), .val (.ref b2712), .val (.ref b2873), .val (.ref b2901), .val (.int (1 : Int32))] [(.int p1), (.ref b2901), (.ref b2873), (.ref b2712), (.ref b2669), (.int (1 : Int32))])) _
  refine Goes.of (fun t k => XS.iconst X2932.here hx rfl (hb hby at_83) k) ?_
  show Goes p e below (T2932.setTop (mkF m 84 #[.val (.int p1), .val (.ref b2669), .val (.ref rt), .val (.ref b2712), .val (.ref b2873), .val (.ref b2901), .val (.int (1 : Int32))] [(.int (2 : Int32)), (.int p1), (.ref b2901), (.ref b2873), (.ref b2712), (.ref b2669), (.int (1 : Int32))])) _
  refine Goes.of (fun t k => XS.iushr X2932.here hx rfl (hb hby at_84) rfl k) ?_
  show Goes p e below (T2932.setTop (mkF m 85 #[.val (.int p1), .val (.ref b2669), .val (.ref rt), .val (.ref b2712), .val (.ref b2873), .val (.ref b2901), .val (.int (1 : Int32))] [(.int ((p1.toUInt32 >>> ((2 : Int32) &&& 31).toUInt32).toInt32)), (.ref b2901), (.ref b2873), (.ref b2712), (.ref b2669), (.int (1 : Int32))])) _
  refine Goes.of (fun t k => XS.iconst X2932.here hx rfl (hb hby at_85) k) ?_
  show Goes p e below (T2932.setTop (mkF m 86 #[.val (.int p1), .val (.ref b2669), .val (.ref rt), .val (.ref b2712), .val (.ref b2873), .val (.ref b2901), .val (.int (1 : Int32))] [(.int (3 : Int32)), (.int ((p1.toUInt32 >>> ((2 : Int32) &&& 31).toUInt32).toInt32)), (.ref b2901), (.ref b2873), (.ref b2712), (.ref b2669), (.int (1 : Int32))])) _
  refine Goes.of (fun t k => XS.iand X2932.here hx rfl (hb hby at_86) rfl k) ?_
  obtain ⟨_, _, ⟨T2954, L2954, k2954, n2954⟩, -, X2954, ⟨Lc2954, hQ2954, l2954, y2954, z2954⟩, st2954⟩ := Jvm.LawKit.callS X2932 hx (y := (⟨"com/example/ripplematch/ripplematch/core/AgendaIsEmptyPinLaw", "step", "(Lcom/example/ripplematch/ripplematch/core/Agenda;[Lcom/example/ripplematch/ripplematch/core/Activation;[Z[II)Z"⟩ : MethodName)) hown (mvT hZ (wd hw 71 rfl)) (mvT hZ (wd hw 72 rfl)) (mvT hZ (wd hw 73 rfl)) (mvT hZ (wd hw 74 rfl)) (by decide) (backOf (W := 1) (own_rm9 l Z a0 hw [] b2669 b2712 b2873 b2901 (((p1.toUInt32 >>> ((2 : Int32) &&& 31).toUInt32).toInt32) &&& (3 : Int32)) HA FA b2732 b2799 kH kF k2873 k2901 k2712 T2932.heap n0 z2933 f2934 SA I2932 f2947 g2670 g2874 g2902 g2682 g2684 g2733 g2800 q2715 q2876 q2904 nH nF q2735 q2802 q2880 q2908 (Ne.symm q2716) (Ne.symm q2717) q2739 q2806 q2911 (Ne.symm q2877) (Ne.symm q2878) (Ne.symm q2881) (Ne.symm q2882) (Ne.symm q2905) (Ne.symm q2906) (Ne.symm q2909) (Ne.symm q2910) nHF q2736 q2803 q2737 q2804 q2807 OH OF) hZ (wd hw 74 rfl) (wd hw 73 rfl) (by decide) (by decide)) (g := (mkF m 87 #[.val (.int p1), .val (.ref b2669), .val (.ref rt), .val (.ref b2712), .val (.ref b2873), .val (.ref b2901), .val (.int (1 : Int32))] [(.int (((p1.toUInt32 >>> ((2 : Int32) &&& 31).toUInt32).toInt32) &&& (3 : Int32))), (.ref b2901), (.ref b2873), (.ref b2712), (.ref b2669), (.int (1 : Int32))])) rfl (by rw [hml]; rfl) (argsL := [(.ref b2669), (.ref b2712), (.ref b2873), (.ref b2901), (.int (((p1.toUInt32 >>> ((2 : Int32) &&& 31).toUInt32).toInt32) &&& (3 : Int32)))]) (rest := [(.int (1 : Int32))]) (lenOf pd_15 rfl) rfl (by show 2 * 0 + _ ≤ _; exact Nat.le_of_eq rfl) (hb hby at_87) (fun _ _ => ⟨rfl, rfl, (by decide : 11 + 0 ≤ _), (by decide : 69 + 0 ≤ _)⟩)
  dsimp only [Pt.U, Pt.locs, Pt.cells, Pt.slots] at X2954 l2954 y2954 z2954 st2954 hQ2954
  subst l2954 y2954 z2954
  obtain ⟨rfl, N2954q, K2954, I2954⟩ := hQ2954
  have N2954 := Fr.app N2932 N2954q
  have z2955 : n0 ≤ T2954.heap.size := Nat.le_trans z2933 K2954.1
  have f2956 := f2934.keep K2954 (allS g2670 (allS g2874 (allS g2902 (allS g2682 (allS g2684 (allS g2733 (allS g2800 all0)))))))
  have f2957 := f2935.keep K2954
  have f2958 := f2945.keep K2954
  have f2959 := f2946.keep K2954 (ninS (Ne.symm q2696) (ninS q2879 (ninS q2907 (ninS (Ne.symm q2697) (ninS (Ne.symm q2698) (ninS q2738 (ninS q2805 nin0)))))))
  have f2960 := f2947.keep K2954 (ninS (Ne.symm q2715) (ninS q2880 (ninS q2908 (ninS (Ne.symm q2716) (ninS (Ne.symm q2717) (ninS q2739 (ninS q2806 nin0)))))))
  have f2961 := f2948.keep K2954
  have f2962 := f2950.keep K2954
  refine Goes.of st2954 ?_
  show Goes p e below (T2954.setTop (mkF m 90 #[.val (.int p1), .val (.ref b2669), .val (.ref rt), .val (.ref b2712), .val (.ref b2873), .val (.ref b2901), .val (.int (1 : Int32))] [(.int (1 : Int32)), (.int (1 : Int32))])) _
  refine Goes.of (fun t k => XS.iand X2954.here hx rfl (hb hby at_90) rfl k) ?_
  show Goes p e below (T2954.setTop (mkF m 91 #[.val (.int p1), .val (.ref b2669), .val (.ref rt), .val (.ref b2712), .val (.ref b2873), .val (.ref b2901), .val (.int (1 : Int32))] [(.int (1 : Int32))])) _
  refine Goes.of (fun t k => XS.istore X2954.here hx rfl (hb hby at_91) rfl (l' := #[.val (.int p1), .val (.ref b2669), .val (.ref rt), .val (.ref b2712), .val (.ref b2873), .val (.ref b2901), .val (.int (1 : Int32))]) rfl k) ?_
  show Goes p e below (T2954.setTop (mkF m 93 #[.val (.int p1), .val (.ref b2669), .val (.ref rt), .val (.ref b2712), .val (.ref b2873), .val (.ref b2901), .val (.int (1 : Int32))] [])) _
  refine Goes.of (fun t k => XS.iload X2954.here hx rfl (hb hby at_93) rfl k) ?_
  show Goes p e below (T2954.setTop (mkF m 95 #[.val (.int p1), .val (.ref b2669), .val (.ref rt), .val (.ref b2712), .val (.ref b2873), .val (.ref b2901), .val (.int (1 : Int32))] [(.int (1 : Int32))])) _
  refine Goes.of (fun t k => XS.aloadN X2954.here hx rfl (hb hby at_95) rfl rfl k) ?_
  show Goes p e below (T2954.setTop (mkF m 96 #[.val (.int p1), .val (.ref b2669), .val (.ref rt), .val (.ref b2712), .val (.ref b2873), .val (.ref b2901), .val (.int (1 : Int32))] [(.ref b2669), (.int (1 : Int32))])) _
  refine Goes.of (fun t k => XS.aloadN X2954.here hx rfl (hb hby at_96) rfl rfl k) ?_
  show Goes p e below (T2954.setTop (mkF m 97 #[.val (.int p1), .val (.ref b2669), .val (.ref rt), .val (.ref b2712), .val (.ref b2873), .val (.ref b2901), .val (.int (1 : Int32))] [(.ref b2712), (.ref b2669), (.int (1 : Int32))])) _
  refine Goes.of (fun t k => XS.aload X2954.here hx rfl (hb hby at_97) rfl rfl k) ?_
  show Goes p e below (T2954.setTop (mkF m 99 #[.val (.int p1), .val (.ref b2669), .val (.ref rt), .val (.ref b2712), .val (.ref b2873), .val (.ref b2901), .val (.int (1 : Int32))] [(.ref b2873), (.ref b2712), (.ref b2669), (.int (1 : Int32))])) _
  refine Goes.of (fun t k => XS.aload X2954.here hx rfl (hb hby at_99) rfl rfl k) ?_
  show Goes p e below (T2954.setTop (mkF m 101 #[.val (.int p1), .val (.ref b2669), .val (.ref rt), .val (.ref b2712), .val (.ref b2873), .val (.ref b2901), .val (.int (1 : Int32))] [(.ref b2901), (.ref b2873), (.ref b2712), (.ref b2669), (.int (1 : Int32))])) _
  refine Goes.of (fun t k => XS.iloadN X2954.here hx rfl (hb hby at_101) rfl k) ?_
  show Goes p e below (T2954.setTop (mkF m 102 #[.val (.int p1), .val (.ref b2669), .val (.ref rt), .val (.ref b2712), .val (.ref b2873), .val (.ref b2901), .val (.int (1 : Int32))] [(.int p1), (.ref b2901), (.ref b2873), (.ref b2712), (.ref b2669), (.int (1 : Int32))])) _
  refine Goes.of (fun t k => XS.iconst X2954.here hx rfl (hb hby at_102) k) ?_
  show Goes p e below (T2954.setTop (mkF m 103 #[.val (.int p1), .val (.ref b2669), .val (.ref rt), .val (.ref b2712), .val (.ref b2873), .val (.ref b2901), .val (.int (1 : Int32))] [(.int (4 : Int32)), (.int p1), (.ref b2901), (.ref b2873), (.ref b2712), (.ref b2669), (.int (1 : Int32))])) _
  refine Goes.of (fun t k => XS.iushr X2954.here hx rfl (hb hby at_103) rfl k) ?_
  show Goes p e below (T2954.setTop (mkF m 104 #[.val (.int p1), .val (.ref b2669), .val (.ref rt), .val (.ref b2712), .val (.ref b2873), .val (.ref b2901), .val (.int (1 : Int32))] [(.int ((p1.toUInt32 >>> ((4 : Int32) &&& 31).toUInt32).toInt32)), (.ref b2901), (.ref b2873), (.ref b2712), (.ref b2669), (.int (1 : Int32))])) _
  refine Goes.of (fun t k => XS.iconst X2954.here hx rfl (hb hby at_104) k) ?_
  show Goes p e below (T2954.setTop (mkF m 105 #[.val (.int p1), .val (.ref b2669), .val (.ref rt), .val (.ref b2712), .val (.ref b2873), .val (.ref b2901), .val (.int (1 : Int32))] [(.int (3 : Int32)), (.int ((p1.toUInt32 >>> ((4 : Int32) &&& 31).toUInt32).toInt32)), (.ref b2901), (.ref b2873), (.ref b2712), (.ref b2669), (.int (1 : Int32))])) _
  refine Goes.of (fun t k => XS.iand X2954.here hx rfl (hb hby at_105) rfl k) ?_
  obtain ⟨_, _, ⟨T2963, L2963, k2963, n2963⟩, -, X2963, ⟨Lc2963, hQ2963, l2963, y2963, z2963⟩, st2963⟩ := Jvm.LawKit.callS X2954 hx (y := (⟨"com/example/ripplematch/ripplematch/core/AgendaIsEmptyPinLaw", "step", "(Lcom/example/ripplematch/ripplematch/core/Agenda;[Lcom/example/ripplematch/ripplematch/core/Activation;[Z[II)Z"⟩ : MethodName)) hown (mvT hZ (wd hw 71 rfl)) (mvT hZ (wd hw 72 rfl)) (mvT hZ (wd hw 73 rfl)) (mvT hZ (wd hw 74 rfl)) (by decide) (backOf (W := 1) (own_rm9 l Z a0 hw [] b2669 b2712 b2873 b2901 (((p1.toUInt32 >>> ((4 : Int32) &&& 31).toUInt32).toInt32) &&& (3 : Int32)) HA FA b2732 b2799 kH kF k2873 k2901 k2712 T2954.heap n0 z2955 f2956 SA I2954 f2960 g2670 g2874 g2902 g2682 g2684 g2733 g2800 q2715 q2876 q2904 nH nF q2735 q2802 q2880 q2908 (Ne.symm q2716) (Ne.symm q2717) q2739 q2806 q2911 (Ne.symm q2877) (Ne.symm q2878) (Ne.symm q2881) (Ne.symm q2882) (Ne.symm q2905) (Ne.symm q2906) (Ne.symm q2909) (Ne.symm q2910) nHF q2736 q2803 q2737 q2804 q2807 OH OF) hZ (wd hw 74 rfl) (wd hw 73 rfl) (by decide) (by decide)) (g := (mkF m 106 #[.val (.int p1), .val (.ref b2669), .val (.ref rt), .val (.ref b2712), .val (.ref b2873), .val (.ref b2901), .val (.int (1 : Int32))] [(.int (((p1.toUInt32 >>> ((4 : Int32) &&& 31).toUInt32).toInt32) &&& (3 : Int32))), (.ref b2901), (.ref b2873), (.ref b2712), (.ref b2669), (.int (1 : Int32))])) rfl (by rw [hml]; rfl) (argsL := [(.ref b2669), (.ref b2712), (.ref b2873), (.ref b2901), (.int (((p1.toUInt32 >>> ((4 : Int32) &&& 31).toUInt32).toInt32) &&& (3 : Int32)))]) (rest := [(.int (1 : Int32))]) (lenOf pd_15 rfl) rfl (by show 2 * 0 + _ ≤ _; exact Nat.le_of_eq rfl) (hb hby at_106) (fun _ _ => ⟨rfl, rfl, (by decide : 11 + 0 ≤ _), (by decide : 69 + 0 ≤ _)⟩)
  dsimp only [Pt.U, Pt.locs, Pt.cells, Pt.slots] at X2963 l2963 y2963 z2963 st2963 hQ2963
  subst l2963 y2963 z2963
  obtain ⟨rfl, N2963q, K2963, I2963⟩ := hQ2963
  have N2963 := Fr.app N2954 N2963q
  have z2964 : n0 ≤ T2963.heap.size := Nat.le_trans z2955 K2963.1
  have f2965 := f2956.keep K2963 (allS g2670 (allS g2874 (allS g2902 (allS g2682 (allS g2684 (allS g2733 (allS g2800 all0)))))))
  have f2966 := f2957.keep K2963
  have f2967 := f2958.keep K2963
  have f2968 := f2959.keep K2963 (ninS (Ne.symm q2696) (ninS q2879 (ninS q2907 (ninS (Ne.symm q2697) (ninS (Ne.symm q2698) (ninS q2738 (ninS q2805 nin0)))))))
  have f2969 := f2960.keep K2963 (ninS (Ne.symm q2715) (ninS q2880 (ninS q2908 (ninS (Ne.symm q2716) (ninS (Ne.symm q2717) (ninS q2739 (ninS q2806 nin0)))))))
  have f2970 := f2961.keep K2963
  have f2971 := f2962.keep K2963
  refine Goes.of st2963 ?_
  show Goes p e below (T2963.setTop (mkF m 109 #[.val (.int p1), .val (.ref b2669), .val (.ref rt), .val (.ref b2712), .val (.ref b2873), .val (.ref b2901), .val (.int (1 : Int32))] [(.int (1 : Int32)), (.int (1 : Int32))])) _
  refine Goes.of (fun t k => XS.iand X2963.here hx rfl (hb hby at_109) rfl k) ?_
  show Goes p e below (T2963.setTop (mkF m 110 #[.val (.int p1), .val (.ref b2669), .val (.ref rt), .val (.ref b2712), .val (.ref b2873), .val (.ref b2901), .val (.int (1 : Int32))] [(.int (1 : Int32))])) _
  refine Goes.of (fun t k => XS.istore X2963.here hx rfl (hb hby at_110) rfl (l' := #[.val (.int p1), .val (.ref b2669), .val (.ref rt), .val (.ref b2712), .val (.ref b2873), .val (.ref b2901), .val (.int (1 : Int32))]) rfl k) ?_
  show Goes p e below (T2963.setTop (mkF m 112 #[.val (.int p1), .val (.ref b2669), .val (.ref rt), .val (.ref b2712), .val (.ref b2873), .val (.ref b2901), .val (.int (1 : Int32))] [])) _
  refine Goes.of (fun t k => XS.iload X2963.here hx rfl (hb hby at_112) rfl k) ?_
  show Goes p e below (T2963.setTop (mkF m 114 #[.val (.int p1), .val (.ref b2669), .val (.ref rt), .val (.ref b2712), .val (.ref b2873), .val (.ref b2901), .val (.int (1 : Int32))] [(.int (1 : Int32))])) _
  refine Goes.of (fun t k => XS.aloadN X2963.here hx rfl (hb hby at_114) rfl rfl k) ?_
  show Goes p e below (T2963.setTop (mkF m 115 #[.val (.int p1), .val (.ref b2669), .val (.ref rt), .val (.ref b2712), .val (.ref b2873), .val (.ref b2901), .val (.int (1 : Int32))] [(.ref b2669), (.int (1 : Int32))])) _
  refine Goes.of (fun t k => XS.aloadN X2963.here hx rfl (hb hby at_115) rfl rfl k) ?_
  show Goes p e below (T2963.setTop (mkF m 116 #[.val (.int p1), .val (.ref b2669), .val (.ref rt), .val (.ref b2712), .val (.ref b2873), .val (.ref b2901), .val (.int (1 : Int32))] [(.ref b2712), (.ref b2669), (.int (1 : Int32))])) _
  refine Goes.of (fun t k => XS.aload X2963.here hx rfl (hb hby at_116) rfl rfl k) ?_
  show Goes p e below (T2963.setTop (mkF m 118 #[.val (.int p1), .val (.ref b2669), .val (.ref rt), .val (.ref b2712), .val (.ref b2873), .val (.ref b2901), .val (.int (1 : Int32))] [(.ref b2873), (.ref b2712), (.ref b2669), (.int (1 : Int32))])) _
  refine Goes.of (fun t k => XS.aload X2963.here hx rfl (hb hby at_118) rfl rfl k) ?_
  show Goes p e below (T2963.setTop (mkF m 120 #[.val (.int p1), .val (.ref b2669), .val (.ref rt), .val (.ref b2712), .val (.ref b2873), .val (.ref b2901), .val (.int (1 : Int32))] [(.ref b2901), (.ref b2873), (.ref b2712), (.ref b2669), (.int (1 : Int32))])) _
  refine Goes.of (fun t k => XS.iloadN X2963.here hx rfl (hb hby at_120) rfl k) ?_
  show Goes p e below (T2963.setTop (mkF m 121 #[.val (.int p1), .val (.ref b2669), .val (.ref rt), .val (.ref b2712), .val (.ref b2873), .val (.ref b2901), .val (.int (1 : Int32))] [(.int p1), (.ref b2901), (.ref b2873), (.ref b2712), (.ref b2669), (.int (1 : Int32))])) _
  refine Goes.of (fun t k => XS.bipush X2963.here hx rfl (hb hby at_121) k) ?_
  show Goes p e below (T2963.setTop (mkF m 123 #[.val (.int p1), .val (.ref b2669), .val (.ref rt), .val (.ref b2712), .val (.ref b2873), .val (.ref b2901), .val (.int (1 : Int32))] [(.int (6 : Int32)), (.int p1), (.ref b2901), (.ref b2873), (.ref b2712), (.ref b2669), (.int (1 : Int32))])) _
  refine Goes.of (fun t k => XS.iushr X2963.here hx rfl (hb hby at_123) rfl k) ?_
  show Goes p e below (T2963.setTop (mkF m 124 #[.val (.int p1), .val (.ref b2669), .val (.ref rt), .val (.ref b2712), .val (.ref b2873), .val (.ref b2901), .val (.int (1 : Int32))] [(.int ((p1.toUInt32 >>> ((6 : Int32) &&& 31).toUInt32).toInt32)), (.ref b2901), (.ref b2873), (.ref b2712), (.ref b2669), (.int (1 : Int32))])) _
  refine Goes.of (fun t k => XS.iconst X2963.here hx rfl (hb hby at_124) k) ?_
  show Goes p e below (T2963.setTop (mkF m 125 #[.val (.int p1), .val (.ref b2669), .val (.ref rt), .val (.ref b2712), .val (.ref b2873), .val (.ref b2901), .val (.int (1 : Int32))] [(.int (3 : Int32)), (.int ((p1.toUInt32 >>> ((6 : Int32) &&& 31).toUInt32).toInt32)), (.ref b2901), (.ref b2873), (.ref b2712), (.ref b2669), (.int (1 : Int32))])) _
  refine Goes.of (fun t k => XS.iand X2963.here hx rfl (hb hby at_125) rfl k) ?_
  obtain ⟨_, _, ⟨T2972, L2972, k2972, n2972⟩, -, X2972, ⟨Lc2972, hQ2972, l2972, y2972, z2972⟩, st2972⟩ := Jvm.LawKit.callS X2963 hx (y := (⟨"com/example/ripplematch/ripplematch/core/AgendaIsEmptyPinLaw", "step", "(Lcom/example/ripplematch/ripplematch/core/Agenda;[Lcom/example/ripplematch/ripplematch/core/Activation;[Z[II)Z"⟩ : MethodName)) hown (mvT hZ (wd hw 71 rfl)) (mvT hZ (wd hw 72 rfl)) (mvT hZ (wd hw 73 rfl)) (mvT hZ (wd hw 74 rfl)) (by decide) (backOf (W := 1) (own_rm9 l Z a0 hw [] b2669 b2712 b2873 b2901 (((p1.toUInt32 >>> ((6 : Int32) &&& 31).toUInt32).toInt32) &&& (3 : Int32)) HA FA b2732 b2799 kH kF k2873 k2901 k2712 T2963.heap n0 z2964 f2965 SA I2963 f2969 g2670 g2874 g2902 g2682 g2684 g2733 g2800 q2715 q2876 q2904 nH nF q2735 q2802 q2880 q2908 (Ne.symm q2716) (Ne.symm q2717) q2739 q2806 q2911 (Ne.symm q2877) (Ne.symm q2878) (Ne.symm q2881) (Ne.symm q2882) (Ne.symm q2905) (Ne.symm q2906) (Ne.symm q2909) (Ne.symm q2910) nHF q2736 q2803 q2737 q2804 q2807 OH OF) hZ (wd hw 74 rfl) (wd hw 73 rfl) (by decide) (by decide)) (g := (mkF m 126 #[.val (.int p1), .val (.ref b2669), .val (.ref rt), .val (.ref b2712), .val (.ref b2873), .val (.ref b2901), .val (.int (1 : Int32))] [(.int (((p1.toUInt32 >>> ((6 : Int32) &&& 31).toUInt32).toInt32) &&& (3 : Int32))), (.ref b2901), (.ref b2873), (.ref b2712), (.ref b2669), (.int (1 : Int32))])) rfl (by rw [hml]; rfl) (argsL := [(.ref b2669), (.ref b2712), (.ref b2873), (.ref b2901), (.int (((p1.toUInt32 >>> ((6 : Int32) &&& 31).toUInt32).toInt32) &&& (3 : Int32)))]) (rest := [(.int (1 : Int32))]) (lenOf pd_15 rfl) rfl (by show 2 * 0 + _ ≤ _; exact Nat.le_of_eq rfl) (hb hby at_126) (fun _ _ => ⟨rfl, rfl, (by decide : 11 + 0 ≤ _), (by decide : 69 + 0 ≤ _)⟩)
  dsimp only [Pt.U, Pt.locs, Pt.cells, Pt.slots] at X2972 l2972 y2972 z2972 st2972 hQ2972
  subst l2972 y2972 z2972
  obtain ⟨rfl, N2972q, K2972, I2972⟩ := hQ2972
  have N2972 := Fr.app N2963 N2972q
  have z2973 : n0 ≤ T2972.heap.size := Nat.le_trans z2964 K2972.1
  have f2974 := f2965.keep K2972 (allS g2670 (allS g2874 (allS g2902 (allS g2682 (allS g2684 (allS g2733 (allS g2800 all0)))))))
  have f2975 := f2966.keep K2972
  have f2976 := f2967.keep K2972
  have f2977 := f2968.keep K2972 (ninS (Ne.symm q2696) (ninS q2879 (ninS q2907 (ninS (Ne.symm q2697) (ninS (Ne.symm q2698) (ninS q2738 (ninS q2805 nin0)))))))
  have f2978 := f2969.keep K2972 (ninS (Ne.symm q2715) (ninS q2880 (ninS q2908 (ninS (Ne.symm q2716) (ninS (Ne.symm q2717) (ninS q2739 (ninS q2806 nin0)))))))
  have f2979 := f2970.keep K2972
  have f2980 := f2971.keep K2972
  refine Goes.of st2972 ?_
  show Goes p e below (T2972.setTop (mkF m 129 #[.val (.int p1), .val (.ref b2669), .val (.ref rt), .val (.ref b2712), .val (.ref b2873), .val (.ref b2901), .val (.int (1 : Int32))] [(.int (1 : Int32)), (.int (1 : Int32))])) _
  refine Goes.of (fun t k => XS.iand X2972.here hx rfl (hb hby at_129) rfl k) ?_
  show Goes p e below (T2972.setTop (mkF m 130 #[.val (.int p1), .val (.ref b2669), .val (.ref rt), .val (.ref b2712), .val (.ref b2873), .val (.ref b2901), .val (.int (1 : Int32))] [(.int (1 : Int32))])) _
  refine Goes.of (fun t k => XS.istore X2972.here hx rfl (hb hby at_130) rfl (l' := #[.val (.int p1), .val (.ref b2669), .val (.ref rt), .val (.ref b2712), .val (.ref b2873), .val (.ref b2901), .val (.int (1 : Int32))]) rfl k) ?_
  show Goes p e below (T2972.setTop (mkF m 132 #[.val (.int p1), .val (.ref b2669), .val (.ref rt), .val (.ref b2712), .val (.ref b2873), .val (.ref b2901), .val (.int (1 : Int32))] [])) _
  refine Goes.of (fun t k => XS.iload X2972.here hx rfl (hb hby at_132) rfl k) ?_
  show Goes p e below (T2972.setTop (mkF m 134 #[.val (.int p1), .val (.ref b2669), .val (.ref rt), .val (.ref b2712), .val (.ref b2873), .val (.ref b2901), .val (.int (1 : Int32))] [(.int (1 : Int32))])) _
  exact Goes.retN (t := .boolean) X2972 hx Bd.returns (by simp) hlocks (hb hby at_134) (⟨rfl, N2972⟩) (by decide) (by decide)
theorem own_val {t : Term} {k : Int32} {args : Array Value} {s : State} (h : (Jvm.Cond.eq t (.int k)).value args s none s [] = some true) : t.eval args s none [] s = some (.int k) := by
  obtain ⟨x, y, e1, e2, hk, -⟩ := cmp_v (Or.inl h)
  have e3 : (Term.int k).eval args s none [] s = some (.int k) := rfl
  rw [e3] at e2; cases e2
  rw [e1]
  simp only [Cond.value, e1, e3] at h
  cases x <;> simp_all
set_option maxRecDepth 65536 in
set_option maxHeartbeats 40000000 in
theorem comes_1 {Post : Tables → Env → Array Value → State → Outcome → State → Prop} (hpost : ∀ tb e args s v u, (limb_1_1.after args s (.returned v) u = true ∧ limb_1_2.after args s (.returned v) u = true ∧ True) → FrameEnd s (.returned v) u (Jvm.fieldLocs frame_1_writes args s ++ Jvm.arrayLocs frame_1_arrays args s ++ Jvm.staticLocs frame_1_statics s) 32 256 → Post tb e args s (.returned v) u) :
    ArmFor flags0 classFile x code maxLocals ret World_1 tables_1 room_1 Calls_1 rest_1 Pre_1 Post := by
  intro l hfl _ _ p e ha hc hk s m args below hf hA hF happ hP
  obtain ⟨hcalls, hrest, hpre⟩ := hP
  obtain ⟨-, -, -, hnamed, -, -, -, hat⟩ := (Spec.applies_iff hf).mp happ
  obtain ⟨hg, hn⟩ := and_e (Cond.before_iff.mp (show (Jvm.Cond.and given_1 narrow_1).before args s = true from hpre))
  obtain ⟨g2981, g2982⟩ := and_e hg
  obtain ⟨w0, rfl⟩ : ∃ w0 : Value, args = #[w0] := by
    have hs : args.size = 1 := by simpa [Cond.value, given_1] using g2981
    obtain ⟨L⟩ := args
    match L, hs with
    | [w0], _ => exact ⟨w0, rfl⟩
  have hw := fun d (hd : d ∈ tables_1) => atoms_spec (ws := Jvm.Cond.code x code maxLocals ret :: tables_1) hat d (List.mem_cons_of_mem _ hd)
  have hfit : Fit s := fun {y c} hc i hi => by
    obtain ⟨ha, rfl⟩ := Array.getElem?_eq_some_iff.mp hc
    have q := List.all_eq_true.mp ((Array.all_eq_true_iff_forall_mem.mp hF) _ (Array.getElem_mem ha)) i (List.mem_range.mpr hi)
    simpa [Array.getElem?_eq_getElem hi] using q
  obtain ⟨i0, ei0⟩ := is_v g2982
  obtain rfl : w0 = (.int i0) := Option.some.inj ei0
  have vA : (Term.static "com/example/ripplematch/ripplematch/core/Agenda" "$assertionsDisabled" "Z").eval _ s none [] s = some (.int 1) := own_val hn
  have SA := Sta.start vA (Or.inr ⟨(wd hw 2 rfl), (wd hw 81 rfl)⟩)
  obtain ⟨n, o, h1, h2, h3, _, L, rfl, ⟨rfl, N⟩, hq⟩ := rm0 l s _ hw tables_1 i0  s.heap s.heap.size (Nat.le_refl _) (Old.start s) SA p e ha hc hk s m _ below hf ((Spec.applies_iff_loose hf).mp happ).1 ⟨rfl, State.Warmed39.refl s, rfl⟩ trivial
  refine ⟨n, _, h1, h2, h3, hpost _ _ _ _ _ _ ⟨Cond.after_iff.mpr rfl, Cond.after_iff.mpr (eq_i res_at (Term.int_eval (1)) rfl), trivial⟩ ⟨hq.1, hq.2.1, (hq.2.2.sift fun y hy => Or.inr (N y hy)).mono (by decide) (by decide)⟩⟩
theorem main_1_1 : Claimed_1_1 := comes_1 fun _ _ _ _ _ _ h hF => ⟨h.1, hF⟩
theorem main_1_2 : Claimed_1_2 := comes_1 fun _ _ _ _ _ _ h hF => ⟨h.2.1, hF⟩
end Jvm.Pilot.@@N@@
namespace Jvm.Pilot.@@N@@
open Jvm Jvm.ClassFile Sem Op Lib Jvm.Free Jvm.Stand Jvm.Pilot.@@N@@.Jvm.D
/-! MADE BY PROGRAM (witnessworld.py) out of the Statement's table words and the real class files: 16 classes; the members and pool entries that the words name. The judged class is class 1, her method 1. -/
namespace start1
open Jvm.ClassFile
def u (s : String) : CpInfo := .utf8 (stringToUtf16 s)
/-- a pool by its gaps: so many unusable entries, then the entry; so many at the end -/
def gap : Nat → List CpInfo → List CpInfo
  | 0, r => r
  | n + 1, r => .unusable :: gap n r
def poolList (es : List (Nat × CpInfo)) (last : Nat) : List CpInfo := es.foldr (fun e r => gap e.1 (e.2 :: r)) (gap last [])
def pool (es : List (Nat × CpInfo)) (last : Nat) : Array CpInfo := ⟨poolList es last⟩
def fileOf (pool : Array CpInfo) (this : Nat) (attrs : Array Attribute := #[]) (ms : Array MethodInfo := #[]) (fl : Nat := 33) (sup : Nat := 0) (ifs : Array Nat := #[]) (fds : Array FieldInfo := #[]) : ClassFile where
  minorVersion := 0
  majorVersion := 65
  constantPool := pool
  accessFlags := fl
  thisClass := this
  superClass := sup
  interfaces := ifs
  fields := fds
  methods := ms
  attributes := attrs
def plain (name : String) (sup : Option ClassId) : Class where
  name := name
  kind := .ordinary
  loader := none
  accessFlags := 33
  super := sup
  interfaces := #[]
  cf := none
  fields := #[]
  methods := #[]
  instanceTypes := #[]
  staticTypes := #[]
  resolved := #[]
  callSites := []
  init := .initialized
  statics := none
  mirror := none

def pool0 : Array CpInfo := pool [(5, u "<init>"), (0, u "()V"), (1, .class_ 10), (1, u "java/lang/Object")] 113

def k0c0 : Code := { maxStack := 0, maxLocals := 1, code := object_method_1_code, exceptionTable := #[], attributes := #[] }
def k0m0 : Method := { name := "<init>", desc := "()V", sig := { parameters := [], returnType := none }, accessFlags := 1, code := some k0c0 }
/-- java/lang/Object -/
def k0 : Class := { plain "java/lang/Object" none with
  accessFlags := 33
  interfaces := #[]
  cf := some (fileOf pool0 8 #[] #[{ accessFlags := 1, nameIndex := 5, descriptorIndex := 6, attributes := #[] }] 33 0 #[] #[])
  fields := #[]
  methods := #[k0m0]
  instanceTypes := #[]
  staticTypes := #[]
  resolved := Array.replicate 124 none
  statics := none }

def pool1 : Array CpInfo := pool [(2, .class_ 4), (0, .nameAndType 5 6), (0, u "java/lang/Object"), (0, u "<init>"), (0, u "()V"), (0, .class_ 8), (0, u "com/example/ripplematch/ripplematch/core/Agenda"), (0, .methodref 7 3), (0, .methodref 11 12), (0, .class_ 13), (0, .nameAndType 14 15), (0, u "com/example/ripplematch/ripplematch/core/PartialMatch"), (0, u "root"), (0, u "()Lcom/example/ripplematch/ripplematch/core/PartialMatch;"), (0, .class_ 17), (0, u "com/example/ripplematch/ripplematch/core/Activation"), (0, .methodref 16 19), (0, .nameAndType 5 20), (0, u "(Lcom/example/ripplematch/ripplematch/core/CompiledRule;Lcom/example/ripplematch/ripplematch/core/PartialMatch;)V"), (0, .methodref 7 22), (0, .nameAndType 23 24), (0, u "isEmpty"), (0, u "()Z"), (0, .methodref 26 27), (0, .class_ 28), (0, .nameAndType 29 30), (0, u "com/example/ripplematch/ripplematch/core/AgendaIsEmptyPinLaw"), (0, u "step"), (0, u "(Lcom/example/ripplematch/ripplematch/core/Agenda;[Lcom/example/ripplematch/ripplematch/core/Activation;[Z[II)Z"), (0, .methodref 7 32), (0, .nameAndType 33 34), (0, u "pollFirst"), (0, u "()Lcom/example/ripplematch/ripplematch/core/Activation;"), (0, .methodref 7 36), (0, .nameAndType 37 38), (0, u "remove"), (0, u "(Lcom/example/ripplematch/ripplematch/core/Activation;)V"), (0, .methodref 7 40), (0, .nameAndType 41 38), (0, u "add"), (2, u "law"), (0, u "(I)Z")] 9

def k1m0 : Method := { name := "<init>", desc := "()V", sig := { parameters := [], returnType := none }, accessFlags := 1, code := none }
def k1c1 : Code := { maxStack := 7, maxLocals := 7, code := code, exceptionTable := #[], attributes := #[] }
def k1m1 : Method := { name := "law", desc := "(I)Z", sig := { parameters := [.int], returnType := some .boolean }, accessFlags := 9, code := some k1c1 }
def k1c2 : Code := { maxStack := 4, maxLocals := 9, code := method_3_code, exceptionTable := #[], attributes := #[] }
def k1m2 : Method := { name := "step", desc := "(Lcom/example/ripplematch/ripplematch/core/Agenda;[Lcom/example/ripplematch/ripplematch/core/Activation;[Z[II)Z", sig := { parameters := [(.object "com/example/ripplematch/ripplematch/core/Agenda"), (.array (.object "com/example/ripplematch/ripplematch/core/Activation")), (.array .boolean), (.array .int), .int], returnType := some .boolean }, accessFlags := 10, code := some k1c2 }
/-- com/example/ripplematch/ripplematch/core/AgendaIsEmptyPinLaw -/
def k1 : Class := { plain "com/example/ripplematch/ripplematch/core/AgendaIsEmptyPinLaw" (some 0) with
  accessFlags := 49
  interfaces := #[]
  cf := some (fileOf pool1 26 #[] #[{ accessFlags := 1, nameIndex := 5, descriptorIndex := 6, attributes := #[] }, { accessFlags := 9, nameIndex := 44, descriptorIndex := 45, attributes := #[] }, { accessFlags := 10, nameIndex := 29, descriptorIndex := 30, attributes := #[] }] 49 2 #[] #[])
  fields := #[]
  methods := #[k1m0, k1m1, k1m2]
  instanceTypes := #[]
  staticTypes := #[]
  resolved := Array.replicate 55 none
  statics := none }

def pool2 : Array CpInfo := pool [(1, .methodref 2 3), (0, .class_ 4), (0, .nameAndType 5 6), (0, u "java/lang/Object"), (0, u "<init>"), (0, u "()V"), (0, .class_ 8), (0, u "com/example/ripplematch/ripplematch/core/Activation"), (0, .fieldref 10 11), (0, .class_ 12), (0, .nameAndType 13 14), (0, u "com/example/ripplematch/ripplematch/core/Agenda"), (0, u "heap"), (0, u "[Lcom/example/ripplematch/ripplematch/core/Activation;"), (0, .fieldref 10 16), (0, .nameAndType 17 14), (0, u "fresh"), (0, .fieldref 10 19), (0, .nameAndType 20 21), (0, u "size"), (0, u "I"), (0, .fieldref 10 23), (0, .nameAndType 24 25), (0, u "$assertionsDisabled"), (0, u "Z"), (0, .fieldref 7 27), (0, .nameAndType 28 21), (0, u "place"), (9, .fieldref 10 39), (0, .nameAndType 40 21), (0, u "freshSize"), (15, .fieldref 10 57), (0, .nameAndType 58 21), (0, u "gone"), (4, .fieldref 10 64), (0, .nameAndType 65 25), (0, u "disordered"), (0, .methodref 10 67), (0, .nameAndType 68 6), (0, u "order"), (0, .fieldref 10 70), (0, .nameAndType 71 21), (0, u "heapSize"), (3, u "(ILcom/example/ripplematch/ripplematch/core/Activation;)V"), (10, .methodref 10 87), (0, .nameAndType 88 6), (0, u "rebuild"), (0, .methodref 10 90), (0, .nameAndType 91 92), (0, u "grow"), (0, u "(I)V"), (7, .methodref 10 101), (0, .nameAndType 102 75), (0, u "set"), (12, u "()Z"), (0, u "OFF"), (2, u "FRESH"), (4, u "isEmpty"), (1, u "add"), (0, u "(Lcom/example/ripplematch/ripplematch/core/Activation;)V"), (0, u "remove"), (2, u "pollFirst"), (0, u "()Lcom/example/ripplematch/ripplematch/core/Activation;")] 20

def k2c0 : Code := { maxStack := 2, maxLocals := 1, code := prog_13_method_1_code, exceptionTable := #[], attributes := #[] }
def k2m0 : Method := { name := "<init>", desc := "()V", sig := { parameters := [], returnType := none }, accessFlags := 0, code := some k2c0 }
def k2c1 : Code := { maxStack := 1, maxLocals := 1, code := prog_13_method_3_code, exceptionTable := #[], attributes := #[] }
def k2m1 : Method := { name := "isEmpty", desc := "()Z", sig := { parameters := [], returnType := some .boolean }, accessFlags := 0, code := some k2c1 }
def k2c2 : Code := { maxStack := 4, maxLocals := 2, code := prog_13_method_4_code, exceptionTable := #[], attributes := #[] }
def k2m2 : Method := { name := "add", desc := "(Lcom/example/ripplematch/ripplematch/core/Activation;)V", sig := { parameters := [(.object "com/example/ripplematch/ripplematch/core/Activation")], returnType := none }, accessFlags := 0, code := some k2c2 }
def k2c3 : Code := { maxStack := 4, maxLocals := 5, code := prog_13_method_5_code, exceptionTable := #[], attributes := #[] }
def k2m3 : Method := { name := "remove", desc := "(Lcom/example/ripplematch/ripplematch/core/Activation;)V", sig := { parameters := [(.object "com/example/ripplematch/ripplematch/core/Activation")], returnType := none }, accessFlags := 0, code := some k2c3 }
def k2c4 : Code := { maxStack := 4, maxLocals := 3, code := prog_13_method_7_code, exceptionTable := #[], attributes := #[] }
def k2m4 : Method := { name := "pollFirst", desc := "()Lcom/example/ripplematch/ripplematch/core/Activation;", sig := { parameters := [], returnType := some (.object "com/example/ripplematch/ripplematch/core/Activation") }, accessFlags := 0, code := some k2c4 }
def k2c5 : Code := { maxStack := 5, maxLocals := 2, code := prog_13_method_8_code, exceptionTable := #[], attributes := #[] }
def k2m5 : Method := { name := "order", desc := "()V", sig := { parameters := [], returnType := none }, accessFlags := 2, code := some k2c5 }
def k2c6 : Code := { maxStack := 4, maxLocals := 3, code := prog_13_method_9_code, exceptionTable := #[], attributes := #[] }
def k2m6 : Method := { name := "rebuild", desc := "()V", sig := { parameters := [], returnType := none }, accessFlags := 2, code := some k2c6 }
def k2c7 : Code := { maxStack := 5, maxLocals := 2, code := prog_13_method_10_code, exceptionTable := #[], attributes := #[] }
def k2m7 : Method := { name := "grow", desc := "(I)V", sig := { parameters := [.int], returnType := none }, accessFlags := 2, code := some k2c7 }
def k2c8 : Code := { maxStack := 3, maxLocals := 3, code := prog_13_method_14_code, exceptionTable := #[], attributes := #[] }
def k2m8 : Method := { name := "set", desc := "(ILcom/example/ripplematch/ripplematch/core/Activation;)V", sig := { parameters := [.int, (.object "com/example/ripplematch/ripplematch/core/Activation")], returnType := none }, accessFlags := 2, code := some k2c8 }
/-- com/example/ripplematch/ripplematch/core/Agenda -/
def k2 : Class := { plain "com/example/ripplematch/ripplematch/core/Agenda" (some 0) with
  accessFlags := 48
  interfaces := #[]
  cf := some (fileOf pool2 10 #[] #[{ accessFlags := 0, nameIndex := 5, descriptorIndex := 6, attributes := #[] }, { accessFlags := 0, nameIndex := 124, descriptorIndex := 115, attributes := #[] }, { accessFlags := 0, nameIndex := 126, descriptorIndex := 127, attributes := #[] }, { accessFlags := 0, nameIndex := 128, descriptorIndex := 127, attributes := #[] }, { accessFlags := 0, nameIndex := 131, descriptorIndex := 132, attributes := #[] }, { accessFlags := 2, nameIndex := 68, descriptorIndex := 6, attributes := #[] }, { accessFlags := 2, nameIndex := 88, descriptorIndex := 6, attributes := #[] }, { accessFlags := 2, nameIndex := 91, descriptorIndex := 92, attributes := #[] }, { accessFlags := 2, nameIndex := 102, descriptorIndex := 75, attributes := #[] }] 48 2 #[] #[{ accessFlags := 24, nameIndex := 116, descriptorIndex := 21, attributes := #[] }, { accessFlags := 2, nameIndex := 13, descriptorIndex := 14, attributes := #[] }, { accessFlags := 2, nameIndex := 71, descriptorIndex := 21, attributes := #[] }, { accessFlags := 2, nameIndex := 58, descriptorIndex := 21, attributes := #[] }, { accessFlags := 2, nameIndex := 65, descriptorIndex := 25, attributes := #[] }, { accessFlags := 2, nameIndex := 17, descriptorIndex := 14, attributes := #[] }, { accessFlags := 2, nameIndex := 40, descriptorIndex := 21, attributes := #[] }, { accessFlags := 2, nameIndex := 20, descriptorIndex := 21, attributes := #[] }, { accessFlags := 26, nameIndex := 119, descriptorIndex := 21, attributes := #[] }, { accessFlags := 4120, nameIndex := 24, descriptorIndex := 25, attributes := #[] }])
  fields := #[{ name := "OFF", type := .int, accessFlags := 24, slot := 0, constantValue := 0 }, { name := "heap", type := (.array (.object "com/example/ripplematch/ripplematch/core/Activation")), accessFlags := 2, slot := 0, constantValue := 0 }, { name := "heapSize", type := .int, accessFlags := 2, slot := 1, constantValue := 0 }, { name := "gone", type := .int, accessFlags := 2, slot := 2, constantValue := 0 }, { name := "disordered", type := .boolean, accessFlags := 2, slot := 3, constantValue := 0 }, { name := "fresh", type := (.array (.object "com/example/ripplematch/ripplematch/core/Activation")), accessFlags := 2, slot := 4, constantValue := 0 }, { name := "freshSize", type := .int, accessFlags := 2, slot := 5, constantValue := 0 }, { name := "size", type := .int, accessFlags := 2, slot := 6, constantValue := 0 }, { name := "FRESH", type := .int, accessFlags := 26, slot := 1, constantValue := 0 }, { name := "$assertionsDisabled", type := .boolean, accessFlags := 4120, slot := 2, constantValue := 0 }]
  methods := #[k2m0, k2m1, k2m2, k2m3, k2m4, k2m5, k2m6, k2m7, k2m8]
  instanceTypes := #[(.array (.object "com/example/ripplematch/ripplematch/core/Activation")), .int, .int, .boolean, (.array (.object "com/example/ripplematch/ripplematch/core/Activation")), .int, .int]
  staticTypes := #[.int, .int, .boolean]
  resolved := Array.replicate 153 none
  statics := some 0 }

def pool3 : Array CpInfo := pool [(1, .methodref 2 3), (0, .class_ 4), (0, .nameAndType 5 6), (0, u "java/lang/Object"), (0, u "<init>"), (0, u "()V"), (2, .fieldref 10 11), (0, .class_ 12), (0, .nameAndType 13 14), (0, u "com/example/ripplematch/ripplematch/core/Activation"), (0, u "place"), (0, u "I"), (0, .fieldref 10 16), (0, .nameAndType 17 18), (0, u "rule"), (0, u "Lcom/example/ripplematch/ripplematch/core/CompiledRule;"), (0, .fieldref 10 20), (0, .nameAndType 21 22), (0, u "match"), (0, u "Lcom/example/ripplematch/ripplematch/core/PartialMatch;"), (0, .methodref 24 25), (0, .class_ 26), (0, .nameAndType 27 28), (0, u "com/example/ripplematch/ripplematch/core/PartialMatch"), (0, u "tags"), (0, u "()[J"), (0, .methodref 10 30), (0, .nameAndType 31 32), (0, u "newestFirst"), (0, u "([J)[J"), (0, .fieldref 10 34), (0, .nameAndType 35 36), (0, u "recency"), (0, u "[J"), (23, u "fired"), (0, u "Z"), (0, .class_ 63), (0, u "com/example/ripplematch/ripplematch/core/Activation$Key"), (58, u "AGENDA_ORDER"), (0, u "Ljava/util/Comparator;"), (2, u "FEW_TAGS"), (2, u "(Lcom/example/ripplematch/ripplematch/core/CompiledRule;Lcom/example/ripplematch/ripplematch/core/PartialMatch;)V")] 55

def k3c0 : Code := { maxStack := 2, maxLocals := 3, code := prog_11_method_1_code, exceptionTable := #[], attributes := #[] }
def k3m0 : Method := { name := "<init>", desc := "(Lcom/example/ripplematch/ripplematch/core/CompiledRule;Lcom/example/ripplematch/ripplematch/core/PartialMatch;)V", sig := { parameters := [(.object "com/example/ripplematch/ripplematch/core/CompiledRule"), (.object "com/example/ripplematch/ripplematch/core/PartialMatch")], returnType := none }, accessFlags := 0, code := some k3c0 }
def k3c1 : Code := { maxStack := 5, maxLocals := 5, code := prog_11_method_2_code, exceptionTable := #[], attributes := #[] }
def k3m1 : Method := { name := "newestFirst", desc := "([J)[J", sig := { parameters := [(.array .long)], returnType := some (.array .long) }, accessFlags := 10, code := some k3c1 }
/-- com/example/ripplematch/ripplematch/core/Activation -/
def k3 : Class := { plain "com/example/ripplematch/ripplematch/core/Activation" (some 0) with
  accessFlags := 48
  interfaces := #[]
  cf := some (fileOf pool3 10 #[.nestMembers #[62]] #[{ accessFlags := 0, nameIndex := 5, descriptorIndex := 129, attributes := #[] }, { accessFlags := 10, nameIndex := 31, descriptorIndex := 32, attributes := #[] }] 48 2 #[] #[{ accessFlags := 24, nameIndex := 122, descriptorIndex := 123, attributes := #[] }, { accessFlags := 26, nameIndex := 126, descriptorIndex := 14, attributes := #[] }, { accessFlags := 18, nameIndex := 17, descriptorIndex := 18, attributes := #[] }, { accessFlags := 18, nameIndex := 21, descriptorIndex := 22, attributes := #[] }, { accessFlags := 18, nameIndex := 35, descriptorIndex := 36, attributes := #[] }, { accessFlags := 2, nameIndex := 60, descriptorIndex := 61, attributes := #[] }, { accessFlags := 0, nameIndex := 13, descriptorIndex := 14, attributes := #[] }])
  fields := #[{ name := "AGENDA_ORDER", type := (.object "java/util/Comparator"), accessFlags := 24, slot := 0, constantValue := 0 }, { name := "FEW_TAGS", type := .int, accessFlags := 26, slot := 1, constantValue := 0 }, { name := "rule", type := (.object "com/example/ripplematch/ripplematch/core/CompiledRule"), accessFlags := 18, slot := 0, constantValue := 0 }, { name := "match", type := (.object "com/example/ripplematch/ripplematch/core/PartialMatch"), accessFlags := 18, slot := 1, constantValue := 0 }, { name := "recency", type := (.array .long), accessFlags := 18, slot := 2, constantValue := 0 }, { name := "fired", type := .boolean, accessFlags := 2, slot := 3, constantValue := 0 }, { name := "place", type := .int, accessFlags := 0, slot := 4, constantValue := 0 }]
  methods := #[k3m0, k3m1]
  instanceTypes := #[(.object "com/example/ripplematch/ripplematch/core/CompiledRule"), (.object "com/example/ripplematch/ripplematch/core/PartialMatch"), (.array .long), .boolean, .int]
  staticTypes := #[(.object "java/util/Comparator"), .int]
  resolved := Array.replicate 185 none
  statics := none }

def pool4 : Array CpInfo := pool [(1, .methodref 2 3), (0, .class_ 4), (0, .nameAndType 5 6), (0, u "java/lang/Object"), (0, u "<init>"), (0, u "()V"), (0, .fieldref 8 9), (0, .class_ 10), (0, .nameAndType 11 12), (0, u "com/example/ripplematch/ripplematch/core/PartialMatch"), (0, u "linked"), (0, u "Z"), (0, .fieldref 8 14), (0, .nameAndType 15 16), (0, u "parent"), (0, u "Lcom/example/ripplematch/ripplematch/core/PartialMatch;"), (0, .fieldref 8 18), (0, .nameAndType 19 20), (0, u "fact"), (0, u "Lcom/example/ripplematch/ripplematch/core/Fact;"), (0, .fieldref 8 22), (0, .nameAndType 23 24), (0, u "node"), (0, u "Lcom/example/ripplematch/ripplematch/core/BetaNode;"), (0, .fieldref 8 26), (0, .nameAndType 27 28), (0, u "size"), (0, u "I"), (0, .fieldref 8 30), (0, .nameAndType 31 16), (0, u "firstChild"), (0, .fieldref 8 33), (0, .nameAndType 34 16), (0, u "nextSibling"), (0, .fieldref 8 36), (0, .nameAndType 37 16), (0, u "previousSibling"), (5, .fieldref 8 44), (0, .nameAndType 45 16), (0, u "nextOfFact"), (0, .fieldref 8 47), (0, .nameAndType 48 16), (0, u "previousOfFact"), (0, .methodref 8 50), (0, .nameAndType 5 51), (0, u "(Lcom/example/ripplematch/ripplematch/core/PartialMatch;Lcom/example/ripplematch/ripplematch/core/Fact;Lcom/example/ripplematch/ripplematch/core/BetaNode;)V"), (0, .fieldref 8 53), (0, .nameAndType 54 28), (0, u "holders"), (50, u "activation"), (0, u "Lcom/example/ripplematch/ripplematch/core/Activation;"), (34, u "memory"), (0, u "Lcom/example/ripplematch/ripplematch/core/BetaMemory;"), (0, u "previousInMemory"), (0, u "nextInMemory"), (3, u "root"), (0, u "()Lcom/example/ripplematch/ripplematch/core/PartialMatch;"), (8, u "tags"), (0, u "()[J")] 20

def k4c0 : Code := { maxStack := 3, maxLocals := 4, code := prog_51_method_1_code, exceptionTable := #[], attributes := #[] }
def k4m0 : Method := { name := "<init>", desc := "(Lcom/example/ripplematch/ripplematch/core/PartialMatch;Lcom/example/ripplematch/ripplematch/core/Fact;Lcom/example/ripplematch/ripplematch/core/BetaNode;)V", sig := { parameters := [(.object "com/example/ripplematch/ripplematch/core/PartialMatch"), (.object "com/example/ripplematch/ripplematch/core/Fact"), (.object "com/example/ripplematch/ripplematch/core/BetaNode")], returnType := none }, accessFlags := 0, code := some k4c0 }
def k4c1 : Code := { maxStack := 5, maxLocals := 1, code := prog_51_method_2_code, exceptionTable := #[], attributes := #[] }
def k4m1 : Method := { name := "root", desc := "()Lcom/example/ripplematch/ripplematch/core/PartialMatch;", sig := { parameters := [], returnType := some (.object "com/example/ripplematch/ripplematch/core/PartialMatch") }, accessFlags := 8, code := some k4c1 }
def k4c2 : Code := { maxStack := 4, maxLocals := 4, code := prog_51_method_7_code, exceptionTable := #[], attributes := #[] }
def k4m2 : Method := { name := "tags", desc := "()[J", sig := { parameters := [], returnType := some (.array .long) }, accessFlags := 0, code := some k4c2 }
/-- com/example/ripplematch/ripplematch/core/PartialMatch -/
def k4 : Class := { plain "com/example/ripplematch/ripplematch/core/PartialMatch" (some 0) with
  accessFlags := 32
  interfaces := #[]
  cf := some (fileOf pool4 8 #[] #[{ accessFlags := 0, nameIndex := 5, descriptorIndex := 51, attributes := #[] }, { accessFlags := 8, nameIndex := 148, descriptorIndex := 149, attributes := #[] }, { accessFlags := 0, nameIndex := 158, descriptorIndex := 159, attributes := #[] }] 32 2 #[] #[{ accessFlags := 18, nameIndex := 15, descriptorIndex := 16, attributes := #[] }, { accessFlags := 18, nameIndex := 19, descriptorIndex := 20, attributes := #[] }, { accessFlags := 18, nameIndex := 27, descriptorIndex := 28, attributes := #[] }, { accessFlags := 18, nameIndex := 23, descriptorIndex := 24, attributes := #[] }, { accessFlags := 2, nameIndex := 31, descriptorIndex := 16, attributes := #[] }, { accessFlags := 2, nameIndex := 37, descriptorIndex := 16, attributes := #[] }, { accessFlags := 2, nameIndex := 34, descriptorIndex := 16, attributes := #[] }, { accessFlags := 2, nameIndex := 48, descriptorIndex := 16, attributes := #[] }, { accessFlags := 2, nameIndex := 45, descriptorIndex := 16, attributes := #[] }, { accessFlags := 0, nameIndex := 141, descriptorIndex := 142, attributes := #[] }, { accessFlags := 0, nameIndex := 143, descriptorIndex := 16, attributes := #[] }, { accessFlags := 0, nameIndex := 144, descriptorIndex := 16, attributes := #[] }, { accessFlags := 0, nameIndex := 105, descriptorIndex := 106, attributes := #[] }, { accessFlags := 0, nameIndex := 54, descriptorIndex := 28, attributes := #[] }, { accessFlags := 2, nameIndex := 11, descriptorIndex := 12, attributes := #[] }])
  fields := #[{ name := "parent", type := (.object "com/example/ripplematch/ripplematch/core/PartialMatch"), accessFlags := 18, slot := 0, constantValue := 0 }, { name := "fact", type := (.object "com/example/ripplematch/ripplematch/core/Fact"), accessFlags := 18, slot := 1, constantValue := 0 }, { name := "size", type := .int, accessFlags := 18, slot := 2, constantValue := 0 }, { name := "node", type := (.object "com/example/ripplematch/ripplematch/core/BetaNode"), accessFlags := 18, slot := 3, constantValue := 0 }, { name := "firstChild", type := (.object "com/example/ripplematch/ripplematch/core/PartialMatch"), accessFlags := 2, slot := 4, constantValue := 0 }, { name := "previousSibling", type := (.object "com/example/ripplematch/ripplematch/core/PartialMatch"), accessFlags := 2, slot := 5, constantValue := 0 }, { name := "nextSibling", type := (.object "com/example/ripplematch/ripplematch/core/PartialMatch"), accessFlags := 2, slot := 6, constantValue := 0 }, { name := "previousOfFact", type := (.object "com/example/ripplematch/ripplematch/core/PartialMatch"), accessFlags := 2, slot := 7, constantValue := 0 }, { name := "nextOfFact", type := (.object "com/example/ripplematch/ripplematch/core/PartialMatch"), accessFlags := 2, slot := 8, constantValue := 0 }, { name := "memory", type := (.object "com/example/ripplematch/ripplematch/core/BetaMemory"), accessFlags := 0, slot := 9, constantValue := 0 }, { name := "previousInMemory", type := (.object "com/example/ripplematch/ripplematch/core/PartialMatch"), accessFlags := 0, slot := 10, constantValue := 0 }, { name := "nextInMemory", type := (.object "com/example/ripplematch/ripplematch/core/PartialMatch"), accessFlags := 0, slot := 11, constantValue := 0 }, { name := "activation", type := (.object "com/example/ripplematch/ripplematch/core/Activation"), accessFlags := 0, slot := 12, constantValue := 0 }, { name := "holders", type := .int, accessFlags := 0, slot := 13, constantValue := 0 }, { name := "linked", type := .boolean, accessFlags := 2, slot := 14, constantValue := 0 }]
  methods := #[k4m0, k4m1, k4m2]
  instanceTypes := #[(.object "com/example/ripplematch/ripplematch/core/PartialMatch"), (.object "com/example/ripplematch/ripplematch/core/Fact"), .int, (.object "com/example/ripplematch/ripplematch/core/BetaNode"), (.object "com/example/ripplematch/ripplematch/core/PartialMatch"), (.object "com/example/ripplematch/ripplematch/core/PartialMatch"), (.object "com/example/ripplematch/ripplematch/core/PartialMatch"), (.object "com/example/ripplematch/ripplematch/core/PartialMatch"), (.object "com/example/ripplematch/ripplematch/core/PartialMatch"), (.object "com/example/ripplematch/ripplematch/core/BetaMemory"), (.object "com/example/ripplematch/ripplematch/core/PartialMatch"), (.object "com/example/ripplematch/ripplematch/core/PartialMatch"), (.object "com/example/ripplematch/ripplematch/core/Activation"), .int, .boolean]
  staticTypes := #[]
  resolved := Array.replicate 180 none
  statics := none }

def pool5 : Array CpInfo := pool [(1, u "java/lang/Cloneable"), (0, .class_ 1), (0, u "java/lang/Object"), (0, .class_ 3)] 3

/-- java/lang/Cloneable -/
def k5 : Class := { plain "java/lang/Cloneable" (some 0) with
  accessFlags := 1537
  interfaces := #[]
  cf := some (fileOf pool5 2 #[] #[] 1537 4 #[] #[])
  fields := #[]
  methods := #[]
  instanceTypes := #[]
  staticTypes := #[]
  resolved := Array.replicate 8 none
  statics := none }

def pool6 : Array CpInfo := pool [(1, u "java/io/Serializable"), (0, .class_ 1), (0, u "java/lang/Object"), (0, .class_ 3)] 3

/-- java/io/Serializable -/
def k6 : Class := { plain "java/io/Serializable" (some 0) with
  accessFlags := 1537
  interfaces := #[]
  cf := some (fileOf pool6 2 #[] #[] 1537 4 #[] #[])
  fields := #[]
  methods := #[]
  instanceTypes := #[]
  staticTypes := #[]
  resolved := Array.replicate 8 none
  statics := none }

/-- the primitive boolean -/
def k7 : Class := { plain "boolean" none with kind := .primitive 'Z', accessFlags := 0x411 }
/-- [Z -/
def k8 : Class := { plain "[Z" (some 0) with kind := .array 7 .boolean, interfaces := #[5, 6], accessFlags := 1041 }

/-- the primitive byte -/
def k9 : Class := { plain "byte" none with kind := .primitive 'B', accessFlags := 0x411 }
/-- [B -/
def k10 : Class := { plain "[B" (some 0) with kind := .array 9 .byte, interfaces := #[5, 6], accessFlags := 1041 }

/-- the primitive int -/
def k11 : Class := { plain "int" none with kind := .primitive 'I', accessFlags := 0x411 }
/-- [I -/
def k12 : Class := { plain "[I" (some 0) with kind := .array 11 .int, interfaces := #[5, 6], accessFlags := 1041 }

/-- the primitive long -/
def k13 : Class := { plain "long" none with kind := .primitive 'J', accessFlags := 0x411 }
/-- [J -/
def k14 : Class := { plain "[J" (some 0) with kind := .array 13 .long, interfaces := #[5, 6], accessFlags := 1041 }

/-- [Lcom/example/ripplematch/ripplematch/core/Activation; -/
def k15 : Class := { plain "[Lcom/example/ripplematch/ripplematch/core/Activation;" (some 0) with kind := .array 3 (.object "com/example/ripplematch/ripplematch/core/Activation"), interfaces := #[5, 6], accessFlags := 1041 }

def heap : Heap := #[{ cls := 2, slots := #[.int 0, .int 0, .int 1], vm := .statics 2 }]
def classes : Array Class := #[k0, k1, k2, k3, k4, k5, k6, k7, k8, k9, k10, k11, k12, k13, k14, k15]
def interned : List (Array UInt16 × Addr) := []
def slotsUsed : Nat := 3
def theMethod : MethodId := ⟨1, 1⟩
def args0 : Array Value := #[.int 5]
def aboutOver (below : List Frame) : State where
  vm := { classes := classes, interned := interned.toArray }
  heap := heap
  slotsUsed := slotsUsed
  threads := #[{ frames := .invoking theMethod args0 :: below }]
def below0 : List Frame := [.native { method := ⟨0, 0⟩, args := #[] }]
def about1 : State := aboutOver below0
def p0 : Program := .bare "" "" ""
def e0 : Env := launch0.env 0 0 0
theorem w_frames : about1.frames = Frame.invoking theMethod args0 :: below0 := rfl
set_option maxRecDepth 65536 in
theorem w_args : argsFit about1.vm theMethod args0 = true := by decide +kernel
set_option maxRecDepth 65536 in
theorem w_heap : heapFits about1 = true := by decide +kernel
set_option maxRecDepth 65536 in
theorem w_runnable : about1.curStatus? = some .runnable := by decide +kernel
set_option maxRecDepth 65536 in
theorem w_alone : about1.alone = true := by decide +kernel
set_option maxRecDepth 65536 in
theorem w_named : about1.methodNamed? x = some theMethod := by decide +kernel
set_option maxRecDepth 65536 in
theorem w_hears : about1.hears theMethod below0 = true := by decide +kernel
set_option maxRecDepth 65536 in
theorem w_ripe : about1.ripe theMethod args0 below0 = true := by decide +kernel
theorem w_running : about1.status = .running := rfl
set_option maxRecDepth 65536 in
theorem w_room : about1.hasRoom e0.platform room_1 = true :=
  launch0.hasRoom_least _ room_1 (by decide +kernel) (by decide +kernel) (by decide +kernel) (by decide +kernel) (by decide +kernel) (by decide +kernel)
theorem allAtoms_all (ts : List Jvm.Cond) (a : Array Jvm.Value) (st : Jvm.State) : (allAtoms ts).before a st = ts.all (fun c => c.before a st) := by
  induction ts with
  | nil => rfl
  | cons c t ih =>
    show (Jvm.Cond.and c (allAtoms t)).before a st = _
    rw [Jvm.Cond.before_and, ih, List.all_cons]
def words1 : List Jvm.Cond := Jvm.Cond.code x code maxLocals ret :: tables_1
/-- a 'code' word, met by the world's own term for the bytes: nothing is compared byte by byte -/
theorem code_word {y : MethodName} {bytes : ByteArray} {mx : Nat} {rt : Option FieldType} {a : Array Value} {s : State} {m : MethodId} {meth : Method} {c : Code} (h1 : s.methodNamed? y = some m) (h2 : s.vm.method? m = some meth) (h3 : meth.code = some c) (h4 : c.code = bytes)
    (h5 : (c.maxLocals == mx && c.exceptionTable.isEmpty && decide (c.maxStack ≤ mostOperands) && decide (meth.sig.returnType = rt) && !meth.locks && decide (parseMethodDescriptor y.desc = some meth.sig)) = true) : (Jvm.Cond.code y bytes mx rt).before a s = true := by
  simp only [Bool.and_eq_true, beq_iff_eq, Bool.not_eq_true', decide_eq_true_eq] at h5
  obtain ⟨⟨⟨⟨⟨g1, g2⟩, g3⟩, g4⟩, g5⟩, g6⟩ := h5
  simp [Cond.before, Cond.holds, Cond.value, h1, h2, h3, h4, g1, g2, g3, g4, g5, g6]
def isCode : Jvm.Cond → Bool
  | .code _ _ _ _ => true
  | _ => false
theorem all_split {L : List Jvm.Cond} {P : Jvm.Cond → Bool} (h1 : L.all (fun c => isCode c || P c) = true) (h2 : ∀ c ∈ L.filter isCode, P c = true) : L.all P = true := by
  refine List.all_eq_true.mpr fun c hc => ?_
  have h := List.all_eq_true.mp h1 c hc
  rcases Bool.eq_false_or_eq_true (isCode c) with hi | hi
  · exact h2 c (List.mem_filter.mpr ⟨hc, hi⟩)
  · simpa [hi] using h
set_option maxRecDepth 65536 in
theorem w_c0 : (Jvm.Cond.code x code maxLocals ret).before args0 about1 = true := code_word (m := ⟨1, 1⟩) (meth := k1m1) (c := k1c1) (by decide +kernel) rfl rfl rfl (by decide +kernel)
set_option maxRecDepth 65536 in
theorem w_c1 : (Jvm.Cond.code ({ cls := "com/example/ripplematch/ripplematch/core/Agenda", name := "<init>", desc := "()V" } : Jvm.MethodName) prog_13_method_1_code (1 : Nat) (Option.none : Option Jvm.ClassFile.FieldType)).before args0 about1 = true := code_word (m := ⟨2, 0⟩) (meth := k2m0) (c := k2c0) (by decide +kernel) rfl rfl rfl (by decide +kernel)
set_option maxRecDepth 65536 in
theorem w_c2 : (Jvm.Cond.code ({ cls := "java/lang/Object", name := "<init>", desc := "()V" } : Jvm.MethodName) object_method_1_code (1 : Nat) (Option.none : Option Jvm.ClassFile.FieldType)).before args0 about1 = true := code_word (m := ⟨0, 0⟩) (meth := k0m0) (c := k0c0) (by decide +kernel) rfl rfl rfl (by decide +kernel)
set_option maxRecDepth 65536 in
theorem w_c3 : (Jvm.Cond.code ({ cls := "com/example/ripplematch/ripplematch/core/PartialMatch", name := "root", desc := "()Lcom/example/ripplematch/ripplematch/core/PartialMatch;" } : Jvm.MethodName) prog_51_method_2_code (1 : Nat) (Option.some (Jvm.ClassFile.FieldType.object "com/example/ripplematch/ripplematch/core/PartialMatch"))).before args0 about1 = true := code_word (m := ⟨4, 1⟩) (meth := k4m1) (c := k4c1) (by decide +kernel) rfl rfl rfl (by decide +kernel)
set_option maxRecDepth 65536 in
theorem w_c4 : (Jvm.Cond.code ({ cls := "com/example/ripplematch/ripplematch/core/PartialMatch", name := "<init>", desc := "(Lcom/example/ripplematch/ripplematch/core/PartialMatch;Lcom/example/ripplematch/ripplematch/core/Fact;Lcom/example/ripplematch/ripplematch/core/BetaNode;)V" } : Jvm.MethodName) prog_51_method_1_code (4 : Nat) (Option.none : Option Jvm.ClassFile.FieldType)).before args0 about1 = true := code_word (m := ⟨4, 0⟩) (meth := k4m0) (c := k4c0) (by decide +kernel) rfl rfl rfl (by decide +kernel)
set_option maxRecDepth 65536 in
theorem w_c5 : (Jvm.Cond.code ({ cls := "com/example/ripplematch/ripplematch/core/Activation", name := "<init>", desc := "(Lcom/example/ripplematch/ripplematch/core/CompiledRule;Lcom/example/ripplematch/ripplematch/core/PartialMatch;)V" } : Jvm.MethodName) prog_11_method_1_code (3 : Nat) (Option.none : Option Jvm.ClassFile.FieldType)).before args0 about1 = true := code_word (m := ⟨3, 0⟩) (meth := k3m0) (c := k3c0) (by decide +kernel) rfl rfl rfl (by decide +kernel)
set_option maxRecDepth 65536 in
theorem w_c6 : (Jvm.Cond.code ({ cls := "com/example/ripplematch/ripplematch/core/PartialMatch", name := "tags", desc := "()[J" } : Jvm.MethodName) prog_51_method_7_code (4 : Nat) (Option.some (Jvm.ClassFile.FieldType.array Jvm.ClassFile.FieldType.long))).before args0 about1 = true := code_word (m := ⟨4, 2⟩) (meth := k4m2) (c := k4c2) (by decide +kernel) rfl rfl rfl (by decide +kernel)
set_option maxRecDepth 65536 in
theorem w_c7 : (Jvm.Cond.code ({ cls := "com/example/ripplematch/ripplematch/core/Activation", name := "newestFirst", desc := "([J)[J" } : Jvm.MethodName) prog_11_method_2_code (5 : Nat) (Option.some (Jvm.ClassFile.FieldType.array Jvm.ClassFile.FieldType.long))).before args0 about1 = true := code_word (m := ⟨3, 1⟩) (meth := k3m1) (c := k3c1) (by decide +kernel) rfl rfl rfl (by decide +kernel)
set_option maxRecDepth 65536 in
theorem w_c8 : (Jvm.Cond.code ({ cls := "com/example/ripplematch/ripplematch/core/Agenda", name := "isEmpty", desc := "()Z" } : Jvm.MethodName) prog_13_method_3_code (1 : Nat) (Option.some Jvm.ClassFile.FieldType.boolean)).before args0 about1 = true := code_word (m := ⟨2, 1⟩) (meth := k2m1) (c := k2c1) (by decide +kernel) rfl rfl rfl (by decide +kernel)
set_option maxRecDepth 65536 in
theorem w_c9 : (Jvm.Cond.code ({ cls := "com/example/ripplematch/ripplematch/core/AgendaIsEmptyPinLaw", name := "step", desc := "(Lcom/example/ripplematch/ripplematch/core/Agenda;[Lcom/example/ripplematch/ripplematch/core/Activation;[Z[II)Z" } : Jvm.MethodName) method_3_code (9 : Nat) (Option.some Jvm.ClassFile.FieldType.boolean)).before args0 about1 = true := code_word (m := ⟨1, 2⟩) (meth := k1m2) (c := k1c2) (by decide +kernel) rfl rfl rfl (by decide +kernel)
set_option maxRecDepth 65536 in
theorem w_c10 : (Jvm.Cond.code ({ cls := "com/example/ripplematch/ripplematch/core/Agenda", name := "add", desc := "(Lcom/example/ripplematch/ripplematch/core/Activation;)V" } : Jvm.MethodName) prog_13_method_4_code (2 : Nat) (Option.none : Option Jvm.ClassFile.FieldType)).before args0 about1 = true := code_word (m := ⟨2, 2⟩) (meth := k2m2) (c := k2c2) (by decide +kernel) rfl rfl rfl (by decide +kernel)
set_option maxRecDepth 65536 in
theorem w_c11 : (Jvm.Cond.code ({ cls := "com/example/ripplematch/ripplematch/core/Agenda", name := "remove", desc := "(Lcom/example/ripplematch/ripplematch/core/Activation;)V" } : Jvm.MethodName) prog_13_method_5_code (5 : Nat) (Option.none : Option Jvm.ClassFile.FieldType)).before args0 about1 = true := code_word (m := ⟨2, 3⟩) (meth := k2m3) (c := k2c3) (by decide +kernel) rfl rfl rfl (by decide +kernel)
set_option maxRecDepth 65536 in
theorem w_c12 : (Jvm.Cond.code ({ cls := "com/example/ripplematch/ripplematch/core/Agenda", name := "pollFirst", desc := "()Lcom/example/ripplematch/ripplematch/core/Activation;" } : Jvm.MethodName) prog_13_method_7_code (3 : Nat) (Option.some (Jvm.ClassFile.FieldType.object "com/example/ripplematch/ripplematch/core/Activation"))).before args0 about1 = true := code_word (m := ⟨2, 4⟩) (meth := k2m4) (c := k2c4) (by decide +kernel) rfl rfl rfl (by decide +kernel)
set_option maxRecDepth 65536 in
theorem w_c13 : (Jvm.Cond.code ({ cls := "com/example/ripplematch/ripplematch/core/Agenda", name := "order", desc := "()V" } : Jvm.MethodName) prog_13_method_8_code (2 : Nat) (Option.none : Option Jvm.ClassFile.FieldType)).before args0 about1 = true := code_word (m := ⟨2, 5⟩) (meth := k2m5) (c := k2c5) (by decide +kernel) rfl rfl rfl (by decide +kernel)
set_option maxRecDepth 65536 in
theorem w_c14 : (Jvm.Cond.code ({ cls := "com/example/ripplematch/ripplematch/core/Agenda", name := "rebuild", desc := "()V" } : Jvm.MethodName) prog_13_method_9_code (3 : Nat) (Option.none : Option Jvm.ClassFile.FieldType)).before args0 about1 = true := code_word (m := ⟨2, 6⟩) (meth := k2m6) (c := k2c6) (by decide +kernel) rfl rfl rfl (by decide +kernel)
set_option maxRecDepth 65536 in
theorem w_c15 : (Jvm.Cond.code ({ cls := "com/example/ripplematch/ripplematch/core/Agenda", name := "grow", desc := "(I)V" } : Jvm.MethodName) prog_13_method_10_code (2 : Nat) (Option.none : Option Jvm.ClassFile.FieldType)).before args0 about1 = true := code_word (m := ⟨2, 7⟩) (meth := k2m7) (c := k2c7) (by decide +kernel) rfl rfl rfl (by decide +kernel)
set_option maxRecDepth 65536 in
theorem w_c16 : (Jvm.Cond.code ({ cls := "com/example/ripplematch/ripplematch/core/Agenda", name := "set", desc := "(ILcom/example/ripplematch/ripplematch/core/Activation;)V" } : Jvm.MethodName) prog_13_method_14_code (3 : Nat) (Option.none : Option Jvm.ClassFile.FieldType)).before args0 about1 = true := code_word (m := ⟨2, 8⟩) (meth := k2m8) (c := k2c8) (by decide +kernel) rfl rfl rfl (by decide +kernel)
def codes1 : List Jvm.Cond := [Jvm.Cond.code x code maxLocals ret, Jvm.Cond.code ({ cls := "com/example/ripplematch/ripplematch/core/Agenda", name := "<init>", desc := "()V" } : Jvm.MethodName) prog_13_method_1_code (1 : Nat) (Option.none : Option Jvm.ClassFile.FieldType), Jvm.Cond.code ({ cls := "java/lang/Object", name := "<init>", desc := "()V" } : Jvm.MethodName) object_method_1_code (1 : Nat) (Option.none : Option Jvm.ClassFile.FieldType), Jvm.Cond.code ({ cls := "com/example/ripplematch/ripplematch/core/PartialMatch", name := "root", desc := "()Lcom/example/ripplematch/ripplematch/core/PartialMatch;" } : Jvm.MethodName) prog_51_method_2_code (1 : Nat) (Option.some (Jvm.ClassFile.FieldType.object "com/example/ripplematch/ripplematch/core/PartialMatch")), Jvm.Cond.code ({ cls := "com/example/ripplematch/ripplematch/core/PartialMatch", name := "<init>", desc := "(Lcom/example/ripplematch/ripplematch/core/PartialMatch;Lcom/example/ripplematch/ripplematch/core/Fact;Lcom/example/ripplematch/ripplematch/core/BetaNode;)V" } : Jvm.MethodName) prog_51_method_1_code (4 : Nat) (Option.none : Option Jvm.ClassFile.FieldType), Jvm.Cond.code ({ cls := "com/example/ripplematch/ripplematch/core/Activation", name := "<init>", desc := "(Lcom/example/ripplematch/ripplematch/core/CompiledRule;Lcom/example/ripplematch/ripplematch/core/PartialMatch;)V" } : Jvm.MethodName) prog_11_method_1_code (3 : Nat) (Option.none : Option Jvm.ClassFile.FieldType), Jvm.Cond.code ({ cls := "com/example/ripplematch/ripplematch/core/PartialMatch", name := "tags", desc := "()[J" } : Jvm.MethodName) prog_51_method_7_code (4 : Nat) (Option.some (Jvm.ClassFile.FieldType.array Jvm.ClassFile.FieldType.long)), Jvm.Cond.code ({ cls := "com/example/ripplematch/ripplematch/core/Activation", name := "newestFirst", desc := "([J)[J" } : Jvm.MethodName) prog_11_method_2_code (5 : Nat) (Option.some (Jvm.ClassFile.FieldType.array Jvm.ClassFile.FieldType.long)), Jvm.Cond.code ({ cls := "com/example/ripplematch/ripplematch/core/Agenda", name := "isEmpty", desc := "()Z" } : Jvm.MethodName) prog_13_method_3_code (1 : Nat) (Option.some Jvm.ClassFile.FieldType.boolean), Jvm.Cond.code ({ cls := "com/example/ripplematch/ripplematch/core/AgendaIsEmptyPinLaw", name := "step", desc := "(Lcom/example/ripplematch/ripplematch/core/Agenda;[Lcom/example/ripplematch/ripplematch/core/Activation;[Z[II)Z" } : Jvm.MethodName) method_3_code (9 : Nat) (Option.some Jvm.ClassFile.FieldType.boolean), Jvm.Cond.code ({ cls := "com/example/ripplematch/ripplematch/core/Agenda", name := "add", desc := "(Lcom/example/ripplematch/ripplematch/core/Activation;)V" } : Jvm.MethodName) prog_13_method_4_code (2 : Nat) (Option.none : Option Jvm.ClassFile.FieldType), Jvm.Cond.code ({ cls := "com/example/ripplematch/ripplematch/core/Agenda", name := "remove", desc := "(Lcom/example/ripplematch/ripplematch/core/Activation;)V" } : Jvm.MethodName) prog_13_method_5_code (5 : Nat) (Option.none : Option Jvm.ClassFile.FieldType), Jvm.Cond.code ({ cls := "com/example/ripplematch/ripplematch/core/Agenda", name := "pollFirst", desc := "()Lcom/example/ripplematch/ripplematch/core/Activation;" } : Jvm.MethodName) prog_13_method_7_code (3 : Nat) (Option.some (Jvm.ClassFile.FieldType.object "com/example/ripplematch/ripplematch/core/Activation")), Jvm.Cond.code ({ cls := "com/example/ripplematch/ripplematch/core/Agenda", name := "order", desc := "()V" } : Jvm.MethodName) prog_13_method_8_code (2 : Nat) (Option.none : Option Jvm.ClassFile.FieldType), Jvm.Cond.code ({ cls := "com/example/ripplematch/ripplematch/core/Agenda", name := "rebuild", desc := "()V" } : Jvm.MethodName) prog_13_method_9_code (3 : Nat) (Option.none : Option Jvm.ClassFile.FieldType), Jvm.Cond.code ({ cls := "com/example/ripplematch/ripplematch/core/Agenda", name := "grow", desc := "(I)V" } : Jvm.MethodName) prog_13_method_10_code (2 : Nat) (Option.none : Option Jvm.ClassFile.FieldType), Jvm.Cond.code ({ cls := "com/example/ripplematch/ripplematch/core/Agenda", name := "set", desc := "(ILcom/example/ripplematch/ripplematch/core/Activation;)V" } : Jvm.MethodName) prog_13_method_14_code (3 : Nat) (Option.none : Option Jvm.ClassFile.FieldType)]
set_option maxRecDepth 65536 in
theorem codes_eq : words1.filter isCode = codes1 := rfl
theorem w_codes : ∀ c ∈ words1.filter isCode, c.before args0 about1 = true := by
  rw [codes_eq]
  intro c hc
  simp only [codes1, List.mem_cons, List.not_mem_nil, or_false] at hc
  rcases hc with rfl | rfl | rfl | rfl | rfl | rfl | rfl | rfl | rfl | rfl | rfl | rfl | rfl | rfl | rfl | rfl | rfl
  · exact w_c0
  · exact w_c1
  · exact w_c2
  · exact w_c3
  · exact w_c4
  · exact w_c5
  · exact w_c6
  · exact w_c7
  · exact w_c8
  · exact w_c9
  · exact w_c10
  · exact w_c11
  · exact w_c12
  · exact w_c13
  · exact w_c14
  · exact w_c15
  · exact w_c16
set_option maxRecDepth 65536 in
theorem w_t1 : (words1.take 24).all (fun c => isCode c || c.before args0 about1) = true := by decide +kernel
set_option maxRecDepth 65536 in
theorem w_t2 : ((words1.drop 24).take 24).all (fun c => isCode c || c.before args0 about1) = true := by decide +kernel
set_option maxRecDepth 65536 in
theorem w_t3 : (((words1.drop 24).drop 24).take 24).all (fun c => isCode c || c.before args0 about1) = true := by decide +kernel
set_option maxRecDepth 65536 in
theorem w_t4 : ((((words1.drop 24).drop 24).drop 24).take 24).all (fun c => isCode c || c.before args0 about1) = true := by decide +kernel
set_option maxRecDepth 65536 in
theorem w_t5 : (((((words1.drop 24).drop 24).drop 24).drop 24).take 24).all (fun c => isCode c || c.before args0 about1) = true := by decide +kernel
set_option maxRecDepth 65536 in
theorem w_t6 : (((((words1.drop 24).drop 24).drop 24).drop 24).drop 24).all (fun c => isCode c || c.before args0 about1) = true := by decide +kernel
theorem w_tables : (allAtoms (Jvm.Cond.code x code maxLocals ret :: tables_1)).before args0 about1 = true := by
  rw [allAtoms_all]
  show words1.all (fun c => c.before args0 about1) = true
  refine all_split ?_ w_codes
  rw [← List.take_append_drop 24 words1, List.all_append, w_t1, ← List.take_append_drop 24 (words1.drop 24), List.all_append, w_t2, ← List.take_append_drop 24 ((words1.drop 24).drop 24), List.all_append, w_t3, ← List.take_append_drop 24 (((words1.drop 24).drop 24).drop 24), List.all_append, w_t4, ← List.take_append_drop 24 ((((words1.drop 24).drop 24).drop 24).drop 24), List.all_append, w_t5, w_t6]
  rfl
set_option maxRecDepth 65536 in
theorem w_case : (Jvm.Cond.and given_1 narrow_1).before args0 about1 = true := by decide +kernel
theorem w_applies : (headSpec (Jvm.Cond.code x code maxLocals ret :: tables_1) room_1).applies x e0.platform about1 = true :=
  (Spec.applies_iff w_frames).mpr ⟨w_running, w_runnable, w_alone, w_named, w_hears, w_ripe, w_room, w_tables⟩
theorem atStart : AtStart classFile x code maxLocals ret World_1 tables_1 room_1 Calls_1 rest_1 Pre_1 launch0 p0 e0 about1 theMethod args0 below0 :=
  ⟨lists_1, trivial, launch0.admits_env _ _ _, launch0.least_env, fairChoices_fair.cas, fairChoices_fair.clock, w_frames, w_args, w_heap, w_applies, trivial, trivial, w_case⟩
end start1
theorem witness_1 : WitnessClaimed_1 := ⟨start1.p0, start1.e0, start1.about1, start1.theMethod, start1.args0, start1.below0, start1.atStart⟩
end Jvm.Pilot.@@N@@
