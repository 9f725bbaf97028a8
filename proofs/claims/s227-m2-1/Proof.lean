import JvmDerived
import JvmDerived.Pilot.@@N@@Statement
import JvmDerived.Pilot.@@N@@Code
set_option linter.unusedVariables false
set_option linter.unusedSimpArgs false
@@BLOCK:NumsL.lean.txt@@
namespace Jvm.OwnN
theorem own_rem32 (x y : Int32) : (x - x / y * y).toInt = x.toInt.tmod y.toInt := by
  have a := (x % y).toInt_lt; have b := (x % y).le_toInt
  rw [Int32.toInt_mod] at a b
  rw [Int32.toInt_sub, Int32.toInt_mul, Int32.toInt_div, Int.bmod_mul_bmod, Int.sub_bmod_bmod, Int.mul_comm, ← Int.tmod_def]
  exact Jvm.Kit.bmod32 b a
theorem own_rem32n {x y : Int32} (hx : 0 ≤ x.toInt) : (x - x / y * y).toInt = x.toInt % y.toInt := by rw [own_rem32, Int.tmod_eq_emod_of_nonneg hx]
end Jvm.OwnN
namespace Jvm.RoadKit
open Sem ClassFile Op Lib Jvm.Stand Jvm.Free Jvm.LawKit
section New
variable {p : Program} {l : Launch} {e : Env} {R : Room} {s : State} {m : MethodId} {args : Array Value} {below : List Frame} {meth : Method} {c : Code} {T : State} {locs : List Loc} {cells slots : Nat}
theorem retI (X : Stand p l e R s m args below meth c T locs cells slots) (hx : p.tables.exec = Jvm.exec) {pc : Nat} {Ls : Array Slot} {z : Int32} {rest : List Value} (hret : meth.sig.returnType = some .int) (hd : decode c.code pc = .ok (.ireturn, 1)) {fs : List Frame}
    (hl : ∀ (f : JFrame) (acts : List Action), f.method = m → f.locked = none → f.entered = [] → (doReturn e (T.setTop f) acts (some (.int z))).1 = T.setFrames fs) : Steps p.tables e below (T.setTop (mkF m pc Ls (.int z :: rest))) (T.setFrames fs) := by
  have hm' : T.vm.method? m = some meth := X.method'
  have hn : narrow .int (.int z) = .int z := rfl
  show Steps p.tables e below (T.setTop { method := m, pc := pc, locals := Ls, stack := _ :: rest, locked := none }) _
  jvm_step X.here [X.here.top, hx, hd, hm', hret, hn]
  first | (intro acts; rw [hl _ acts rfl rfl rfl]) | rw [hl _ _ rfl rfl rfl]
  exact Steps.refl _
/-- the run goes on from S to an end of which P holds -/
def Goes (p : Program) (e : Env) (below : List Frame) (S : State) (P : Outcome → State → Prop) : Prop := ∃ s₂ o, Steps p.tables e below S s₂ ∧ s₂.status = .running ∧ Ended s₂ below o ∧ P o s₂
/-- what every contract here says of the end -/
def Fin (s : State) (Q : Option Value → Heap → List Loc → Prop) (C N : Nat) (o : Outcome) (U : State) : Prop := ∃ v L, o = .returned v ∧ Q v U.heap L ∧ FrameEnd s o U L C N
theorem Goes.of {S S' : State} {P : Outcome → State → Prop} (h : ∀ t, Steps p.tables e below S' t → Steps p.tables e below S t) (g : Goes p e below S' P) : Goes p e below S P := by
  obtain ⟨s₂, o, h1, h2⟩ := g
  exact ⟨s₂, o, h _ h1, h2⟩
theorem Goes.out (X : Stand p l e R s m args below meth c T locs cells slots) {v : Option Value} (hv : meth.sig.returnType = none → v = none) (hlocks : meth.locks = false) {g : JFrame} {Q : Option Value → Heap → List Loc → Prop} {C N : Nat}
    (hst : ∀ fs, (∀ (f : JFrame) (acts : List Action), f.method = m → f.locked = none → f.entered = [] → (doReturn e (T.setTop f) acts v).1 = T.setFrames fs) → Steps p.tables e below (T.setTop g) (T.setFrames fs))
    (hq : Q v T.heap locs) (h1 : cells ≤ C) (h2 : slots ≤ N) : Goes p e below (T.setTop g) (Fin s Q C N) := by
  obtain ⟨fs, hr, hrun, hended, hW, hsame⟩ := X.leave (v := v) hv hlocks
  exact ⟨_, _, hst fs hr, hrun, hended, v, locs, rfl, hq, ⟨_, rfl⟩, hW, hsame.mono h1 h2⟩
theorem Goes.retI (X : Stand p l e R s m args below meth c T locs cells slots) (hx : p.tables.exec = Jvm.exec) (hret : meth.sig.returnType = some .int) (hlocks : meth.locks = false) {pc : Nat} {Ls : Array Slot} {z : Int32} {rest : List Value} (hd : decode c.code pc = .ok (.ireturn, 1)) {Q : Option Value → Heap → List Loc → Prop} {C N : Nat}
    (hq : Q (some (.int z)) T.heap locs) (h1 : cells ≤ C) (h2 : slots ≤ N) : Goes p e below (T.setTop (mkF m pc Ls (.int z :: rest))) (Fin s Q C N) :=
  Goes.out X (v := some (.int z)) (fun h => by rw [hret] at h; cases h) hlocks (fun fs hr => Jvm.RoadKit.retI X hx hret hd hr) hq h1 h2
theorem Goes.retN (X : Stand p l e R s m args below meth c T locs cells slots) (hx : p.tables.exec = Jvm.exec) {t : FieldType} (hret : meth.sig.returnType = some t) (ht : t = .boolean ∨ t = .byte ∨ t = .char ∨ t = .short) (hlocks : meth.locks = false) {pc : Nat} {Ls : Array Slot} {z : Int32} {rest : List Value} (hd : decode c.code pc = .ok (.ireturn, 1)) {Q : Option Value → Heap → List Loc → Prop} {C N : Nat}
    (hq : Q (some (.int (nar t z))) T.heap locs) (h1 : cells ≤ C) (h2 : slots ≤ N) : Goes p e below (T.setTop (mkF m pc Ls (.int z :: rest))) (Fin s Q C N) :=
  Goes.out X (v := some (.int (nar t z))) (fun h => by rw [hret] at h; cases h) hlocks (fun fs hr => Jvm.RoadKit.retN X hx (t := t) hret ht hd hr) hq h1 h2
theorem Goes.retJ (X : Stand p l e R s m args below meth c T locs cells slots) (hx : p.tables.exec = Jvm.exec) (hret : meth.sig.returnType = some .long) (hlocks : meth.locks = false) {pc : Nat} {Ls : Array Slot} {z : Int64} (hd : decode c.code pc = .ok (.lreturn, 1)) {Q : Option Value → Heap → List Loc → Prop} {C N : Nat}
    (hq : Q (some (.long z)) T.heap locs) (h1 : cells ≤ C) (h2 : slots ≤ N) : Goes p e below (T.setTop (mkF m pc Ls [.long z])) (Fin s Q C N) :=
  Goes.out X (v := some (.long z)) (fun h => by rw [hret] at h; cases h) hlocks (fun fs hr => X.lreturnOut hx hret hd hr) hq h1 h2
theorem Goes.retD (X : Stand p l e R s m args below meth c T locs cells slots) (hx : p.tables.exec = Jvm.exec) (hret : meth.sig.returnType = some .double) (hlocks : meth.locks = false) {pc : Nat} {Ls : Array Slot} {z : UInt64} (hd : decode c.code pc = .ok (.dreturn, 1)) {Q : Option Value → Heap → List Loc → Prop} {C N : Nat}
    (hq : Q (some (.double z)) T.heap locs) (h1 : cells ≤ C) (h2 : slots ≤ N) : Goes p e below (T.setTop (mkF m pc Ls [.double z])) (Fin s Q C N) :=
  Goes.out X (v := some (.double z)) (fun h => by rw [hret] at h; cases h) hlocks (fun fs hr => by
    have hm' : T.vm.method? m = some meth := X.method'
    jvm_step X.here [X.here.top, hx, hd, hm', hret, narrow]
    first | (intro acts; rw [hr _ acts rfl rfl rfl]) | rw [hr _ _ rfl rfl rfl]
    exact Steps.refl _) hq h1 h2
theorem Goes.retA (X : Stand p l e R s m args below meth c T locs cells slots) (hx : p.tables.exec = Jvm.exec) {w : Value} {t : FieldType} (hw : w.isRef = true) (hret : meth.sig.returnType = some t) (ht : t.isReference = true) (hlocks : meth.locks = false) {pc : Nat} {Ls : Array Slot} (hd : decode c.code pc = .ok (.areturn, 1)) {Q : Option Value → Heap → List Loc → Prop} {C N : Nat}
    (hq : Q (some w) T.heap locs) (h1 : cells ≤ C) (h2 : slots ≤ N) : Goes p e below (T.setTop (mkF m pc Ls [w])) (Fin s Q C N) :=
  Goes.out X (v := some w) (fun h => by rw [hret] at h; cases h) hlocks (fun fs hr => X.areturnOut hx hw hret ht hd hr) hq h1 h2
theorem Goes.retV (X : Stand p l e R s m args below meth c T locs cells slots) (hx : p.tables.exec = Jvm.exec) (hret : meth.sig.returnType = none) (hlocks : meth.locks = false) {pc : Nat} {Ls : Array Slot} (hd : decode c.code pc = .ok (.return_, 1)) {Q : Option Value → Heap → List Loc → Prop} {C N : Nat}
    (hq : Q none T.heap locs) (h1 : cells ≤ C) (h2 : slots ≤ N) : Goes p e below (T.setTop (mkF m pc Ls [])) (Fin s Q C N) :=
  Goes.out X (v := none) (fun _ => rfl) hlocks (fun fs hr => X.returnOut hx hret hd hr) hq h1 h2
/-- the same of a walk that may have interned -/
def FinW (s : State) (Q : Option Value → Heap → List Loc → Prop) (C N : Nat) (o : Outcome) (U : State) : Prop := ∃ v L, o = .returned v ∧ Q v U.heap L ∧ ReturnedEndW s o U L C N
theorem Goes.outW {vm0 : Vm} (X : Stand p l e R (s.setVm vm0) m args below meth c T locs cells slots) {k0 : Nat} (hS : s.Since vm0 k0) (hk : k0 ≤ T.heap.size) {v : Option Value} (hv : meth.sig.returnType = none → v = none) (hlocks : meth.locks = false) {g : JFrame} {Q : Option Value → Heap → List Loc → Prop} {C N : Nat}
    (hst : ∀ fs, (∀ (f : JFrame) (acts : List Action), f.method = m → f.locked = none → f.entered = [] → (doReturn e (T.setTop f) acts v).1 = T.setFrames fs) → Steps p.tables e below (T.setTop g) (T.setFrames fs))
    (hq : Q v T.heap locs) (h1 : cells ≤ C) (h2 : slots ≤ N) : Goes p e below (T.setTop g) (FinW s Q C N) := by
  obtain ⟨fs, hr, hrun, hended, ha, hb, hc, hsame⟩ := X.leaveW hS hk (v := v) hv hlocks
  exact ⟨_, _, hst fs hr, hrun, hended, v, locs, rfl, hq, ha, hb, hc, hsame.mono h1 h2⟩
theorem Goes.retIW {vm0 : Vm} (X : Stand p l e R (s.setVm vm0) m args below meth c T locs cells slots) {k0 : Nat} (hS : s.Since vm0 k0) (hk : k0 ≤ T.heap.size) (hx : p.tables.exec = Jvm.exec) (hret : meth.sig.returnType = some .int) (hlocks : meth.locks = false) {pc : Nat} {Ls : Array Slot} {z : Int32} {rest : List Value} (hd : decode c.code pc = .ok (.ireturn, 1)) {Q : Option Value → Heap → List Loc → Prop} {C N : Nat}
    (hq : Q (some (.int z)) T.heap locs) (h1 : cells ≤ C) (h2 : slots ≤ N) : Goes p e below (T.setTop (mkF m pc Ls (.int z :: rest))) (FinW s Q C N) :=
  Goes.outW X hS hk (v := some (.int z)) (fun h => by rw [hret] at h; cases h) hlocks (fun fs hr => Jvm.RoadKit.retI X hx hret hd hr) hq h1 h2
theorem Goes.retNW {vm0 : Vm} (X : Stand p l e R (s.setVm vm0) m args below meth c T locs cells slots) {k0 : Nat} (hS : s.Since vm0 k0) (hk : k0 ≤ T.heap.size) (hx : p.tables.exec = Jvm.exec) {t : FieldType} (hret : meth.sig.returnType = some t) (ht : t = .boolean ∨ t = .byte ∨ t = .char ∨ t = .short) (hlocks : meth.locks = false) {pc : Nat} {Ls : Array Slot} {z : Int32} {rest : List Value} (hd : decode c.code pc = .ok (.ireturn, 1)) {Q : Option Value → Heap → List Loc → Prop} {C N : Nat}
    (hq : Q (some (.int (nar t z))) T.heap locs) (h1 : cells ≤ C) (h2 : slots ≤ N) : Goes p e below (T.setTop (mkF m pc Ls (.int z :: rest))) (FinW s Q C N) :=
  Goes.outW X hS hk (v := some (.int (nar t z))) (fun h => by rw [hret] at h; cases h) hlocks (fun fs hr => Jvm.RoadKit.retN X hx (t := t) hret ht hd hr) hq h1 h2
theorem Goes.retJW {vm0 : Vm} (X : Stand p l e R (s.setVm vm0) m args below meth c T locs cells slots) {k0 : Nat} (hS : s.Since vm0 k0) (hk : k0 ≤ T.heap.size) (hx : p.tables.exec = Jvm.exec) (hret : meth.sig.returnType = some .long) (hlocks : meth.locks = false) {pc : Nat} {Ls : Array Slot} {z : Int64} (hd : decode c.code pc = .ok (.lreturn, 1)) {Q : Option Value → Heap → List Loc → Prop} {C N : Nat}
    (hq : Q (some (.long z)) T.heap locs) (h1 : cells ≤ C) (h2 : slots ≤ N) : Goes p e below (T.setTop (mkF m pc Ls [.long z])) (FinW s Q C N) :=
  Goes.outW X hS hk (v := some (.long z)) (fun h => by rw [hret] at h; cases h) hlocks (fun fs hr => X.lreturnOut hx hret hd hr) hq h1 h2
theorem Goes.retDW {vm0 : Vm} (X : Stand p l e R (s.setVm vm0) m args below meth c T locs cells slots) {k0 : Nat} (hS : s.Since vm0 k0) (hk : k0 ≤ T.heap.size) (hx : p.tables.exec = Jvm.exec) (hret : meth.sig.returnType = some .double) (hlocks : meth.locks = false) {pc : Nat} {Ls : Array Slot} {z : UInt64} (hd : decode c.code pc = .ok (.dreturn, 1)) {Q : Option Value → Heap → List Loc → Prop} {C N : Nat}
    (hq : Q (some (.double z)) T.heap locs) (h1 : cells ≤ C) (h2 : slots ≤ N) : Goes p e below (T.setTop (mkF m pc Ls [.double z])) (FinW s Q C N) :=
  Goes.outW X hS hk (v := some (.double z)) (fun h => by rw [hret] at h; cases h) hlocks (fun fs hr => by
    have hm' : T.vm.method? m = some meth := X.method'
    jvm_step X.here [X.here.top, hx, hd, hm', hret, narrow]
    first | (intro acts; rw [hr _ acts rfl rfl rfl]) | rw [hr _ _ rfl rfl rfl]
    exact Steps.refl _) hq h1 h2
theorem Goes.retAW {vm0 : Vm} (X : Stand p l e R (s.setVm vm0) m args below meth c T locs cells slots) {k0 : Nat} (hS : s.Since vm0 k0) (hk : k0 ≤ T.heap.size) (hx : p.tables.exec = Jvm.exec) {w : Value} {t : FieldType} (hw : w.isRef = true) (hret : meth.sig.returnType = some t) (ht : t.isReference = true) (hlocks : meth.locks = false) {pc : Nat} {Ls : Array Slot} (hd : decode c.code pc = .ok (.areturn, 1)) {Q : Option Value → Heap → List Loc → Prop} {C N : Nat}
    (hq : Q (some w) T.heap locs) (h1 : cells ≤ C) (h2 : slots ≤ N) : Goes p e below (T.setTop (mkF m pc Ls [w])) (FinW s Q C N) :=
  Goes.outW X hS hk (v := some w) (fun h => by rw [hret] at h; cases h) hlocks (fun fs hr => X.areturnOut hx hw hret ht hd hr) hq h1 h2
theorem Goes.retVW {vm0 : Vm} (X : Stand p l e R (s.setVm vm0) m args below meth c T locs cells slots) {k0 : Nat} (hS : s.Since vm0 k0) (hk : k0 ≤ T.heap.size) (hx : p.tables.exec = Jvm.exec) (hret : meth.sig.returnType = none) (hlocks : meth.locks = false) {pc : Nat} {Ls : Array Slot} (hd : decode c.code pc = .ok (.return_, 1)) {Q : Option Value → Heap → List Loc → Prop} {C N : Nat}
    (hq : Q none T.heap locs) (h1 : cells ≤ C) (h2 : slots ≤ N) : Goes p e below (T.setTop (mkF m pc Ls [])) (FinW s Q C N) :=
  Goes.outW X hS hk (v := none) (fun _ => rfl) hlocks (fun fs hr => X.returnOut hx hret hd hr) hq h1 h2
end New
theorem own_pop2 {tb : Tables} [Ours tb] {e : Env} {below : List Frame} {T target : State} {m : MethodId} {c : Code} {g : JFrame} (h : At T m c below) (hx : tb.exec = Jvm.exec) (hg : g.method = m) {x : Value} {rest : List Value} (hd : decode c.code g.pc = .ok (.pop2, 1)) (hs : g.stack = x :: rest) (hc : x.category = 2)
    (hr : Steps tb e below (T.setTop { g with pc := g.pc + 1, stack := rest }) target) : Steps tb e below (T.setTop g) target := by
  subst hg
  jvm_step h [h.top, hx, hd, hs, hc]
  exact hr
theorem selPriv {s : State} {args : Array Value} {y : MethodName} {n : Nat} (hpriv : s.PrivateAt y) (hinst : (Cond.instanceMethod y).before args s = true) (hi : (Cond.instantiable y.cls n).before args s = true) (hy : y.cls ≠ "java/lang/invoke/MethodHandle" ∧ y.cls ≠ "java/lang/invoke/VarHandle") : (Cond.selects y.cls y y).before args s = true := by
  obtain ⟨c, k, h1, h2, -, h3, -⟩ := Cond.instantiable_spec hi
  exact Jvm.Stand.selects_self_of_private h1 h2 (by cases hk : k.isInterface <;> simp_all) hpriv hinst hy
end Jvm.RoadKit
namespace Jvm.Pilot.@@N@@
open Jvm Jvm.ClassFile Sem Op Lib Jvm.Free Jvm.Stand Jvm.LawKit Jvm.RoadKit Bundle Jvm.OwnN Jvm.Pilot.@@N@@.Jvm.D
theorem wd {Z : State} {a0 : Array Value} (hw : ∀ d ∈ tables_1, d.before a0 Z = true) (i : Nat) {c : Jvm.Cond} (h : tables_1[i]? = some c) : c.before a0 Z = true := hw c (List.mem_of_getElem? h)
theorem d1_0 : decode method_2_code 0 = .ok (.lload_n 0, 1) := by decide +kernel
theorem d1_1 : decode method_2_code 1 = .ok (.lload_n 2, 1) := by decide +kernel
theorem d1_2 : decode method_2_code 2 = .ok (.lrem, 1) := by decide +kernel
theorem d1_3 : decode method_2_code 3 = .ok (.lstore 4, 2) := by decide +kernel
theorem d1_5 : decode method_2_code 5 = .ok (.lload 4, 2) := by decide +kernel
theorem d1_7 : decode method_2_code 7 = .ok (.lconst 0, 1) := by decide +kernel
theorem d1_8 : decode method_2_code 8 = .ok (.lcmp, 1) := by decide +kernel
theorem d1_9 : decode method_2_code 9 = .ok (.ifCond .ge 10, 3) := by decide +kernel
theorem d1_12 : decode method_2_code 12 = .ok (.lload 4, 2) := by decide +kernel
theorem d1_14 : decode method_2_code 14 = .ok (.lload_n 2, 1) := by decide +kernel
theorem d1_15 : decode method_2_code 15 = .ok (.ladd, 1) := by decide +kernel
theorem d1_16 : decode method_2_code 16 = .ok (.goto 5, 3) := by decide +kernel
theorem d1_19 : decode method_2_code 19 = .ok (.lload 4, 2) := by decide +kernel
theorem d1_21 : decode method_2_code 21 = .ok (.lreturn, 1) := by decide +kernel
theorem pn_0 : plainName "com/example/hinta/hinta/HolidayEasterSundayPinLaw" = true := by first | (simp [plainName, overriddenIn]; done) | decide +kernel
theorem d7_0 : decode jdk_2423_method_6_code 0 = .ok (.aload_n 0, 1) := by decide +kernel
theorem d7_1 : decode jdk_2423_method_6_code 1 = .ok (.getfield 33, 3) := by decide +kernel
theorem d7_4 : decode jdk_2423_method_6_code 4 = .ok (.lreturn, 1) := by decide +kernel
theorem pn_1 : plainName "java/time/temporal/ValueRange" = true := by first | (simp [plainName, overriddenIn]; done) | decide +kernel
theorem d8_0 : decode jdk_2423_method_9_code 0 = .ok (.aload_n 0, 1) := by decide +kernel
theorem d8_1 : decode jdk_2423_method_9_code 1 = .ok (.getfield 43, 3) := by decide +kernel
theorem d8_4 : decode jdk_2423_method_9_code 4 = .ok (.lreturn, 1) := by decide +kernel
theorem d6_0 : decode jdk_2423_method_11_code 0 = .ok (.lload_n 1, 1) := by decide +kernel
theorem d6_1 : decode jdk_2423_method_11_code 1 = .ok (.aload_n 0, 1) := by decide +kernel
theorem d6_2 : decode jdk_2423_method_11_code 2 = .ok (.invokevirtual 46, 3) := by decide +kernel
theorem d6_5 : decode jdk_2423_method_11_code 5 = .ok (.lcmp, 1) := by decide +kernel
theorem d6_6 : decode jdk_2423_method_11_code 6 = .ok (.ifCond .lt 16, 3) := by decide +kernel
theorem d6_9 : decode jdk_2423_method_11_code 9 = .ok (.lload_n 1, 1) := by decide +kernel
theorem d6_10 : decode jdk_2423_method_11_code 10 = .ok (.aload_n 0, 1) := by decide +kernel
theorem d6_11 : decode jdk_2423_method_11_code 11 = .ok (.invokevirtual 54, 3) := by decide +kernel
theorem d6_14 : decode jdk_2423_method_11_code 14 = .ok (.lcmp, 1) := by decide +kernel
theorem d6_15 : decode jdk_2423_method_11_code 15 = .ok (.ifCond .gt 7, 3) := by decide +kernel
theorem d6_18 : decode jdk_2423_method_11_code 18 = .ok (.iconst 1, 1) := by decide +kernel
theorem d6_19 : decode jdk_2423_method_11_code 19 = .ok (.goto 4, 3) := by decide +kernel
theorem d6_22 : decode jdk_2423_method_11_code 22 = .ok (.iconst 0, 1) := by decide +kernel
theorem d6_23 : decode jdk_2423_method_11_code 23 = .ok (.ireturn, 1) := by decide +kernel
theorem pd_2 : parseMethodDescriptor "()J" = some ⟨[], some .long⟩ := by decide +kernel
theorem d5_0 : decode jdk_2423_method_13_code 0 = .ok (.aload_n 0, 1) := by decide +kernel
theorem d5_1 : decode jdk_2423_method_13_code 1 = .ok (.lload_n 1, 1) := by decide +kernel
theorem d5_2 : decode jdk_2423_method_13_code 2 = .ok (.invokevirtual 63, 3) := by decide +kernel
theorem d5_5 : decode jdk_2423_method_13_code 5 = .ok (.ifCond .ne 17, 3) := by decide +kernel
theorem d5_8 : decode jdk_2423_method_13_code 8 = .ok (.new 67, 3) := by decide +kernel
theorem d5_11 : decode jdk_2423_method_13_code 11 = .ok (.dup, 1) := by decide +kernel
theorem d5_12 : decode jdk_2423_method_13_code 12 = .ok (.aload_n 0, 1) := by decide +kernel
theorem d5_13 : decode jdk_2423_method_13_code 13 = .ok (.aload_n 3, 1) := by decide +kernel
theorem d5_14 : decode jdk_2423_method_13_code 14 = .ok (.lload_n 1, 1) := by decide +kernel
theorem d5_15 : decode jdk_2423_method_13_code 15 = .ok (.invokevirtual 69, 3) := by decide +kernel
theorem d5_18 : decode jdk_2423_method_13_code 18 = .ok (.invokespecial 73, 3) := by decide +kernel
theorem d5_21 : decode jdk_2423_method_13_code 21 = .ok (.athrow, 1) := by decide +kernel
theorem d5_22 : decode jdk_2423_method_13_code 22 = .ok (.lload_n 1, 1) := by decide +kernel
theorem d5_23 : decode jdk_2423_method_13_code 23 = .ok (.lreturn, 1) := by decide +kernel
theorem pd_3 : parseMethodDescriptor "(J)Z" = some ⟨[.long], some .boolean⟩ := by decide +kernel
theorem d4_0 : decode jdk_2395_method_8_code 0 = .ok (.aload_n 0, 1) := by decide +kernel
theorem d4_1 : decode jdk_2395_method_8_code 1 = .ok (.getfield 124, 3) := by decide +kernel
theorem d4_4 : decode jdk_2395_method_8_code 4 = .ok (.areturn, 1) := by decide +kernel
theorem pn_4 : plainName "java/time/temporal/ChronoField" = true := by first | (simp [plainName, overriddenIn]; done) | decide +kernel
theorem d3_0 : decode jdk_2395_method_11_code 0 = .ok (.aload_n 0, 1) := by decide +kernel
theorem d3_1 : decode jdk_2395_method_11_code 1 = .ok (.invokevirtual 190, 3) := by decide +kernel
theorem d3_4 : decode jdk_2395_method_11_code 4 = .ok (.lload_n 1, 1) := by decide +kernel
theorem d3_5 : decode jdk_2395_method_11_code 5 = .ok (.aload_n 0, 1) := by decide +kernel
theorem d3_6 : decode jdk_2395_method_11_code 6 = .ok (.invokevirtual 193, 3) := by decide +kernel
theorem d3_9 : decode jdk_2395_method_11_code 9 = .ok (.lreturn, 1) := by decide +kernel
theorem pd_5 : parseMethodDescriptor "()Ljava/time/temporal/ValueRange;" = some ⟨[], some (.object "java/time/temporal/ValueRange")⟩ := by decide +kernel
theorem pd_6 : parseMethodDescriptor "(JLjava/time/temporal/TemporalField;)J" = some ⟨[.long, (.object "java/time/temporal/TemporalField")], some .long⟩ := by decide +kernel
theorem d10_0 : decode jdk_2323_method_14_code 0 = .ok (.aload_n 0, 1) := by decide +kernel
theorem d10_1 : decode jdk_2323_method_14_code 1 = .ok (.invokespecial 243, 3) := by decide +kernel
theorem d10_4 : decode jdk_2323_method_14_code 4 = .ok (.aload_n 0, 1) := by decide +kernel
theorem d10_5 : decode jdk_2323_method_14_code 5 = .ok (.iload_n 1, 1) := by decide +kernel
theorem d10_6 : decode jdk_2323_method_14_code 6 = .ok (.putfield 246, 3) := by decide +kernel
theorem d10_9 : decode jdk_2323_method_14_code 9 = .ok (.aload_n 0, 1) := by decide +kernel
theorem d10_10 : decode jdk_2323_method_14_code 10 = .ok (.iload_n 2, 1) := by decide +kernel
theorem d10_11 : decode jdk_2323_method_14_code 11 = .ok (.i2s, 1) := by decide +kernel
theorem d10_12 : decode jdk_2323_method_14_code 12 = .ok (.putfield 250, 3) := by decide +kernel
theorem d10_15 : decode jdk_2323_method_14_code 15 = .ok (.aload_n 0, 1) := by decide +kernel
theorem d10_16 : decode jdk_2323_method_14_code 16 = .ok (.iload_n 3, 1) := by decide +kernel
theorem d10_17 : decode jdk_2323_method_14_code 17 = .ok (.i2s, 1) := by decide +kernel
theorem d10_18 : decode jdk_2323_method_14_code 18 = .ok (.putfield 253, 3) := by decide +kernel
theorem d10_21 : decode jdk_2323_method_14_code 21 = .ok (.return_, 1) := by decide +kernel
theorem pn_7 : plainName "java/time/LocalDate" = true := by first | (simp [plainName, overriddenIn]; done) | decide +kernel
theorem d9_0 : decode jdk_2323_method_12_code 0 = .ok (.iload_n 2, 1) := by decide +kernel
theorem d9_1 : decode jdk_2323_method_12_code 1 = .ok (.bipush 28, 2) := by decide +kernel
theorem d9_3 : decode jdk_2323_method_12_code 3 = .ok (.if_icmp .le 176, 3) := by decide +kernel
theorem d9_6 : decode jdk_2323_method_12_code 6 = .ok (.iload_n 1, 1) := by decide +kernel
theorem d9_7 : decode jdk_2323_method_12_code 7 = .ok (.tableswitch 79 2 11 #[53, 79, 74, 79, 74, 79, 79, 74, 79, 74], 53) := by decide +kernel
theorem d9_60 : decode jdk_2323_method_12_code 60 = .ok (.getstatic 70, 3) := by decide +kernel
theorem d9_63 : decode jdk_2323_method_12_code 63 = .ok (.iload_n 0, 1) := by decide +kernel
theorem d9_64 : decode jdk_2323_method_12_code 64 = .ok (.i2l, 1) := by decide +kernel
theorem d9_65 : decode jdk_2323_method_12_code 65 = .ok (.invokevirtual 76, 3) := by decide +kernel
theorem d9_68 : decode jdk_2323_method_12_code 68 = .ok (.ifCond .eq 8, 3) := by decide +kernel
theorem d9_71 : decode jdk_2323_method_12_code 71 = .ok (.bipush 29, 2) := by decide +kernel
theorem d9_73 : decode jdk_2323_method_12_code 73 = .ok (.goto 15, 3) := by decide +kernel
theorem d9_76 : decode jdk_2323_method_12_code 76 = .ok (.bipush 28, 2) := by decide +kernel
theorem d9_78 : decode jdk_2323_method_12_code 78 = .ok (.goto 10, 3) := by decide +kernel
theorem d9_81 : decode jdk_2323_method_12_code 81 = .ok (.bipush 30, 2) := by decide +kernel
theorem d9_83 : decode jdk_2323_method_12_code 83 = .ok (.goto 5, 3) := by decide +kernel
theorem d9_86 : decode jdk_2323_method_12_code 86 = .ok (.bipush 31, 2) := by decide +kernel
theorem d9_88 : decode jdk_2323_method_12_code 88 = .ok (.istore_n 3, 1) := by decide +kernel
theorem d9_89 : decode jdk_2323_method_12_code 89 = .ok (.iload_n 2, 1) := by decide +kernel
theorem d9_90 : decode jdk_2323_method_12_code 90 = .ok (.iload_n 3, 1) := by decide +kernel
theorem d9_91 : decode jdk_2323_method_12_code 91 = .ok (.if_icmp .le 88, 3) := by decide +kernel
theorem d9_94 : decode jdk_2323_method_12_code 94 = .ok (.iload_n 2, 1) := by decide +kernel
theorem d9_95 : decode jdk_2323_method_12_code 95 = .ok (.bipush 29, 2) := by decide +kernel
theorem d9_97 : decode jdk_2323_method_12_code 97 = .ok (.if_icmp .ne 35, 3) := by decide +kernel
theorem d9_100 : decode jdk_2323_method_12_code 100 = .ok (.new 80, 3) := by decide +kernel
theorem d9_103 : decode jdk_2323_method_12_code 103 = .ok (.dup, 1) := by decide +kernel
theorem d9_104 : decode jdk_2323_method_12_code 104 = .ok (.new 82, 3) := by decide +kernel
theorem d9_107 : decode jdk_2323_method_12_code 107 = .ok (.dup, 1) := by decide +kernel
theorem d9_108 : decode jdk_2323_method_12_code 108 = .ok (.invokespecial 84, 3) := by decide +kernel
theorem d9_111 : decode jdk_2323_method_12_code 111 = .ok (.ldc 228, 2) := by decide +kernel
theorem d9_113 : decode jdk_2323_method_12_code 113 = .ok (.invokevirtual 90, 3) := by decide +kernel
theorem d9_116 : decode jdk_2323_method_12_code 116 = .ok (.iload_n 0, 1) := by decide +kernel
theorem d9_117 : decode jdk_2323_method_12_code 117 = .ok (.invokevirtual 94, 3) := by decide +kernel
theorem d9_120 : decode jdk_2323_method_12_code 120 = .ok (.ldc 97, 2) := by decide +kernel
theorem d9_122 : decode jdk_2323_method_12_code 122 = .ok (.invokevirtual 90, 3) := by decide +kernel
theorem d9_125 : decode jdk_2323_method_12_code 125 = .ok (.invokevirtual 99, 3) := by decide +kernel
theorem d9_128 : decode jdk_2323_method_12_code 128 = .ok (.invokespecial 103, 3) := by decide +kernel
theorem d9_131 : decode jdk_2323_method_12_code 131 = .ok (.athrow, 1) := by decide +kernel
theorem d9_132 : decode jdk_2323_method_12_code 132 = .ok (.new 80, 3) := by decide +kernel
theorem d9_135 : decode jdk_2323_method_12_code 135 = .ok (.dup, 1) := by decide +kernel
theorem d9_136 : decode jdk_2323_method_12_code 136 = .ok (.new 82, 3) := by decide +kernel
theorem d9_139 : decode jdk_2323_method_12_code 139 = .ok (.dup, 1) := by decide +kernel
theorem d9_140 : decode jdk_2323_method_12_code 140 = .ok (.invokespecial 84, 3) := by decide +kernel
theorem d9_143 : decode jdk_2323_method_12_code 143 = .ok (.ldc 230, 2) := by decide +kernel
theorem d9_145 : decode jdk_2323_method_12_code 145 = .ok (.invokevirtual 90, 3) := by decide +kernel
theorem d9_148 : decode jdk_2323_method_12_code 148 = .ok (.iload_n 1, 1) := by decide +kernel
theorem d9_149 : decode jdk_2323_method_12_code 149 = .ok (.invokestatic 106, 3) := by decide +kernel
theorem d9_152 : decode jdk_2323_method_12_code 152 = .ok (.invokevirtual 232, 3) := by decide +kernel
theorem d9_155 : decode jdk_2323_method_12_code 155 = .ok (.invokevirtual 90, 3) := by decide +kernel
theorem d9_158 : decode jdk_2323_method_12_code 158 = .ok (.ldc 235, 2) := by decide +kernel
theorem d9_160 : decode jdk_2323_method_12_code 160 = .ok (.invokevirtual 90, 3) := by decide +kernel
theorem d9_163 : decode jdk_2323_method_12_code 163 = .ok (.iload_n 2, 1) := by decide +kernel
theorem d9_164 : decode jdk_2323_method_12_code 164 = .ok (.invokevirtual 94, 3) := by decide +kernel
theorem d9_167 : decode jdk_2323_method_12_code 167 = .ok (.ldc 237, 2) := by decide +kernel
theorem d9_169 : decode jdk_2323_method_12_code 169 = .ok (.invokevirtual 90, 3) := by decide +kernel
theorem d9_172 : decode jdk_2323_method_12_code 172 = .ok (.invokevirtual 99, 3) := by decide +kernel
theorem d9_175 : decode jdk_2323_method_12_code 175 = .ok (.invokespecial 103, 3) := by decide +kernel
theorem d9_178 : decode jdk_2323_method_12_code 178 = .ok (.athrow, 1) := by decide +kernel
theorem d9_179 : decode jdk_2323_method_12_code 179 = .ok (.new 1, 3) := by decide +kernel
theorem d9_182 : decode jdk_2323_method_12_code 182 = .ok (.dup, 1) := by decide +kernel
theorem d9_183 : decode jdk_2323_method_12_code 183 = .ok (.iload_n 0, 1) := by decide +kernel
theorem d9_184 : decode jdk_2323_method_12_code 184 = .ok (.iload_n 1, 1) := by decide +kernel
theorem d9_185 : decode jdk_2323_method_12_code 185 = .ok (.iload_n 2, 1) := by decide +kernel
theorem d9_186 : decode jdk_2323_method_12_code 186 = .ok (.invokespecial 121, 3) := by decide +kernel
theorem d9_189 : decode jdk_2323_method_12_code 189 = .ok (.areturn, 1) := by decide +kernel
theorem pd_8 : parseMethodDescriptor "(III)V" = some ⟨[.int, .int, .int], none⟩ := by decide +kernel
theorem d2_0 : decode jdk_2323_method_5_code 0 = .ok (.getstatic 39, 3) := by decide +kernel
theorem d2_3 : decode jdk_2323_method_5_code 3 = .ok (.iload_n 0, 1) := by decide +kernel
theorem d2_4 : decode jdk_2323_method_5_code 4 = .ok (.i2l, 1) := by decide +kernel
theorem d2_5 : decode jdk_2323_method_5_code 5 = .ok (.invokevirtual 45, 3) := by decide +kernel
theorem d2_8 : decode jdk_2323_method_5_code 8 = .ok (.pop2, 1) := by decide +kernel
theorem d2_9 : decode jdk_2323_method_5_code 9 = .ok (.getstatic 64, 3) := by decide +kernel
theorem d2_12 : decode jdk_2323_method_5_code 12 = .ok (.iload_n 1, 1) := by decide +kernel
theorem d2_13 : decode jdk_2323_method_5_code 13 = .ok (.i2l, 1) := by decide +kernel
theorem d2_14 : decode jdk_2323_method_5_code 14 = .ok (.invokevirtual 45, 3) := by decide +kernel
theorem d2_17 : decode jdk_2323_method_5_code 17 = .ok (.pop2, 1) := by decide +kernel
theorem d2_18 : decode jdk_2323_method_5_code 18 = .ok (.getstatic 51, 3) := by decide +kernel
theorem d2_21 : decode jdk_2323_method_5_code 21 = .ok (.iload_n 2, 1) := by decide +kernel
theorem d2_22 : decode jdk_2323_method_5_code 22 = .ok (.i2l, 1) := by decide +kernel
theorem d2_23 : decode jdk_2323_method_5_code 23 = .ok (.invokevirtual 45, 3) := by decide +kernel
theorem d2_26 : decode jdk_2323_method_5_code 26 = .ok (.pop2, 1) := by decide +kernel
theorem d2_27 : decode jdk_2323_method_5_code 27 = .ok (.iload_n 0, 1) := by decide +kernel
theorem d2_28 : decode jdk_2323_method_5_code 28 = .ok (.iload_n 1, 1) := by decide +kernel
theorem d2_29 : decode jdk_2323_method_5_code 29 = .ok (.iload_n 2, 1) := by decide +kernel
theorem d2_30 : decode jdk_2323_method_5_code 30 = .ok (.invokestatic 60, 3) := by decide +kernel
theorem d2_33 : decode jdk_2323_method_5_code 33 = .ok (.areturn, 1) := by decide +kernel
theorem pd_9 : parseMethodDescriptor "(J)J" = some ⟨[.long], some .long⟩ := by decide +kernel
theorem pd_10 : parseMethodDescriptor "(III)Ljava/time/LocalDate;" = some ⟨[.int, .int, .int], some (.object "java/time/LocalDate")⟩ := by decide +kernel
theorem d14_0 : decode jdk_31_method_11_code 0 = .ok (.aload_n 0, 1) := by decide +kernel
theorem d14_1 : decode jdk_31_method_11_code 1 = .ok (.ifnonnull 12, 3) := by decide +kernel
theorem d14_4 : decode jdk_31_method_11_code 4 = .ok (.new 84, 3) := by decide +kernel
theorem d14_7 : decode jdk_31_method_11_code 7 = .ok (.dup, 1) := by decide +kernel
theorem d14_8 : decode jdk_31_method_11_code 8 = .ok (.aload_n 1, 1) := by decide +kernel
theorem d14_9 : decode jdk_31_method_11_code 9 = .ok (.invokespecial 87, 3) := by decide +kernel
theorem d14_12 : decode jdk_31_method_11_code 12 = .ok (.athrow, 1) := by decide +kernel
theorem d14_13 : decode jdk_31_method_11_code 13 = .ok (.aload_n 0, 1) := by decide +kernel
theorem d14_14 : decode jdk_31_method_11_code 14 = .ok (.areturn, 1) := by decide +kernel
theorem pn_11 : plainName "java/util/Objects" = true := by first | (simp [plainName, overriddenIn]; done) | decide +kernel
theorem d16_0 : decode jdk_37_method_2_code 0 = .ok (.aload_n 0, 1) := by decide +kernel
theorem d16_1 : decode jdk_37_method_2_code 1 = .ok (.getfield 7, 3) := by decide +kernel
theorem d16_4 : decode jdk_37_method_2_code 4 = .ok (.ireturn, 1) := by decide +kernel
theorem pn_12 : plainName "java/lang/Enum" = true := by first | (simp [plainName, overriddenIn]; done) | decide +kernel
theorem d15_0 : decode jdk_2329_method_6_code 0 = .ok (.aload_n 0, 1) := by decide +kernel
theorem d15_1 : decode jdk_2329_method_6_code 1 = .ok (.invokevirtual 141, 3) := by decide +kernel
theorem d15_4 : decode jdk_2329_method_6_code 4 = .ok (.iconst 1, 1) := by decide +kernel
theorem d15_5 : decode jdk_2329_method_6_code 5 = .ok (.iadd, 1) := by decide +kernel
theorem d15_6 : decode jdk_2329_method_6_code 6 = .ok (.ireturn, 1) := by decide +kernel
theorem pn_13 : plainName "java/time/Month" = true := by first | (simp [plainName, overriddenIn]; done) | decide +kernel
theorem pd_14 : parseMethodDescriptor "()I" = some ⟨[], some .int⟩ := by decide +kernel
theorem d13_0 : decode jdk_2323_method_4_code 0 = .ok (.getstatic 39, 3) := by decide +kernel
theorem d13_3 : decode jdk_2323_method_4_code 3 = .ok (.iload_n 0, 1) := by decide +kernel
theorem d13_4 : decode jdk_2323_method_4_code 4 = .ok (.i2l, 1) := by decide +kernel
theorem d13_5 : decode jdk_2323_method_4_code 5 = .ok (.invokevirtual 45, 3) := by decide +kernel
theorem d13_8 : decode jdk_2323_method_4_code 8 = .ok (.pop2, 1) := by decide +kernel
theorem d13_9 : decode jdk_2323_method_4_code 9 = .ok (.aload_n 1, 1) := by decide +kernel
theorem d13_10 : decode jdk_2323_method_4_code 10 = .ok (.ldc 49, 2) := by decide +kernel
theorem d13_12 : decode jdk_2323_method_4_code 12 = .ok (.invokestatic 21, 3) := by decide +kernel
theorem d13_15 : decode jdk_2323_method_4_code 15 = .ok (.pop, 1) := by decide +kernel
theorem d13_16 : decode jdk_2323_method_4_code 16 = .ok (.getstatic 51, 3) := by decide +kernel
theorem d13_19 : decode jdk_2323_method_4_code 19 = .ok (.iload_n 2, 1) := by decide +kernel
theorem d13_20 : decode jdk_2323_method_4_code 20 = .ok (.i2l, 1) := by decide +kernel
theorem d13_21 : decode jdk_2323_method_4_code 21 = .ok (.invokevirtual 45, 3) := by decide +kernel
theorem d13_24 : decode jdk_2323_method_4_code 24 = .ok (.pop2, 1) := by decide +kernel
theorem d13_25 : decode jdk_2323_method_4_code 25 = .ok (.iload_n 0, 1) := by decide +kernel
theorem d13_26 : decode jdk_2323_method_4_code 26 = .ok (.aload_n 1, 1) := by decide +kernel
theorem d13_27 : decode jdk_2323_method_4_code 27 = .ok (.invokevirtual 54, 3) := by decide +kernel
theorem d13_30 : decode jdk_2323_method_4_code 30 = .ok (.iload_n 2, 1) := by decide +kernel
theorem d13_31 : decode jdk_2323_method_4_code 31 = .ok (.invokestatic 60, 3) := by decide +kernel
theorem d13_34 : decode jdk_2323_method_4_code 34 = .ok (.areturn, 1) := by decide +kernel
theorem pd_15 : parseMethodDescriptor "(Ljava/lang/Object;Ljava/lang/String;)Ljava/lang/Object;" = some ⟨[(.object "java/lang/Object"), (.object "java/lang/String")], some (.object "java/lang/Object")⟩ := by decide +kernel
theorem d18_0 : decode jdk_2323_method_31_code 0 = .ok (.aload_n 0, 1) := by decide +kernel
theorem d18_1 : decode jdk_2323_method_31_code 1 = .ok (.getfield 250, 3) := by decide +kernel
theorem d18_4 : decode jdk_2323_method_31_code 4 = .ok (.tableswitch 78 2 11 #[56, 78, 73, 78, 73, 78, 78, 73, 78, 73], 56) := by decide +kernel
theorem d18_60 : decode jdk_2323_method_31_code 60 = .ok (.aload_n 0, 1) := by decide +kernel
theorem d18_61 : decode jdk_2323_method_31_code 61 = .ok (.invokevirtual 297, 3) := by decide +kernel
theorem d18_64 : decode jdk_2323_method_31_code 64 = .ok (.ifCond .eq 8, 3) := by decide +kernel
theorem d18_67 : decode jdk_2323_method_31_code 67 = .ok (.bipush 29, 2) := by decide +kernel
theorem d18_69 : decode jdk_2323_method_31_code 69 = .ok (.goto 15, 3) := by decide +kernel
theorem d18_72 : decode jdk_2323_method_31_code 72 = .ok (.bipush 28, 2) := by decide +kernel
theorem d18_74 : decode jdk_2323_method_31_code 74 = .ok (.goto 10, 3) := by decide +kernel
theorem d18_77 : decode jdk_2323_method_31_code 77 = .ok (.bipush 30, 2) := by decide +kernel
theorem d18_79 : decode jdk_2323_method_31_code 79 = .ok (.goto 5, 3) := by decide +kernel
theorem d18_82 : decode jdk_2323_method_31_code 82 = .ok (.bipush 31, 2) := by decide +kernel
theorem d18_84 : decode jdk_2323_method_31_code 84 = .ok (.ireturn, 1) := by decide +kernel
theorem d17_0 : decode jdk_2323_method_44_code 0 = .ok (.lload_n 1, 1) := by decide +kernel
theorem d17_1 : decode jdk_2323_method_44_code 1 = .ok (.lconst 0, 1) := by decide +kernel
theorem d17_2 : decode jdk_2323_method_44_code 2 = .ok (.lcmp, 1) := by decide +kernel
theorem d17_3 : decode jdk_2323_method_44_code 3 = .ok (.ifCond .ne 5, 3) := by decide +kernel
theorem d17_6 : decode jdk_2323_method_44_code 6 = .ok (.aload_n 0, 1) := by decide +kernel
theorem d17_7 : decode jdk_2323_method_44_code 7 = .ok (.areturn, 1) := by decide +kernel
theorem d17_8 : decode jdk_2323_method_44_code 8 = .ok (.aload_n 0, 1) := by decide +kernel
theorem d17_9 : decode jdk_2323_method_44_code 9 = .ok (.getfield 253, 3) := by decide +kernel
theorem d17_12 : decode jdk_2323_method_44_code 12 = .ok (.i2l, 1) := by decide +kernel
theorem d17_13 : decode jdk_2323_method_44_code 13 = .ok (.lload_n 1, 1) := by decide +kernel
theorem d17_14 : decode jdk_2323_method_44_code 14 = .ok (.ladd, 1) := by decide +kernel
theorem d17_15 : decode jdk_2323_method_44_code 15 = .ok (.lstore_n 3, 1) := by decide +kernel
theorem d17_16 : decode jdk_2323_method_44_code 16 = .ok (.lload_n 3, 1) := by decide +kernel
theorem d17_17 : decode jdk_2323_method_44_code 17 = .ok (.lconst 0, 1) := by decide +kernel
theorem d17_18 : decode jdk_2323_method_44_code 18 = .ok (.lcmp, 1) := by decide +kernel
theorem d17_19 : decode jdk_2323_method_44_code 19 = .ok (.ifCond .le 135, 3) := by decide +kernel
theorem d17_22 : decode jdk_2323_method_44_code 22 = .ok (.lload_n 3, 1) := by decide +kernel
theorem d17_23 : decode jdk_2323_method_44_code 23 = .ok (.ldc2_w 483, 3) := by decide +kernel
theorem d17_26 : decode jdk_2323_method_44_code 26 = .ok (.lcmp, 1) := by decide +kernel
theorem d17_27 : decode jdk_2323_method_44_code 27 = .ok (.ifCond .gt 21, 3) := by decide +kernel
theorem d17_30 : decode jdk_2323_method_44_code 30 = .ok (.new 1, 3) := by decide +kernel
theorem d17_33 : decode jdk_2323_method_44_code 33 = .ok (.dup, 1) := by decide +kernel
theorem d17_34 : decode jdk_2323_method_44_code 34 = .ok (.aload_n 0, 1) := by decide +kernel
theorem d17_35 : decode jdk_2323_method_44_code 35 = .ok (.getfield 246, 3) := by decide +kernel
theorem d17_38 : decode jdk_2323_method_44_code 38 = .ok (.aload_n 0, 1) := by decide +kernel
theorem d17_39 : decode jdk_2323_method_44_code 39 = .ok (.getfield 250, 3) := by decide +kernel
theorem d17_42 : decode jdk_2323_method_44_code 42 = .ok (.lload_n 3, 1) := by decide +kernel
theorem d17_43 : decode jdk_2323_method_44_code 43 = .ok (.l2i, 1) := by decide +kernel
theorem d17_44 : decode jdk_2323_method_44_code 44 = .ok (.invokespecial 121, 3) := by decide +kernel
theorem d17_47 : decode jdk_2323_method_44_code 47 = .ok (.areturn, 1) := by decide +kernel
theorem d17_48 : decode jdk_2323_method_44_code 48 = .ok (.lload_n 3, 1) := by decide +kernel
theorem d17_49 : decode jdk_2323_method_44_code 49 = .ok (.ldc2_w 485, 3) := by decide +kernel
theorem d17_52 : decode jdk_2323_method_44_code 52 = .ok (.lcmp, 1) := by decide +kernel
theorem d17_53 : decode jdk_2323_method_44_code 53 = .ok (.ifCond .gt 101, 3) := by decide +kernel
theorem d17_56 : decode jdk_2323_method_44_code 56 = .ok (.aload_n 0, 1) := by decide +kernel
theorem d17_57 : decode jdk_2323_method_44_code 57 = .ok (.invokevirtual 278, 3) := by decide +kernel
theorem d17_60 : decode jdk_2323_method_44_code 60 = .ok (.i2l, 1) := by decide +kernel
theorem d17_61 : decode jdk_2323_method_44_code 61 = .ok (.lstore 5, 2) := by decide +kernel
theorem d17_63 : decode jdk_2323_method_44_code 63 = .ok (.lload_n 3, 1) := by decide +kernel
theorem d17_64 : decode jdk_2323_method_44_code 64 = .ok (.lload 5, 2) := by decide +kernel
theorem d17_66 : decode jdk_2323_method_44_code 66 = .ok (.lcmp, 1) := by decide +kernel
theorem d17_67 : decode jdk_2323_method_44_code 67 = .ok (.ifCond .gt 21, 3) := by decide +kernel
theorem d17_70 : decode jdk_2323_method_44_code 70 = .ok (.new 1, 3) := by decide +kernel
theorem d17_73 : decode jdk_2323_method_44_code 73 = .ok (.dup, 1) := by decide +kernel
theorem d17_74 : decode jdk_2323_method_44_code 74 = .ok (.aload_n 0, 1) := by decide +kernel
theorem d17_75 : decode jdk_2323_method_44_code 75 = .ok (.getfield 246, 3) := by decide +kernel
theorem d17_78 : decode jdk_2323_method_44_code 78 = .ok (.aload_n 0, 1) := by decide +kernel
theorem d17_79 : decode jdk_2323_method_44_code 79 = .ok (.getfield 250, 3) := by decide +kernel
theorem d17_82 : decode jdk_2323_method_44_code 82 = .ok (.lload_n 3, 1) := by decide +kernel
theorem d17_83 : decode jdk_2323_method_44_code 83 = .ok (.l2i, 1) := by decide +kernel
theorem d17_84 : decode jdk_2323_method_44_code 84 = .ok (.invokespecial 121, 3) := by decide +kernel
theorem d17_87 : decode jdk_2323_method_44_code 87 = .ok (.areturn, 1) := by decide +kernel
theorem d17_88 : decode jdk_2323_method_44_code 88 = .ok (.aload_n 0, 1) := by decide +kernel
theorem d17_89 : decode jdk_2323_method_44_code 89 = .ok (.getfield 250, 3) := by decide +kernel
theorem d17_92 : decode jdk_2323_method_44_code 92 = .ok (.bipush 12, 2) := by decide +kernel
theorem d17_94 : decode jdk_2323_method_44_code 94 = .ok (.if_icmp .ge 26, 3) := by decide +kernel
theorem d17_97 : decode jdk_2323_method_44_code 97 = .ok (.new 1, 3) := by decide +kernel
theorem d17_100 : decode jdk_2323_method_44_code 100 = .ok (.dup, 1) := by decide +kernel
theorem d17_101 : decode jdk_2323_method_44_code 101 = .ok (.aload_n 0, 1) := by decide +kernel
theorem d17_102 : decode jdk_2323_method_44_code 102 = .ok (.getfield 246, 3) := by decide +kernel
theorem d17_105 : decode jdk_2323_method_44_code 105 = .ok (.aload_n 0, 1) := by decide +kernel
theorem d17_106 : decode jdk_2323_method_44_code 106 = .ok (.getfield 250, 3) := by decide +kernel
theorem d17_109 : decode jdk_2323_method_44_code 109 = .ok (.iconst 1, 1) := by decide +kernel
theorem d17_110 : decode jdk_2323_method_44_code 110 = .ok (.iadd, 1) := by decide +kernel
theorem d17_111 : decode jdk_2323_method_44_code 111 = .ok (.lload_n 3, 1) := by decide +kernel
theorem d17_112 : decode jdk_2323_method_44_code 112 = .ok (.lload 5, 2) := by decide +kernel
theorem d17_114 : decode jdk_2323_method_44_code 114 = .ok (.lsub, 1) := by decide +kernel
theorem d17_115 : decode jdk_2323_method_44_code 115 = .ok (.l2i, 1) := by decide +kernel
theorem d17_116 : decode jdk_2323_method_44_code 116 = .ok (.invokespecial 121, 3) := by decide +kernel
theorem d17_119 : decode jdk_2323_method_44_code 119 = .ok (.areturn, 1) := by decide +kernel
theorem d17_120 : decode jdk_2323_method_44_code 120 = .ok (.getstatic 39, 3) := by decide +kernel
theorem d17_123 : decode jdk_2323_method_44_code 123 = .ok (.aload_n 0, 1) := by decide +kernel
theorem d17_124 : decode jdk_2323_method_44_code 124 = .ok (.getfield 246, 3) := by decide +kernel
theorem d17_127 : decode jdk_2323_method_44_code 127 = .ok (.iconst 1, 1) := by decide +kernel
theorem d17_128 : decode jdk_2323_method_44_code 128 = .ok (.iadd, 1) := by decide +kernel
theorem d17_129 : decode jdk_2323_method_44_code 129 = .ok (.i2l, 1) := by decide +kernel
theorem d17_130 : decode jdk_2323_method_44_code 130 = .ok (.invokevirtual 45, 3) := by decide +kernel
theorem d17_133 : decode jdk_2323_method_44_code 133 = .ok (.pop2, 1) := by decide +kernel
theorem d17_134 : decode jdk_2323_method_44_code 134 = .ok (.new 1, 3) := by decide +kernel
theorem d17_137 : decode jdk_2323_method_44_code 137 = .ok (.dup, 1) := by decide +kernel
theorem d17_138 : decode jdk_2323_method_44_code 138 = .ok (.aload_n 0, 1) := by decide +kernel
theorem d17_139 : decode jdk_2323_method_44_code 139 = .ok (.getfield 246, 3) := by decide +kernel
theorem d17_142 : decode jdk_2323_method_44_code 142 = .ok (.iconst 1, 1) := by decide +kernel
theorem d17_143 : decode jdk_2323_method_44_code 143 = .ok (.iadd, 1) := by decide +kernel
theorem d17_144 : decode jdk_2323_method_44_code 144 = .ok (.iconst 1, 1) := by decide +kernel
theorem d17_145 : decode jdk_2323_method_44_code 145 = .ok (.lload_n 3, 1) := by decide +kernel
theorem d17_146 : decode jdk_2323_method_44_code 146 = .ok (.lload 5, 2) := by decide +kernel
theorem d17_148 : decode jdk_2323_method_44_code 148 = .ok (.lsub, 1) := by decide +kernel
theorem d17_149 : decode jdk_2323_method_44_code 149 = .ok (.l2i, 1) := by decide +kernel
theorem d17_150 : decode jdk_2323_method_44_code 150 = .ok (.invokespecial 121, 3) := by decide +kernel
theorem d17_153 : decode jdk_2323_method_44_code 153 = .ok (.areturn, 1) := by decide +kernel
theorem d17_154 : decode jdk_2323_method_44_code 154 = .ok (.aload_n 0, 1) := by decide +kernel
theorem d17_155 : decode jdk_2323_method_44_code 155 = .ok (.invokevirtual 332, 3) := by decide +kernel
theorem d17_158 : decode jdk_2323_method_44_code 158 = .ok (.lload_n 1, 1) := by decide +kernel
theorem d17_159 : decode jdk_2323_method_44_code 159 = .ok (.invokestatic 465, 3) := by decide +kernel
theorem d17_162 : decode jdk_2323_method_44_code 162 = .ok (.lstore 5, 2) := by decide +kernel
theorem d17_164 : decode jdk_2323_method_44_code 164 = .ok (.lload 5, 2) := by decide +kernel
theorem d17_166 : decode jdk_2323_method_44_code 166 = .ok (.invokestatic 157, 3) := by decide +kernel
theorem d17_169 : decode jdk_2323_method_44_code 169 = .ok (.areturn, 1) := by decide +kernel
theorem d12_0 : decode prog_9_method_7_code 0 = .ok (.iload_n 0, 1) := by decide +kernel
theorem d12_1 : decode prog_9_method_7_code 1 = .ok (.bipush 19, 2) := by decide +kernel
theorem d12_3 : decode prog_9_method_7_code 3 = .ok (.irem, 1) := by decide +kernel
theorem d12_4 : decode prog_9_method_7_code 4 = .ok (.istore_n 1, 1) := by decide +kernel
theorem d12_5 : decode prog_9_method_7_code 5 = .ok (.iload_n 0, 1) := by decide +kernel
theorem d12_6 : decode prog_9_method_7_code 6 = .ok (.bipush 100, 2) := by decide +kernel
theorem d12_8 : decode prog_9_method_7_code 8 = .ok (.idiv, 1) := by decide +kernel
theorem d12_9 : decode prog_9_method_7_code 9 = .ok (.istore_n 2, 1) := by decide +kernel
theorem d12_10 : decode prog_9_method_7_code 10 = .ok (.iload_n 0, 1) := by decide +kernel
theorem d12_11 : decode prog_9_method_7_code 11 = .ok (.bipush 100, 2) := by decide +kernel
theorem d12_13 : decode prog_9_method_7_code 13 = .ok (.irem, 1) := by decide +kernel
theorem d12_14 : decode prog_9_method_7_code 14 = .ok (.istore_n 3, 1) := by decide +kernel
theorem d12_15 : decode prog_9_method_7_code 15 = .ok (.iload_n 2, 1) := by decide +kernel
theorem d12_16 : decode prog_9_method_7_code 16 = .ok (.iload_n 2, 1) := by decide +kernel
theorem d12_17 : decode prog_9_method_7_code 17 = .ok (.iconst 4, 1) := by decide +kernel
theorem d12_18 : decode prog_9_method_7_code 18 = .ok (.idiv, 1) := by decide +kernel
theorem d12_19 : decode prog_9_method_7_code 19 = .ok (.isub, 1) := by decide +kernel
theorem d12_20 : decode prog_9_method_7_code 20 = .ok (.istore 4, 2) := by decide +kernel
theorem d12_22 : decode prog_9_method_7_code 22 = .ok (.iload_n 2, 1) := by decide +kernel
theorem d12_23 : decode prog_9_method_7_code 23 = .ok (.iload_n 2, 1) := by decide +kernel
theorem d12_24 : decode prog_9_method_7_code 24 = .ok (.bipush 8, 2) := by decide +kernel
theorem d12_26 : decode prog_9_method_7_code 26 = .ok (.iadd, 1) := by decide +kernel
theorem d12_27 : decode prog_9_method_7_code 27 = .ok (.bipush 25, 2) := by decide +kernel
theorem d12_29 : decode prog_9_method_7_code 29 = .ok (.idiv, 1) := by decide +kernel
theorem d12_30 : decode prog_9_method_7_code 30 = .ok (.isub, 1) := by decide +kernel
theorem d12_31 : decode prog_9_method_7_code 31 = .ok (.iconst 1, 1) := by decide +kernel
theorem d12_32 : decode prog_9_method_7_code 32 = .ok (.iadd, 1) := by decide +kernel
theorem d12_33 : decode prog_9_method_7_code 33 = .ok (.iconst 3, 1) := by decide +kernel
theorem d12_34 : decode prog_9_method_7_code 34 = .ok (.idiv, 1) := by decide +kernel
theorem d12_35 : decode prog_9_method_7_code 35 = .ok (.istore 5, 2) := by decide +kernel
theorem d12_37 : decode prog_9_method_7_code 37 = .ok (.bipush 19, 2) := by decide +kernel
theorem d12_39 : decode prog_9_method_7_code 39 = .ok (.iload_n 1, 1) := by decide +kernel
theorem d12_40 : decode prog_9_method_7_code 40 = .ok (.imul, 1) := by decide +kernel
theorem d12_41 : decode prog_9_method_7_code 41 = .ok (.iload 4, 2) := by decide +kernel
theorem d12_43 : decode prog_9_method_7_code 43 = .ok (.iadd, 1) := by decide +kernel
theorem d12_44 : decode prog_9_method_7_code 44 = .ok (.iload 5, 2) := by decide +kernel
theorem d12_46 : decode prog_9_method_7_code 46 = .ok (.isub, 1) := by decide +kernel
theorem d12_47 : decode prog_9_method_7_code 47 = .ok (.bipush 15, 2) := by decide +kernel
theorem d12_49 : decode prog_9_method_7_code 49 = .ok (.iadd, 1) := by decide +kernel
theorem d12_50 : decode prog_9_method_7_code 50 = .ok (.bipush 30, 2) := by decide +kernel
theorem d12_52 : decode prog_9_method_7_code 52 = .ok (.irem, 1) := by decide +kernel
theorem d12_53 : decode prog_9_method_7_code 53 = .ok (.istore 6, 2) := by decide +kernel
theorem d12_55 : decode prog_9_method_7_code 55 = .ok (.bipush 32, 2) := by decide +kernel
theorem d12_57 : decode prog_9_method_7_code 57 = .ok (.iconst 2, 1) := by decide +kernel
theorem d12_58 : decode prog_9_method_7_code 58 = .ok (.iload_n 2, 1) := by decide +kernel
theorem d12_59 : decode prog_9_method_7_code 59 = .ok (.iconst 4, 1) := by decide +kernel
theorem d12_60 : decode prog_9_method_7_code 60 = .ok (.irem, 1) := by decide +kernel
theorem d12_61 : decode prog_9_method_7_code 61 = .ok (.imul, 1) := by decide +kernel
theorem d12_62 : decode prog_9_method_7_code 62 = .ok (.iadd, 1) := by decide +kernel
theorem d12_63 : decode prog_9_method_7_code 63 = .ok (.iconst 2, 1) := by decide +kernel
theorem d12_64 : decode prog_9_method_7_code 64 = .ok (.iload_n 3, 1) := by decide +kernel
theorem d12_65 : decode prog_9_method_7_code 65 = .ok (.iconst 4, 1) := by decide +kernel
theorem d12_66 : decode prog_9_method_7_code 66 = .ok (.idiv, 1) := by decide +kernel
theorem d12_67 : decode prog_9_method_7_code 67 = .ok (.imul, 1) := by decide +kernel
theorem d12_68 : decode prog_9_method_7_code 68 = .ok (.iadd, 1) := by decide +kernel
theorem d12_69 : decode prog_9_method_7_code 69 = .ok (.iload 6, 2) := by decide +kernel
theorem d12_71 : decode prog_9_method_7_code 71 = .ok (.isub, 1) := by decide +kernel
theorem d12_72 : decode prog_9_method_7_code 72 = .ok (.iload_n 3, 1) := by decide +kernel
theorem d12_73 : decode prog_9_method_7_code 73 = .ok (.iconst 4, 1) := by decide +kernel
theorem d12_74 : decode prog_9_method_7_code 74 = .ok (.irem, 1) := by decide +kernel
theorem d12_75 : decode prog_9_method_7_code 75 = .ok (.isub, 1) := by decide +kernel
theorem d12_76 : decode prog_9_method_7_code 76 = .ok (.bipush 7, 2) := by decide +kernel
theorem d12_78 : decode prog_9_method_7_code 78 = .ok (.irem, 1) := by decide +kernel
theorem d12_79 : decode prog_9_method_7_code 79 = .ok (.istore 7, 2) := by decide +kernel
theorem d12_81 : decode prog_9_method_7_code 81 = .ok (.iload_n 1, 1) := by decide +kernel
theorem d12_82 : decode prog_9_method_7_code 82 = .ok (.bipush 11, 2) := by decide +kernel
theorem d12_84 : decode prog_9_method_7_code 84 = .ok (.iload 6, 2) := by decide +kernel
theorem d12_86 : decode prog_9_method_7_code 86 = .ok (.imul, 1) := by decide +kernel
theorem d12_87 : decode prog_9_method_7_code 87 = .ok (.iadd, 1) := by decide +kernel
theorem d12_88 : decode prog_9_method_7_code 88 = .ok (.bipush 22, 2) := by decide +kernel
theorem d12_90 : decode prog_9_method_7_code 90 = .ok (.iload 7, 2) := by decide +kernel
theorem d12_92 : decode prog_9_method_7_code 92 = .ok (.imul, 1) := by decide +kernel
theorem d12_93 : decode prog_9_method_7_code 93 = .ok (.iadd, 1) := by decide +kernel
theorem d12_94 : decode prog_9_method_7_code 94 = .ok (.sipush 451, 3) := by decide +kernel
theorem d12_97 : decode prog_9_method_7_code 97 = .ok (.idiv, 1) := by decide +kernel
theorem d12_98 : decode prog_9_method_7_code 98 = .ok (.istore 8, 2) := by decide +kernel
theorem d12_100 : decode prog_9_method_7_code 100 = .ok (.iload_n 0, 1) := by decide +kernel
theorem d12_101 : decode prog_9_method_7_code 101 = .ok (.getstatic 85, 3) := by decide +kernel
theorem d12_104 : decode prog_9_method_7_code 104 = .ok (.bipush 22, 2) := by decide +kernel
theorem d12_106 : decode prog_9_method_7_code 106 = .ok (.invokestatic 91, 3) := by decide +kernel
theorem d12_109 : decode prog_9_method_7_code 109 = .ok (.iload 6, 2) := by decide +kernel
theorem d12_111 : decode prog_9_method_7_code 111 = .ok (.iload 7, 2) := by decide +kernel
theorem d12_113 : decode prog_9_method_7_code 113 = .ok (.iadd, 1) := by decide +kernel
theorem d12_114 : decode prog_9_method_7_code 114 = .ok (.i2l, 1) := by decide +kernel
theorem d12_115 : decode prog_9_method_7_code 115 = .ok (.ldc2_w 94, 3) := by decide +kernel
theorem d12_118 : decode prog_9_method_7_code 118 = .ok (.iload 8, 2) := by decide +kernel
theorem d12_120 : decode prog_9_method_7_code 120 = .ok (.i2l, 1) := by decide +kernel
theorem d12_121 : decode prog_9_method_7_code 121 = .ok (.lmul, 1) := by decide +kernel
theorem d12_122 : decode prog_9_method_7_code 122 = .ok (.lsub, 1) := by decide +kernel
theorem d12_123 : decode prog_9_method_7_code 123 = .ok (.invokevirtual 96, 3) := by decide +kernel
theorem d12_126 : decode prog_9_method_7_code 126 = .ok (.areturn, 1) := by decide +kernel
theorem pn_16 : plainName "com/example/hinta/hinta/Holiday" = true := by first | (simp [plainName, overriddenIn]; done) | decide +kernel
theorem pd_17 : parseMethodDescriptor "(ILjava/time/Month;I)Ljava/time/LocalDate;" = some ⟨[.int, (.object "java/time/Month"), .int], some (.object "java/time/LocalDate")⟩ := by decide +kernel
theorem pd_18 : parseMethodDescriptor "(J)Ljava/time/LocalDate;" = some ⟨[.long], some (.object "java/time/LocalDate")⟩ := by decide +kernel
theorem d20_0 : decode jdk_2323_method_70_code 0 = .ok (.aload_n 0, 1) := by decide +kernel
theorem d20_1 : decode jdk_2323_method_70_code 1 = .ok (.getfield 246, 3) := by decide +kernel
theorem d20_4 : decode jdk_2323_method_70_code 4 = .ok (.aload_n 1, 1) := by decide +kernel
theorem d20_5 : decode jdk_2323_method_70_code 5 = .ok (.getfield 246, 3) := by decide +kernel
theorem d20_8 : decode jdk_2323_method_70_code 8 = .ok (.isub, 1) := by decide +kernel
theorem d20_9 : decode jdk_2323_method_70_code 9 = .ok (.istore_n 2, 1) := by decide +kernel
theorem d20_10 : decode jdk_2323_method_70_code 10 = .ok (.iload_n 2, 1) := by decide +kernel
theorem d20_11 : decode jdk_2323_method_70_code 11 = .ok (.ifCond .ne 27, 3) := by decide +kernel
theorem d20_14 : decode jdk_2323_method_70_code 14 = .ok (.aload_n 0, 1) := by decide +kernel
theorem d20_15 : decode jdk_2323_method_70_code 15 = .ok (.getfield 250, 3) := by decide +kernel
theorem d20_18 : decode jdk_2323_method_70_code 18 = .ok (.aload_n 1, 1) := by decide +kernel
theorem d20_19 : decode jdk_2323_method_70_code 19 = .ok (.getfield 250, 3) := by decide +kernel
theorem d20_22 : decode jdk_2323_method_70_code 22 = .ok (.isub, 1) := by decide +kernel
theorem d20_23 : decode jdk_2323_method_70_code 23 = .ok (.istore_n 2, 1) := by decide +kernel
theorem d20_24 : decode jdk_2323_method_70_code 24 = .ok (.iload_n 2, 1) := by decide +kernel
theorem d20_25 : decode jdk_2323_method_70_code 25 = .ok (.ifCond .ne 13, 3) := by decide +kernel
theorem d20_28 : decode jdk_2323_method_70_code 28 = .ok (.aload_n 0, 1) := by decide +kernel
theorem d20_29 : decode jdk_2323_method_70_code 29 = .ok (.getfield 253, 3) := by decide +kernel
theorem d20_32 : decode jdk_2323_method_70_code 32 = .ok (.aload_n 1, 1) := by decide +kernel
theorem d20_33 : decode jdk_2323_method_70_code 33 = .ok (.getfield 253, 3) := by decide +kernel
theorem d20_36 : decode jdk_2323_method_70_code 36 = .ok (.isub, 1) := by decide +kernel
theorem d20_37 : decode jdk_2323_method_70_code 37 = .ok (.istore_n 2, 1) := by decide +kernel
theorem d20_38 : decode jdk_2323_method_70_code 38 = .ok (.iload_n 2, 1) := by decide +kernel
theorem d20_39 : decode jdk_2323_method_70_code 39 = .ok (.ireturn, 1) := by decide +kernel
theorem d19_0 : decode jdk_2323_method_74_code 0 = .ok (.aload_n 0, 1) := by decide +kernel
theorem d19_1 : decode jdk_2323_method_74_code 1 = .ok (.aload_n 1, 1) := by decide +kernel
theorem d19_2 : decode jdk_2323_method_74_code 2 = .ok (.if_acmp .ne 5, 3) := by decide +kernel
theorem d19_5 : decode jdk_2323_method_74_code 5 = .ok (.iconst 1, 1) := by decide +kernel
theorem d19_6 : decode jdk_2323_method_74_code 6 = .ok (.ireturn, 1) := by decide +kernel
theorem d19_7 : decode jdk_2323_method_74_code 7 = .ok (.aload_n 1, 1) := by decide +kernel
theorem d19_8 : decode jdk_2323_method_74_code 8 = .ok (.instanceof 1, 3) := by decide +kernel
theorem d19_11 : decode jdk_2323_method_74_code 11 = .ok (.ifCond .eq 20, 3) := by decide +kernel
theorem d19_14 : decode jdk_2323_method_74_code 14 = .ok (.aload_n 0, 1) := by decide +kernel
theorem d19_15 : decode jdk_2323_method_74_code 15 = .ok (.aload_n 1, 1) := by decide +kernel
theorem d19_16 : decode jdk_2323_method_74_code 16 = .ok (.checkcast 1, 3) := by decide +kernel
theorem d19_19 : decode jdk_2323_method_74_code 19 = .ok (.invokevirtual 679, 3) := by decide +kernel
theorem d19_22 : decode jdk_2323_method_74_code 22 = .ok (.ifCond .ne 7, 3) := by decide +kernel
theorem d19_25 : decode jdk_2323_method_74_code 25 = .ok (.iconst 1, 1) := by decide +kernel
theorem d19_26 : decode jdk_2323_method_74_code 26 = .ok (.goto 4, 3) := by decide +kernel
theorem d19_29 : decode jdk_2323_method_74_code 29 = .ok (.iconst 0, 1) := by decide +kernel
theorem d19_30 : decode jdk_2323_method_74_code 30 = .ok (.ireturn, 1) := by decide +kernel
theorem d19_31 : decode jdk_2323_method_74_code 31 = .ok (.iconst 0, 1) := by decide +kernel
theorem d19_32 : decode jdk_2323_method_74_code 32 = .ok (.ireturn, 1) := by decide +kernel
theorem pd_19 : parseMethodDescriptor "(Ljava/time/LocalDate;)I" = some ⟨[(.object "java/time/LocalDate")], some .int⟩ := by decide +kernel
theorem pd_20 : parseMethodDescriptor "(JJ)J" = some ⟨[.long, .long], some .long⟩ := by decide +kernel
theorem pd_21 : parseMethodDescriptor "(I)Ljava/time/LocalDate;" = some ⟨[.int], some (.object "java/time/LocalDate")⟩ := by decide +kernel
theorem pd_22 : parseMethodDescriptor "(Ljava/lang/Object;)Z" = some ⟨[(.object "java/lang/Object")], some .boolean⟩ := by decide +kernel
def own_mod (x m : Int64) : Int64 := if (x - x / m * m) < (0 : Int64) then (x - x / m * m) + m else (x - x / m * m)
def own_cy (y : Int32) : Int32 := y - y / (19 : Int32) * (19 : Int32)
def own_ce (y : Int32) : Int32 := y / (100 : Int32)
def own_yc (y : Int32) : Int32 := y - y / (100 : Int32) * (100 : Int32)
def own_wl (y : Int32) : Int32 := own_ce y - own_ce y / (4 : Int32)
def own_dr (y : Int32) : Int32 := ((own_ce y - (own_ce y + (8 : Int32)) / (25 : Int32)) + (1 : Int32)) / (3 : Int32)
def own_fa (y : Int32) : Int32 := (((19 : Int32) * own_cy y + own_wl y) - own_dr y) + (15 : Int32)
def own_fm (y : Int32) : Int32 := own_fa y - own_fa y / (30 : Int32) * (30 : Int32)
def own_ta (y : Int32) : Int32 := ((((32 : Int32) + (2 : Int32) * (own_ce y - own_ce y / (4 : Int32) * (4 : Int32))) + (2 : Int32) * (own_yc y / (4 : Int32))) - own_fm y) - (own_yc y - own_yc y / (4 : Int32) * (4 : Int32))
def own_ts (y : Int32) : Int32 := own_ta y - own_ta y / (7 : Int32) * (7 : Int32)
def own_we (y : Int32) : Int32 := ((own_cy y + (11 : Int32) * own_fm y) + (22 : Int32) * own_ts y) / (451 : Int32)
def own_days (y : Int32) : Int64 := (own_fm y + own_ts y).toInt64 - (7 : Int64) * (own_we y).toInt64
def own_lg (y : Int64) : Int64 := (y - y / (19 : Int64) * (19 : Int64)) + (1 : Int64)
def own_lc (y : Int64) : Int64 := y / (100 : Int64) + (1 : Int64)
def own_lx (y : Int64) : Int64 := ((3 : Int64) * own_lc y) / (4 : Int64) - (12 : Int64)
def own_lz (y : Int64) : Int64 := (((8 : Int64) * own_lc y) + (5 : Int64)) / (25 : Int64) - (5 : Int64)
def own_ld (y : Int64) : Int64 := (((5 : Int64) * y) / (4 : Int64) - own_lx y) - (10 : Int64)
def own_le0 (y : Int64) : Int64 := own_mod (((((11 : Int64) * own_lg y) + (20 : Int64)) + own_lz y) - own_lx y) (30 : Int64)
def own_le (y : Int64) : Int64 := if own_le0 y = (24 : Int64) then own_le0 y + (1 : Int64) else (if own_le0 y = (25 : Int64) then (if (11 : Int64) < own_lg y then own_le0 y + (1 : Int64) else own_le0 y) else own_le0 y)
def own_ln (y : Int64) : Int64 := if ((44 : Int64) - own_le y) < (21 : Int64) then ((44 : Int64) - own_le y) + (30 : Int64) else (44 : Int64) - own_le y
def own_n (y : Int64) : Int64 := (own_ln y + (7 : Int64)) - own_mod (own_ld y + own_ln y) (7 : Int64)
def own_mo (q : Int64) : Int32 := if (31 : Int32).toInt64 < (22 : Int32).toInt64 + q then 4 else 3
def own_da (q : Int64) : Int32 := if (31 : Int32).toInt64 < (22 : Int32).toInt64 + q then ((22 : Int32).toInt64 + q - (31 : Int32).toInt64).toInt32 else ((22 : Int32).toInt64 + q).toInt32
theorem own_d32 {x y : Int32} (hx : 0 ≤ x.toInt) (hy : 0 < y.toInt) : (x / y).toInt = x.toInt / y.toInt := by
  rw [Jvm.Kit.i32_div (by omega), Int.tdiv_eq_ediv_of_nonneg hx]
theorem own_d64 {x y : Int64} (hx : 0 ≤ x.toInt) (hy : 0 < y.toInt) : (x / y).toInt = x.toInt / y.toInt := by
  rw [Jvm.Kit.i64_div (by omega), Int.tdiv_eq_ediv_of_nonneg hx]
theorem own_mod_spec (x m : Int64) (hm : 0 < m.toInt) (hm2 : m.toInt < 1000) : (own_mod x m).toInt = x.toInt % m.toInt := by
  have z0 : (0 : Int64).toInt = 0 := by decide
  have e := Jvm.Kit.i64_rem x m
  have h1 := Int.tmod_lt_of_pos x.toInt hm
  have h2 : -m.toInt < x.toInt.tmod m.toInt := by
    have := Int.lt_tmod_of_pos x.toInt hm
    omega
  have h3 := Int.emod_nonneg x.toInt (b := m.toInt) (by omega)
  have h4 := Int.emod_lt_of_pos x.toInt hm
  have h5 : x.toInt.tmod m.toInt = x.toInt % m.toInt ∨ x.toInt.tmod m.toInt = x.toInt % m.toInt - m.toInt := by
    by_cases hx : 0 ≤ x.toInt
    · left; exact Int.tmod_eq_emod_of_nonneg hx
    · have := Int.tmod_eq_emod (a := x.toInt) (b := m.toInt)
      rw [this]; split
      · left; simp
      · right; rw [Int.natAbs_of_nonneg (by omega)]
  unfold own_mod
  by_cases hc : (x - x / m * m) < (0 : Int64)
  · rw [if_pos hc]
    rw [Int64.lt_iff_toInt_lt, e, z0] at hc
    rw [Jvm.Kit.i64_add (by rw [e]; omega) (by rw [e]; omega), e]
    omega
  · rw [if_neg hc]
    rw [Int64.lt_iff_toInt_lt, e, z0] at hc
    rw [e]; omega
theorem own_lits : (19 : Int32).toInt = 19 ∧ (100 : Int32).toInt = 100 ∧ (4 : Int32).toInt = 4 ∧ (8 : Int32).toInt = 8 ∧ (25 : Int32).toInt = 25 ∧ (1 : Int32).toInt = 1 ∧ (3 : Int32).toInt = 3 ∧ (15 : Int32).toInt = 15 ∧ (30 : Int32).toInt = 30 ∧ (32 : Int32).toInt = 32 ∧ (2 : Int32).toInt = 2 ∧ (7 : Int32).toInt = 7 ∧ (11 : Int32).toInt = 11 ∧ (22 : Int32).toInt = 22 ∧ (451 : Int32).toInt = 451 ∧ (31 : Int32).toInt = 31 := by decide
theorem own_litl : (19 : Int64).toInt = 19 ∧ (100 : Int64).toInt = 100 ∧ (4 : Int64).toInt = 4 ∧ (8 : Int64).toInt = 8 ∧ (25 : Int64).toInt = 25 ∧ (1 : Int64).toInt = 1 ∧ (3 : Int64).toInt = 3 ∧ (12 : Int64).toInt = 12 ∧ (30 : Int64).toInt = 30 ∧ (5 : Int64).toInt = 5 ∧ (10 : Int64).toInt = 10 ∧ (7 : Int64).toInt = 7 ∧ (11 : Int64).toInt = 11 ∧ (20 : Int64).toInt = 20 ∧ (24 : Int64).toInt = 24 ∧ (44 : Int64).toInt = 44 ∧ (21 : Int64).toInt = 21 ∧ (31 : Int64).toInt = 31 := by decide
set_option maxHeartbeats 8000000 in
/-- the program's numbers, as plain integers -/
theorem own_prog (y : Int32) (h0 : 0 ≤ y.toInt) (h1 : y.toInt < 1000000000) :
    (own_cy y).toInt = y.toInt % 19 ∧ (own_fm y).toInt = (19 * (y.toInt % 19) + (y.toInt / 100 - y.toInt / 100 / 4) - (y.toInt / 100 - (y.toInt / 100 + 8) / 25 + 1) / 3 + 15) % 30 ∧
    (own_ts y).toInt = (32 + 2 * (y.toInt / 100 % 4) + 2 * (y.toInt % 100 / 4) - (own_fm y).toInt - y.toInt % 100 % 4) % 7 ∧
    (own_days y).toInt = (own_fm y).toInt + (own_ts y).toInt - 7 * (((own_cy y).toInt + 11 * (own_fm y).toInt + 22 * (own_ts y).toInt) / 451) := by
  obtain ⟨l19, l100, l4, l8, l25, l1, l3, l15, l30, l32, l2, l7, l11, l22, l451, l31⟩ := own_lits
  have m7 : (7 : Int64).toInt = 7 := by decide
  have ecy : (own_cy y).toInt = y.toInt % 19 := by unfold own_cy; rw [own_rem32n h0, l19]
  have ece : (own_ce y).toInt = y.toInt / 100 := by unfold own_ce; rw [own_d32 h0 (by omega), l100]
  have eyc : (own_yc y).toInt = y.toInt % 100 := by unfold own_yc; rw [own_rem32n h0, l100]
  have bce : 0 ≤ (own_ce y).toInt := by omega
  have e4 : (own_ce y / 4).toInt = (own_ce y).toInt / 4 := by rw [own_d32 bce (by omega), l4]
  have ewl : (own_wl y).toInt = (own_ce y).toInt - (own_ce y).toInt / 4 := by unfold own_wl; rw [Jvm.Kit.i32_sub (by omega) (by omega), e4]
  have e8 : (own_ce y + 8).toInt = (own_ce y).toInt + 8 := by rw [Jvm.Kit.i32_add (by omega) (by omega), l8]
  have e25 : ((own_ce y + 8) / 25).toInt = ((own_ce y).toInt + 8) / 25 := by rw [own_d32 (by omega) (by omega), e8, l25]
  have ed1 : (own_ce y - (own_ce y + 8) / 25).toInt = (own_ce y).toInt - ((own_ce y).toInt + 8) / 25 := by rw [Jvm.Kit.i32_sub (by omega) (by omega), e25]
  have ed2 : (own_ce y - (own_ce y + 8) / 25 + 1).toInt = (own_ce y).toInt - ((own_ce y).toInt + 8) / 25 + 1 := by rw [Jvm.Kit.i32_add (by omega) (by omega), ed1, l1]
  have edr : (own_dr y).toInt = ((own_ce y).toInt - ((own_ce y).toInt + 8) / 25 + 1) / 3 := by unfold own_dr; rw [own_d32 (by omega) (by omega), ed2, l3]
  have ef1 : ((19 : Int32) * own_cy y).toInt = 19 * (own_cy y).toInt := by rw [Jvm.Kit.i32_mul (by rw [l19]; omega) (by rw [l19]; omega), l19]
  have ef2 : ((19 : Int32) * own_cy y + own_wl y).toInt = 19 * (own_cy y).toInt + (own_wl y).toInt := by rw [Jvm.Kit.i32_add (by omega) (by omega), ef1]
  have ef3 : ((19 : Int32) * own_cy y + own_wl y - own_dr y).toInt = 19 * (own_cy y).toInt + (own_wl y).toInt - (own_dr y).toInt := by rw [Jvm.Kit.i32_sub (by omega) (by omega), ef2]
  have efa : (own_fa y).toInt = 19 * (own_cy y).toInt + (own_wl y).toInt - (own_dr y).toInt + 15 := by unfold own_fa; rw [Jvm.Kit.i32_add (by omega) (by omega), ef3, l15]
  have efm : (own_fm y).toInt = (own_fa y).toInt % 30 := by unfold own_fm; rw [own_rem32n (by omega), l30]
  have et1 : (own_ce y - own_ce y / 4 * 4).toInt = (own_ce y).toInt % 4 := by rw [own_rem32n bce, l4]
  have et2 : ((2 : Int32) * (own_ce y - own_ce y / 4 * 4)).toInt = 2 * ((own_ce y).toInt % 4) := by rw [Jvm.Kit.i32_mul (by rw [l2]; omega) (by rw [l2]; omega), et1, l2]
  have et3 : ((32 : Int32) + 2 * (own_ce y - own_ce y / 4 * 4)).toInt = 32 + 2 * ((own_ce y).toInt % 4) := by rw [Jvm.Kit.i32_add (by omega) (by omega), et2, l32]
  have et4 : (own_yc y / 4).toInt = (own_yc y).toInt / 4 := by rw [own_d32 (by omega) (by omega), l4]
  have et5 : ((2 : Int32) * (own_yc y / 4)).toInt = 2 * ((own_yc y).toInt / 4) := by rw [Jvm.Kit.i32_mul (by rw [l2]; omega) (by rw [l2]; omega), et4, l2]
  have et6 : ((32 : Int32) + 2 * (own_ce y - own_ce y / 4 * 4) + 2 * (own_yc y / 4)).toInt = 32 + 2 * ((own_ce y).toInt % 4) + 2 * ((own_yc y).toInt / 4) := by rw [Jvm.Kit.i32_add (by omega) (by omega), et3, et5]
  have et7 : ((32 : Int32) + 2 * (own_ce y - own_ce y / 4 * 4) + 2 * (own_yc y / 4) - own_fm y).toInt = 32 + 2 * ((own_ce y).toInt % 4) + 2 * ((own_yc y).toInt / 4) - (own_fm y).toInt := by rw [Jvm.Kit.i32_sub (by omega) (by omega), et6]
  have et8 : (own_yc y - own_yc y / 4 * 4).toInt = (own_yc y).toInt % 4 := by rw [own_rem32n (by omega), l4]
  have eta : (own_ta y).toInt = 32 + 2 * ((own_ce y).toInt % 4) + 2 * ((own_yc y).toInt / 4) - (own_fm y).toInt - (own_yc y).toInt % 4 := by unfold own_ta; rw [Jvm.Kit.i32_sub (by omega) (by omega), et7, et8]
  have ets : (own_ts y).toInt = (own_ta y).toInt % 7 := by unfold own_ts; rw [own_rem32n (by omega), l7]
  have ew1 : ((11 : Int32) * own_fm y).toInt = 11 * (own_fm y).toInt := by rw [Jvm.Kit.i32_mul (by rw [l11]; omega) (by rw [l11]; omega), l11]
  have ew2 : (own_cy y + (11 : Int32) * own_fm y).toInt = (own_cy y).toInt + 11 * (own_fm y).toInt := by rw [Jvm.Kit.i32_add (by omega) (by omega), ew1]
  have ew3 : ((22 : Int32) * own_ts y).toInt = 22 * (own_ts y).toInt := by rw [Jvm.Kit.i32_mul (by rw [l22]; omega) (by rw [l22]; omega), l22]
  have ew4 : (own_cy y + (11 : Int32) * own_fm y + (22 : Int32) * own_ts y).toInt = (own_cy y).toInt + 11 * (own_fm y).toInt + 22 * (own_ts y).toInt := by rw [Jvm.Kit.i32_add (by omega) (by omega), ew2, ew3]
  have ewe : (own_we y).toInt = ((own_cy y).toInt + 11 * (own_fm y).toInt + 22 * (own_ts y).toInt) / 451 := by unfold own_we; rw [own_d32 (by omega) (by omega), ew4, l451]
  have ey1 : (own_fm y + own_ts y).toInt = (own_fm y).toInt + (own_ts y).toInt := Jvm.Kit.i32_add (by omega) (by omega)
  have ey2 : ((own_fm y + own_ts y).toInt64).toInt = (own_fm y).toInt + (own_ts y).toInt := by rw [Jvm.Kit.i64_of_i32, ey1]
  have ey3 : ((7 : Int64) * (own_we y).toInt64).toInt = 7 * (own_we y).toInt := by rw [Jvm.Kit.i64_mul (by rw [Jvm.Kit.i64_of_i32, m7]; omega) (by rw [Jvm.Kit.i64_of_i32, m7]; omega), Jvm.Kit.i64_of_i32, m7]
  have ed : (own_days y).toInt = (own_fm y).toInt + (own_ts y).toInt - 7 * (own_we y).toInt := by unfold own_days; rw [Jvm.Kit.i64_sub (by omega) (by omega), ey2, ey3]
  refine ⟨ecy, by rw [efm, efa, ecy, ewl, edr, ece], by rw [ets, eta, ece, eyc], by rw [ed, ewe]⟩
set_option maxHeartbeats 8000000 in
/-- the law's numbers -/
theorem own_lawn (y : Int64) (h0 : 0 ≤ y.toInt) (h1 : y.toInt < 1000000000) :
    ∃ e0 e n1 : Int, e0 = (11 * (y.toInt % 19 + 1) + 20 + ((8 * (y.toInt / 100 + 1) + 5) / 25 - 5) - (3 * (y.toInt / 100 + 1) / 4 - 12)) % 30 ∧ (e = if e0 = 24 then e0 + 1 else if e0 = 25 then (if 11 < y.toInt % 19 + 1 then e0 + 1 else e0) else e0) ∧
      (n1 = if 44 - e < 21 then 44 - e + 30 else 44 - e) ∧ (own_n y).toInt = n1 + 7 - (5 * y.toInt / 4 - (3 * (y.toInt / 100 + 1) / 4 - 12) - 10 + n1) % 7 := by
  obtain ⟨l19, l100, l4, l8, l25, l1, l3, l12, l30, l5, l10, l7, l11, l20, l24, l44, l21, l31⟩ := own_litl
  have eg0 : (y - y / 19 * 19).toInt = y.toInt % 19 := by rw [Jvm.Kit.i64_rem_nonneg h0, l19]
  have eg : (own_lg y).toInt = y.toInt % 19 + 1 := by unfold own_lg; rw [Jvm.Kit.i64_add (by omega) (by omega), eg0, l1]
  have ec0 : (y / 100).toInt = y.toInt / 100 := by rw [own_d64 h0 (by omega), l100]
  have ec : (own_lc y).toInt = y.toInt / 100 + 1 := by unfold own_lc; rw [Jvm.Kit.i64_add (by omega) (by omega), ec0, l1]
  have ex0 : ((3 : Int64) * own_lc y).toInt = 3 * (own_lc y).toInt := by rw [Jvm.Kit.i64_mul (by rw [l3]; omega) (by rw [l3]; omega), l3]
  have ex1 : ((3 : Int64) * own_lc y / 4).toInt = 3 * (own_lc y).toInt / 4 := by rw [own_d64 (by omega) (by omega), ex0, l4]
  have ex : (own_lx y).toInt = 3 * (own_lc y).toInt / 4 - 12 := by unfold own_lx; rw [Jvm.Kit.i64_sub (by omega) (by omega), ex1, l12]
  have ez0 : ((8 : Int64) * own_lc y).toInt = 8 * (own_lc y).toInt := by rw [Jvm.Kit.i64_mul (by rw [l8]; omega) (by rw [l8]; omega), l8]
  have ez1 : ((8 : Int64) * own_lc y + 5).toInt = 8 * (own_lc y).toInt + 5 := by rw [Jvm.Kit.i64_add (by omega) (by omega), ez0, l5]
  have ez2 : (((8 : Int64) * own_lc y + 5) / 25).toInt = (8 * (own_lc y).toInt + 5) / 25 := by rw [own_d64 (by omega) (by omega), ez1, l25]
  have ez : (own_lz y).toInt = (8 * (own_lc y).toInt + 5) / 25 - 5 := by unfold own_lz; rw [Jvm.Kit.i64_sub (by omega) (by omega), ez2, l5]
  have ed0 : ((5 : Int64) * y).toInt = 5 * y.toInt := by rw [Jvm.Kit.i64_mul (by rw [l5]; omega) (by rw [l5]; omega), l5]
  have ed1 : ((5 : Int64) * y / 4).toInt = 5 * y.toInt / 4 := by rw [own_d64 (by omega) (by omega), ed0, l4]
  have ed2 : ((5 : Int64) * y / 4 - own_lx y).toInt = 5 * y.toInt / 4 - (own_lx y).toInt := by rw [Jvm.Kit.i64_sub (by omega) (by omega), ed1]
  have ed : (own_ld y).toInt = 5 * y.toInt / 4 - (own_lx y).toInt - 10 := by unfold own_ld; rw [Jvm.Kit.i64_sub (by omega) (by omega), ed2, l10]
  have ee0 : ((11 : Int64) * own_lg y).toInt = 11 * (own_lg y).toInt := by rw [Jvm.Kit.i64_mul (by rw [l11]; omega) (by rw [l11]; omega), l11]
  have ee1 : ((11 : Int64) * own_lg y + 20).toInt = 11 * (own_lg y).toInt + 20 := by rw [Jvm.Kit.i64_add (by omega) (by omega), ee0, l20]
  have ee2 : ((11 : Int64) * own_lg y + 20 + own_lz y).toInt = 11 * (own_lg y).toInt + 20 + (own_lz y).toInt := by rw [Jvm.Kit.i64_add (by omega) (by omega), ee1]
  have ee3 : ((11 : Int64) * own_lg y + 20 + own_lz y - own_lx y).toInt = 11 * (own_lg y).toInt + 20 + (own_lz y).toInt - (own_lx y).toInt := by rw [Jvm.Kit.i64_sub (by omega) (by omega), ee2]
  have ee : (own_le0 y).toInt = (11 * (own_lg y).toInt + 20 + (own_lz y).toInt - (own_lx y).toInt) % 30 := by unfold own_le0; rw [own_mod_spec _ _ (by omega) (by omega), ee3, l30]
  have ee5 : (own_le0 y + 1).toInt = (own_le0 y).toInt + 1 := by rw [Jvm.Kit.i64_add (by omega) (by omega), l1]
  have el : (own_le y).toInt = if (own_le0 y).toInt = 24 then (own_le0 y).toInt + 1 else if (own_le0 y).toInt = 25 then (if 11 < (own_lg y).toInt then (own_le0 y).toInt + 1 else (own_le0 y).toInt) else (own_le0 y).toInt := by
    have c1 : (own_le0 y = 24) ↔ (own_le0 y).toInt = 24 := by rw [← Int64.toInt_inj, l24]
    have c2 : (own_le0 y = 25) ↔ (own_le0 y).toInt = 25 := by rw [← Int64.toInt_inj, l25]
    have c3 : ((11 : Int64) < own_lg y) ↔ 11 < (own_lg y).toInt := by rw [Int64.lt_iff_toInt_lt, l11]
    unfold own_le
    by_cases h24 : own_le0 y = 24
    · rw [if_pos h24, if_pos (c1.mp h24), ee5]
    · rw [if_neg h24, if_neg (mt c1.mpr h24)]
      by_cases h25 : own_le0 y = 25
      · rw [if_pos h25, if_pos (c2.mp h25)]
        by_cases h11 : (11 : Int64) < own_lg y
        · rw [if_pos h11, if_pos (c3.mp h11), ee5]
        · rw [if_neg h11, if_neg (mt c3.mpr h11)]
      · rw [if_neg h25, if_neg (mt c2.mpr h25)]
  have bl : 0 ≤ (own_le y).toInt ∧ (own_le y).toInt ≤ 30 := by rw [el]; split; omega; split; split <;> omega; omega
  have en0 : ((44 : Int64) - own_le y).toInt = 44 - (own_le y).toInt := by rw [Jvm.Kit.i64_sub (by omega) (by omega), l44]
  have en1 : (own_ln y).toInt = if 44 - (own_le y).toInt < 21 then 44 - (own_le y).toInt + 30 else 44 - (own_le y).toInt := by
    have c1 : ((44 : Int64) - own_le y < 21) ↔ 44 - (own_le y).toInt < 21 := by rw [Int64.lt_iff_toInt_lt, en0, l21]
    unfold own_ln
    by_cases hc : (44 : Int64) - own_le y < 21
    · rw [if_pos hc, if_pos (c1.mp hc), Jvm.Kit.i64_add (by omega) (by omega), en0, l30]
    · rw [if_neg hc, if_neg (mt c1.mpr hc), en0]
  have bn : 0 ≤ (own_ln y).toInt ∧ (own_ln y).toInt ≤ 80 := by rw [en1]; split <;> omega
  have en2 : (own_ln y + 7).toInt = (own_ln y).toInt + 7 := by rw [Jvm.Kit.i64_add (by omega) (by omega), l7]
  have en3 : (own_ld y + own_ln y).toInt = (own_ld y).toInt + (own_ln y).toInt := Jvm.Kit.i64_add (by omega) (by omega)
  have en4 : (own_mod (own_ld y + own_ln y) 7).toInt = ((own_ld y).toInt + (own_ln y).toInt) % 7 := by rw [own_mod_spec _ _ (by omega) (by omega), en3, l7]
  have en : (own_n y).toInt = (own_ln y).toInt + 7 - ((own_ld y).toInt + (own_ln y).toInt) % 7 := by unfold own_n; rw [Jvm.Kit.i64_sub (by omega) (by omega), en2, en4]
  refine ⟨(own_le0 y).toInt, (own_le y).toInt, (own_ln y).toInt, ?_, ?_, en1, ?_⟩
  · rw [ee, eg, ez, ex, ec]
  · rw [el, eg]
  · rw [en, ed, ex, ec]
/-- the plain law: both reckonings give the same day -/
theorem own_plain (Y e0 e n1 n fm ts : Int) (hY : 0 ≤ Y) (he0 : e0 = (11 * (Y % 19 + 1) + 20 + ((8 * (Y / 100 + 1) + 5) / 25 - 5) - (3 * (Y / 100 + 1) / 4 - 12)) % 30)
    (he : e = if e0 = 24 then e0 + 1 else if e0 = 25 then (if 11 < Y % 19 + 1 then e0 + 1 else e0) else e0) (hn1 : n1 = if 44 - e < 21 then 44 - e + 30 else 44 - e)
    (hn : n = n1 + 7 - (5 * Y / 4 - (3 * (Y / 100 + 1) / 4 - 12) - 10 + n1) % 7)
    (hfm : fm = (19 * (Y % 19) + (Y / 100 - Y / 100 / 4) - (Y / 100 - (Y / 100 + 8) / 25 + 1) / 3 + 15) % 30)
    (hts : ts = (32 + 2 * (Y / 100 % 4) + 2 * (Y % 100 / 4) - fm - Y % 100 % 4) % 7) :
    n = 22 + (fm + ts - 7 * ((Y % 19 + 11 * fm + 22 * ts) / 451)) ∧ 22 ≤ n ∧ n ≤ 57 := by
  have hwl : 3 * (Y / 100 + 1) / 4 = Y / 100 - Y / 100 / 4 := by omega
  have hdr : (8 * (Y / 100 + 1) + 5) / 25 = (Y / 100 - (Y / 100 + 8) / 25 + 1) / 3 := by omega
  rw [hwl, hdr] at he0
  rw [hwl] at hn
  have hY5 : 5 * Y / 4 = 125 * (Y / 100) + (Y % 100) + Y % 100 / 4 := by omega
  rw [hY5] at hn
  have bcy : 0 ≤ Y % 19 ∧ Y % 19 ≤ 18 := by omega
  generalize Y % 19 = cy at *
  generalize (Y / 100 - (Y / 100 + 8) / 25 + 1) / 3 = dr at *
  have byc : 0 ≤ Y % 100 := by omega
  generalize Y / 100 = ce at *
  generalize Y % 100 = yc at *
  clear hwl hdr hY5
  have bfm : 0 ≤ fm ∧ fm < 30 := by omega
  have bts : 0 ≤ ts ∧ ts < 7 := by omega
  have hsum : e0 = 23 - fm ∨ e0 = 53 - fm := by omega
  have be0 : 0 ≤ e0 ∧ e0 < 30 := by omega
  -- n1 = 21 + fm - adj
  have hadj : (n1 = 20 + fm ∧ (fm = 29 ∨ fm = 28 ∧ 11 ≤ cy)) ∨ (n1 = 21 + fm ∧ ¬ (fm = 29 ∨ fm = 28 ∧ 11 ≤ cy)) := by
    rw [hn1, he]
    by_cases c1 : e0 = 24
    · rw [if_pos c1]; rw [if_pos (by omega)]; omega
    · rw [if_neg c1]
      by_cases c2 : e0 = 25
      · rw [if_pos c2]
        by_cases c3 : 11 < cy + 1
        · rw [if_pos c3, if_pos (by omega)]; omega
        · rw [if_neg c3, if_pos (by omega)]; omega
      · rw [if_neg c2]
        by_cases c4 : 44 - e0 < 21
        · rw [if_pos c4]; omega
        · rw [if_neg c4]; omega
  have hA : (125 * ce + yc + yc / 4 - (ce - ce / 4 - 12) - 10 + 21 + fm) % 7 = 6 - ts := by omega
  rcases hadj with ⟨h1, h2⟩ | ⟨h1, h2⟩
  · rw [h1] at hn
    have hB : (125 * ce + yc + yc / 4 - (ce - ce / 4 - 12) - 10 + (20 + fm)) % 7 = (5 - ts) % 7 := by omega
    rw [hB] at hn
    clear hA hB he0 he hn1 hts hfm hsum be0 h1
    rcases h2 with h2 | ⟨h2, h3⟩
    · subst h2; omega
    · subst h2; omega
  · rw [h1] at hn
    have hB : (125 * ce + yc + yc / 4 - (ce - ce / 4 - 12) - 10 + (21 + fm)) % 7 = 6 - ts := by omega
    rw [hB] at hn
    clear hA hB he0 he hn1 hts hfm hsum be0 h1
    omega
theorem own_easter (y : Int32) (h0 : 0 ≤ y.toInt) (h1 : y.toInt < 1000000000) : (own_n y.toInt64).toInt = 22 + (own_days y).toInt ∧ 22 ≤ (own_n y.toInt64).toInt ∧ (own_n y.toInt64).toInt ≤ 57 := by
  have e := Jvm.Kit.i64_of_i32 y
  obtain ⟨p1, p2, p3, p4⟩ := own_prog y h0 h1
  obtain ⟨e0, e', n1, q1, q2, q3, q4⟩ := own_lawn y.toInt64 (by omega) (by omega)
  rw [e] at q1 q2 q4
  have := own_plain y.toInt e0 e' n1 _ _ _ h0 q1 q2 q3 q4 p2 p3
  rw [p4, p1]; exact this
theorem own_wS {Z : State} {a0 : Array Value} (hw : ∀ d ∈ tables_1, d.before a0 Z = true) : ∀ a ∈ Bundle.stringAtoms, a.before a0 Z = true := by
  intro d hd
  simp only [Bundle.stringAtoms, List.mem_cons, List.not_mem_nil, or_false] at hd
  rcases hd with rfl | rfl | rfl | rfl | rfl | rfl | rfl
  · first | exact (wd hw 96 rfl) | exact (wd hw 97 rfl) | exact (wd hw 98 rfl) | exact (wd hw 99 rfl) | exact (wd hw 100 rfl) | exact (wd hw 101 rfl) | exact (wd hw 102 rfl)
  · first | exact (wd hw 96 rfl) | exact (wd hw 97 rfl) | exact (wd hw 98 rfl) | exact (wd hw 99 rfl) | exact (wd hw 100 rfl) | exact (wd hw 101 rfl) | exact (wd hw 102 rfl)
  · first | exact (wd hw 96 rfl) | exact (wd hw 97 rfl) | exact (wd hw 98 rfl) | exact (wd hw 99 rfl) | exact (wd hw 100 rfl) | exact (wd hw 101 rfl) | exact (wd hw 102 rfl)
  · first | exact (wd hw 96 rfl) | exact (wd hw 97 rfl) | exact (wd hw 98 rfl) | exact (wd hw 99 rfl) | exact (wd hw 100 rfl) | exact (wd hw 101 rfl) | exact (wd hw 102 rfl)
  · first | exact (wd hw 96 rfl) | exact (wd hw 97 rfl) | exact (wd hw 98 rfl) | exact (wd hw 99 rfl) | exact (wd hw 100 rfl) | exact (wd hw 101 rfl) | exact (wd hw 102 rfl)
  · first | exact (wd hw 96 rfl) | exact (wd hw 97 rfl) | exact (wd hw 98 rfl) | exact (wd hw 99 rfl) | exact (wd hw 100 rfl) | exact (wd hw 101 rfl) | exact (wd hw 102 rfl)
  · first | exact (wd hw 96 rfl) | exact (wd hw 97 rfl) | exact (wd hw 98 rfl) | exact (wd hw 99 rfl) | exact (wd hw 100 rfl) | exact (wd hw 101 rfl) | exact (wd hw 102 rfl)
theorem own_shs {x : Int32} (h0 : 0 ≤ x.toInt) (h1 : x.toInt < 1000) : nar .short (x.toInt16.toInt32) = x := by
  have e1 : x.toInt16.toInt = x.toInt := by rw [Int32.toInt_toInt16]; rw [Int.bmod_def]; omega
  have e2 : (x.toInt16.toInt32).toInt = x.toInt := by rw [Int16.toInt_toInt32, e1]
  have e3 : x.toInt16.toInt32 = x := Int32.toInt_inj.mp e2
  show (x.toInt16.toInt32).toInt16.toInt32 = x
  rw [e3]; exact e3
theorem own_s3 : nar .short ((3 : Int32).toInt16.toInt32) = 3 := by decide
theorem own_s4 : nar .short ((4 : Int32).toInt16.toInt32) = 4 := by decide
theorem own_s34 : nar .short (((3 : Int32) + (1 : Int32)).toInt16.toInt32) = 4 := by decide
theorem own_s22 : nar .short ((22 : Int32).toInt16.toInt32) = 22 := by decide
theorem ef_1 (m : MethodId) (x0 : Int64) (x1 : Int64) : entryFrame m #[(.long x0), (.long x1)] 6 = mkF m 0 #[.val (.long x0), .second, .val (.long x1), .second, .unset, .unset] [] := by first | (simp [entryFrame, mkF, argsToLocals, Value.category]; done) | rfl
def Q1 (Z : State) (q1 : Int64) (q2 : Int64) (h0 : Heap) (n0 : Nat) (v : Option Value) (h : Heap) (L : List Loc) : Prop := v = some (.long (own_mod q1 q2)) ∧ Fr n0 L ∧ h = h0
set_option maxRecDepth 65536 in
set_option maxHeartbeats 40000000 in
theorem rm1 (l : Launch) (Z : State) (a0 : Array Value) (hw : ∀ d ∈ tables_1, d.before a0 Z = true) (ws : List Jvm.Cond) (q1 : Int64) (q2 : Int64) (h0 : Heap) (n0 : Nat) (Z0 : n0 ≤ h0.size) (hm : q2 ≠ 0) :
    MetFree l (⟨"com/example/hinta/hinta/HolidayEasterSundayPinLaw", "mod", "(JJ)J"⟩ : MethodName) (head1 (Jvm.Cond.code (⟨"com/example/hinta/hinta/HolidayEasterSundayPinLaw", "mod", "(JJ)J"⟩ : MethodName) method_2_code 6 (some .long) :: ws) ({ frames := 0, cells := 0, slots := 0, locals := 0 } : Room)) (fun a U => a = #[(.long q1), (.long q2)] ∧ Z.Warmed39 U.vm ∧ U.heap = h0) (fun _ _ _ _ _ => True) (fun _ U o U' => ∃ v L, o = .returned v ∧ Q1 Z q1 q2 h0 n0 v U'.heap L ∧ FrameEnd U o U' L ({ frames := 0, cells := 0, slots := 0, locals := 0 } : Room).cells ({ frames := 0, cells := 0, slots := 0, locals := 0 } : Room).slots) := by
  refine MetFree.of_bodySF (plainFor_of_name pn_0) hisR ?_
  intro p e s m args below meth c s₁ Bd hml0 hP hK
  obtain ⟨rfl, hZ, hh⟩ := hP
  have hx := Bd.exec
  have hby := Bd.bytes
  have hml : c.maxLocals = 6 := hml0
  have hown : s.vm.findClass "com/example/hinta/hinta/HolidayEasterSundayPinLaw" = some m.cls := findClass_of_methodNamed Bd.named
  have hnm := (name_of_methodNamed Bd.named Bd.method).1
  have hlocks : meth.locks = false := BodyLoose.notSynchronized Bd
  have X0 : Stand p l e ({ frames := 0, cells := 0, slots := 0, locals := 0 } : Room) s m #[(.long q1), (.long q2)] below meth c s₁ [] 0 0 := Stand.of_body Bd
  have e0 : s₁.heap = h0 := by rw [← hh, Bd.state]; rfl
  have N0 := Fr.nil n0
  show Goes p e below (s₁.setTop (entryFrame m #[(.long q1), (.long q2)] 6)) (Fin s (Q1 Z q1 q2 h0 n0) ({ frames := 0, cells := 0, slots := 0, locals := 0 } : Room).cells ({ frames := 0, cells := 0, slots := 0, locals := 0 } : Room).slots)
  refine Goes.of (fun t k => castTop (ef_1 m q1 q2) k) ?_
  show Goes p e below (s₁.setTop (mkF m 0 #[.val (.long q1), .second, .val (.long q2), .second, .unset, .unset] [])) _
  refine Goes.of (fun t k => XS.lloadN X0.here hx rfl (hb hby d1_0) rfl k) ?_
  show Goes p e below (s₁.setTop (mkF m 1 #[.val (.long q1), .second, .val (.long q2), .second, .unset, .unset] [(.long q1)])) _
  refine Goes.of (fun t k => XS.lloadN X0.here hx rfl (hb hby d1_1) rfl k) ?_
  show Goes p e below (s₁.setTop (mkF m 2 #[.val (.long q1), .second, .val (.long q2), .second, .unset, .unset] [(.long q2), (.long q1)])) _
  refine Goes.of (fun t k => XS.lrem X0.here hx rfl (hb hby d1_2) rfl hm k) ?_
  show Goes p e below (s₁.setTop (mkF m 3 #[.val (.long q1), .second, .val (.long q2), .second, .unset, .unset] [(.long (q1 - q1 / q2 * q2))])) _
  refine Goes.of (fun t k => XS.lstore X0.here hx rfl (hb hby d1_3) rfl (l' := #[.val (.long q1), .second, .val (.long q2), .second, .val (.long (q1 - q1 / q2 * q2)), .second]) rfl k) ?_
  show Goes p e below (s₁.setTop (mkF m 5 #[.val (.long q1), .second, .val (.long q2), .second, .val (.long (q1 - q1 / q2 * q2)), .second] [])) _
  refine Goes.of (fun t k => XS.lload X0.here hx rfl (hb hby d1_5) rfl k) ?_
  show Goes p e below (s₁.setTop (mkF m 7 #[.val (.long q1), .second, .val (.long q2), .second, .val (.long (q1 - q1 / q2 * q2)), .second] [(.long (q1 - q1 / q2 * q2))])) _
  refine Goes.of (fun t k => XS.lconst X0.here hx rfl (hb hby d1_7) k) ?_
  show Goes p e below (s₁.setTop (mkF m 8 #[.val (.long q1), .second, .val (.long q2), .second, .val (.long (q1 - q1 / q2 * q2)), .second] [(.long (0 : Int64)), (.long (q1 - q1 / q2 * q2))])) _
  refine Goes.of (fun t k => XS.lcmp X0.here hx rfl (hb hby d1_8) rfl k) ?_
  show Goes p e below (s₁.setTop (mkF m 9 #[.val (.long q1), .second, .val (.long q2), .second, .val (.long (q1 - q1 / q2 * q2)), .second] [(.int (lcmpW (q1 - q1 / q2 * q2) (0 : Int64)))])) _
  by_cases hc9_1 : (q1 - q1 / q2 * q2) < (0 : Int64)
  · refine Goes.of (fun t k => XS.ifNo X0.here hx rfl (hb hby d1_9) rfl ((if0 _ _).trans (tlt ((lw_lt _ _).mpr hc9_1)).2.1) k) ?_
    show Goes p e below (s₁.setTop (mkF m 12 #[.val (.long q1), .second, .val (.long q2), .second, .val (.long (q1 - q1 / q2 * q2)), .second] [])) _
    refine Goes.of (fun t k => XS.lload X0.here hx rfl (hb hby d1_12) rfl k) ?_
    show Goes p e below (s₁.setTop (mkF m 14 #[.val (.long q1), .second, .val (.long q2), .second, .val (.long (q1 - q1 / q2 * q2)), .second] [(.long (q1 - q1 / q2 * q2))])) _
    refine Goes.of (fun t k => XS.lloadN X0.here hx rfl (hb hby d1_14) rfl k) ?_
    show Goes p e below (s₁.setTop (mkF m 15 #[.val (.long q1), .second, .val (.long q2), .second, .val (.long (q1 - q1 / q2 * q2)), .second] [(.long q2), (.long (q1 - q1 / q2 * q2))])) _
    refine Goes.of (fun t k => XS.ladd X0.here hx rfl (hb hby d1_15) rfl k) ?_
    show Goes p e below (s₁.setTop (mkF m 16 #[.val (.long q1), .second, .val (.long q2), .second, .val (.long (q1 - q1 / q2 * q2)), .second] [(.long ((q1 - q1 / q2 * q2) + q2))])) _
    refine Goes.of (fun t k => XS.goto X0.here hx rfl (pc0 := 16) (pc' := 21) rfl (hb hby d1_16) (by decide) (by decide) k) ?_
    show Goes p e below (s₁.setTop (mkF m 21 #[.val (.long q1), .second, .val (.long q2), .second, .val (.long (q1 - q1 / q2 * q2)), .second] [(.long ((q1 - q1 / q2 * q2) + q2))])) _
    exact Goes.retJ X0 hx Bd.returns hlocks (hb hby d1_21) (⟨by rw [own_mod, if_pos hc9_1], N0, e0⟩) (by decide) (by decide)
  · refine Goes.of (fun t k => XS.ifYes X0.here hx rfl (pc0 := 9) (pc' := 19) rfl (hb hby d1_9) rfl ((if0 _ _).trans (flt (mt (lw_lt _ _).mp hc9_1)).2.1) (by decide) (by decide) k) ?_
    show Goes p e below (s₁.setTop (mkF m 19 #[.val (.long q1), .second, .val (.long q2), .second, .val (.long (q1 - q1 / q2 * q2)), .second] [])) _
    refine Goes.of (fun t k => XS.lload X0.here hx rfl (hb hby d1_19) rfl k) ?_
    show Goes p e below (s₁.setTop (mkF m 21 #[.val (.long q1), .second, .val (.long q2), .second, .val (.long (q1 - q1 / q2 * q2)), .second] [(.long (q1 - q1 / q2 * q2))])) _
    exact Goes.retJ X0 hx Bd.returns hlocks (hb hby d1_21) (⟨by rw [own_mod, if_neg hc9_1], N0, e0⟩) (by decide) (by decide)
theorem ef_7 (m : MethodId) (x0 : Addr) : entryFrame m #[(.ref x0)] 1 = mkF m 0 #[.val (.ref x0)] [] := by first | (simp [entryFrame, mkF, argsToLocals, Value.category]; done) | rfl
def Q7 (Z : State) (a1 : Addr) (w : Int64) (h0 : Heap) (n0 : Nat) (v : Option Value) (h : Heap) (L : List Loc) : Prop := v = some (.long w) ∧ Fr n0 L ∧ h = h0
set_option maxRecDepth 65536 in
set_option maxHeartbeats 40000000 in
theorem rm7 (l : Launch) (Z : State) (a0 : Array Value) (hw : ∀ d ∈ tables_1, d.before a0 Z = true) (ws : List Jvm.Cond) (a1 : Addr) (w : Int64) (h0 : Heap) (n0 : Nat) (Z0 : n0 ≤ h0.size) (F : Fld Z h0 a1 "java/time/temporal/ValueRange" "minSmallest" "J" (.long w)) :
    MetFree l (⟨"java/time/temporal/ValueRange", "getMinimum", "()J"⟩ : MethodName) (head1 (Jvm.Cond.code (⟨"java/time/temporal/ValueRange", "getMinimum", "()J"⟩ : MethodName) jdk_2423_method_6_code 1 (some .long) :: ws) ({ frames := 0, cells := 0, slots := 0, locals := 0 } : Room)) (fun a U => a = #[(.ref a1)] ∧ Z.Warmed39 U.vm ∧ U.heap = h0) (fun _ _ _ _ _ => True) (fun _ U o U' => ∃ v L, o = .returned v ∧ Q7 Z a1 w h0 n0 v U'.heap L ∧ FrameEnd U o U' L ({ frames := 0, cells := 0, slots := 0, locals := 0 } : Room).cells ({ frames := 0, cells := 0, slots := 0, locals := 0 } : Room).slots) := by
  refine MetFree.of_bodySF (plainFor_of_name pn_1) hisR ?_
  intro p e s m args below meth c s₁ Bd hml0 hP hK
  obtain ⟨rfl, hZ, hh⟩ := hP
  have hx := Bd.exec
  have hby := Bd.bytes
  have hml : c.maxLocals = 1 := hml0
  have hown : s.vm.findClass "java/time/temporal/ValueRange" = some m.cls := findClass_of_methodNamed Bd.named
  have hnm := (name_of_methodNamed Bd.named Bd.method).1
  have hlocks : meth.locks = false := BodyLoose.notSynchronized Bd
  have X0 : Stand p l e ({ frames := 0, cells := 0, slots := 0, locals := 0 } : Room) s m #[(.ref a1)] below meth c s₁ [] 0 0 := Stand.of_body Bd
  have e0 : s₁.heap = h0 := by rw [← hh, Bd.state]; rfl
  have N0 := Fr.nil n0
  show Goes p e below (s₁.setTop (entryFrame m #[(.ref a1)] 1)) (Fin s (Q7 Z a1 w h0 n0) ({ frames := 0, cells := 0, slots := 0, locals := 0 } : Room).cells ({ frames := 0, cells := 0, slots := 0, locals := 0 } : Room).slots)
  refine Goes.of (fun t k => castTop (ef_7 m a1) k) ?_
  show Goes p e below (s₁.setTop (mkF m 0 #[.val (.ref a1)] [])) _
  refine Goes.of (fun t k => XS.aloadN X0.here hx rfl (hb hby d7_0) rfl rfl k) ?_
  obtain ⟨T2, X2, e2, st2⟩ := getF X0 hx hZ hown (host := "") (Or.inl (wd hw 57 rfl)) Via.refl e0 F (g := (mkF m 1 #[.val (.ref a1)] [(.ref a1)])) rfl rfl (hb hby d7_1)
  refine Goes.of st2 ?_
  show Goes p e below (T2.setTop (mkF m 4 #[.val (.ref a1)] [(.long w)])) _
  exact Goes.retJ X2 hx Bd.returns hlocks (hb hby d7_4) (⟨rfl, N0, e2⟩) (by decide) (by decide)
theorem ef_8 (m : MethodId) (x0 : Addr) : entryFrame m #[(.ref x0)] 1 = mkF m 0 #[.val (.ref x0)] [] := by first | (simp [entryFrame, mkF, argsToLocals, Value.category]; done) | rfl
def Q8 (Z : State) (a1 : Addr) (w : Int64) (h0 : Heap) (n0 : Nat) (v : Option Value) (h : Heap) (L : List Loc) : Prop := v = some (.long w) ∧ Fr n0 L ∧ h = h0
set_option maxRecDepth 65536 in
set_option maxHeartbeats 40000000 in
theorem rm8 (l : Launch) (Z : State) (a0 : Array Value) (hw : ∀ d ∈ tables_1, d.before a0 Z = true) (ws : List Jvm.Cond) (a1 : Addr) (w : Int64) (h0 : Heap) (n0 : Nat) (Z0 : n0 ≤ h0.size) (F : Fld Z h0 a1 "java/time/temporal/ValueRange" "maxLargest" "J" (.long w)) :
    MetFree l (⟨"java/time/temporal/ValueRange", "getMaximum", "()J"⟩ : MethodName) (head1 (Jvm.Cond.code (⟨"java/time/temporal/ValueRange", "getMaximum", "()J"⟩ : MethodName) jdk_2423_method_9_code 1 (some .long) :: ws) ({ frames := 0, cells := 0, slots := 0, locals := 0 } : Room)) (fun a U => a = #[(.ref a1)] ∧ Z.Warmed39 U.vm ∧ U.heap = h0) (fun _ _ _ _ _ => True) (fun _ U o U' => ∃ v L, o = .returned v ∧ Q8 Z a1 w h0 n0 v U'.heap L ∧ FrameEnd U o U' L ({ frames := 0, cells := 0, slots := 0, locals := 0 } : Room).cells ({ frames := 0, cells := 0, slots := 0, locals := 0 } : Room).slots) := by
  refine MetFree.of_bodySF (plainFor_of_name pn_1) hisR ?_
  intro p e s m args below meth c s₁ Bd hml0 hP hK
  obtain ⟨rfl, hZ, hh⟩ := hP
  have hx := Bd.exec
  have hby := Bd.bytes
  have hml : c.maxLocals = 1 := hml0
  have hown : s.vm.findClass "java/time/temporal/ValueRange" = some m.cls := findClass_of_methodNamed Bd.named
  have hnm := (name_of_methodNamed Bd.named Bd.method).1
  have hlocks : meth.locks = false := BodyLoose.notSynchronized Bd
  have X0 : Stand p l e ({ frames := 0, cells := 0, slots := 0, locals := 0 } : Room) s m #[(.ref a1)] below meth c s₁ [] 0 0 := Stand.of_body Bd
  have e0 : s₁.heap = h0 := by rw [← hh, Bd.state]; rfl
  have N0 := Fr.nil n0
  show Goes p e below (s₁.setTop (entryFrame m #[(.ref a1)] 1)) (Fin s (Q8 Z a1 w h0 n0) ({ frames := 0, cells := 0, slots := 0, locals := 0 } : Room).cells ({ frames := 0, cells := 0, slots := 0, locals := 0 } : Room).slots)
  refine Goes.of (fun t k => castTop (ef_8 m a1) k) ?_
  show Goes p e below (s₁.setTop (mkF m 0 #[.val (.ref a1)] [])) _
  refine Goes.of (fun t k => XS.aloadN X0.here hx rfl (hb hby d8_0) rfl rfl k) ?_
  obtain ⟨T3, X3, e3, st3⟩ := getF X0 hx hZ hown (host := "") (Or.inl (wd hw 64 rfl)) Via.refl e0 F (g := (mkF m 1 #[.val (.ref a1)] [(.ref a1)])) rfl rfl (hb hby d8_1)
  refine Goes.of st3 ?_
  show Goes p e below (T3.setTop (mkF m 4 #[.val (.ref a1)] [(.long w)])) _
  exact Goes.retJ X3 hx Bd.returns hlocks (hb hby d8_4) (⟨rfl, N0, e3⟩) (by decide) (by decide)
theorem ef_6 (m : MethodId) (x0 : Addr) (x1 : Int64) : entryFrame m #[(.ref x0), (.long x1)] 3 = mkF m 0 #[.val (.ref x0), .val (.long x1), .second] [] := by first | (simp [entryFrame, mkF, argsToLocals, Value.category]; done) | rfl
def Q6 (Z : State) (a1 : Addr) (q2 : Int64) (mn : Int64) (mx : Int64) (h0 : Heap) (n0 : Nat) (v : Option Value) (h : Heap) (L : List Loc) : Prop := v = some (.int 1) ∧ Fr n0 L ∧ h = h0
set_option maxRecDepth 65536 in
set_option maxHeartbeats 40000000 in
theorem rm6 (l : Launch) (Z : State) (a0 : Array Value) (hw : ∀ d ∈ tables_1, d.before a0 Z = true) (ws : List Jvm.Cond) (a1 : Addr) (q2 : Int64) (mn : Int64) (mx : Int64) (h0 : Heap) (n0 : Nat) (Z0 : n0 ≤ h0.size) (E : Exa Z h0 a1 "java/time/temporal/ValueRange") (F1 : Fld Z h0 a1 "java/time/temporal/ValueRange" "minSmallest" "J" (.long mn)) (F2 : Fld Z h0 a1 "java/time/temporal/ValueRange" "maxLargest" "J" (.long mx)) (k1 : ¬ (q2 < mn)) (k2 : ¬ (mx < q2)) :
    MetFree l (⟨"java/time/temporal/ValueRange", "isValidValue", "(J)Z"⟩ : MethodName) (head1 (Jvm.Cond.code (⟨"java/time/temporal/ValueRange", "isValidValue", "(J)Z"⟩ : MethodName) jdk_2423_method_11_code 3 (some .boolean) :: ws) ({ frames := 1, cells := 0, slots := 0, locals := 14 } : Room)) (fun a U => a = #[(.ref a1), (.long q2)] ∧ Z.Warmed39 U.vm ∧ U.heap = h0) (fun _ _ _ _ _ => True) (fun _ U o U' => ∃ v L, o = .returned v ∧ Q6 Z a1 q2 mn mx h0 n0 v U'.heap L ∧ FrameEnd U o U' L ({ frames := 1, cells := 0, slots := 0, locals := 14 } : Room).cells ({ frames := 1, cells := 0, slots := 0, locals := 14 } : Room).slots) := by
  refine MetFree.of_bodySF (plainFor_of_name pn_1) hisR ?_
  intro p e s m args below meth c s₁ Bd hml0 hP hK
  obtain ⟨rfl, hZ, hh⟩ := hP
  have hx := Bd.exec
  have hby := Bd.bytes
  have hml : c.maxLocals = 3 := hml0
  have hown : s.vm.findClass "java/time/temporal/ValueRange" = some m.cls := findClass_of_methodNamed Bd.named
  have hnm := (name_of_methodNamed Bd.named Bd.method).1
  have hlocks : meth.locks = false := BodyLoose.notSynchronized Bd
  have X0 : Stand p l e ({ frames := 1, cells := 0, slots := 0, locals := 14 } : Room) s m #[(.ref a1), (.long q2)] below meth c s₁ [] 0 0 := Stand.of_body Bd
  have e0 : s₁.heap = h0 := by rw [← hh, Bd.state]; rfl
  have N0 := Fr.nil n0
  show Goes p e below (s₁.setTop (entryFrame m #[(.ref a1), (.long q2)] 3)) (Fin s (Q6 Z a1 q2 mn mx h0 n0) ({ frames := 1, cells := 0, slots := 0, locals := 14 } : Room).cells ({ frames := 1, cells := 0, slots := 0, locals := 14 } : Room).slots)
  refine Goes.of (fun t k => castTop (ef_6 m a1 q2) k) ?_
  show Goes p e below (s₁.setTop (mkF m 0 #[.val (.ref a1), .val (.long q2), .second] [])) _
  refine Goes.of (fun t k => XS.lloadN X0.here hx rfl (hb hby d6_0) rfl k) ?_
  show Goes p e below (s₁.setTop (mkF m 1 #[.val (.ref a1), .val (.long q2), .second] [(.long q2)])) _
  refine Goes.of (fun t k => XS.aloadN X0.here hx rfl (hb hby d6_1) rfl rfl k) ?_
  obtain ⟨cq4, kq4, q4a, q4b, q4c⟩ := isOf hZ e0 E
  obtain ⟨_, _, ⟨T4, L4, k4, n4⟩, -, X4, ⟨Lc4, hQ4, l4, y4, z4⟩, st4⟩ := X0.virtualBack hx (y := (⟨"java/time/temporal/ValueRange", "getMinimum", "()J"⟩ : MethodName)) (z := (⟨"java/time/temporal/ValueRange", "getMinimum", "()J"⟩ : MethodName)) hown (mvT hZ (wd hw 52 rfl)) (mvT hZ (wd hw 53 rfl)) (notFace_of_selects (args := #[]) (mvT hZ (wd hw 55 rfl))) (mvT hZ (wd hw 55 rfl)) (mvT hZ (wd hw 54 rfl)) (by decide) (backOf (W := 2) (rm7 l Z a0 hw [] a1 mn h0 n0 Z0 F1) hZ (wd hw 56 rfl) (wd hw 45 rfl) (by decide) (by decide)) q4a q4c (g := (mkF m 2 #[.val (.ref a1), .val (.long q2), .second] [(.ref a1), (.long q2)])) rfl (by rw [hml]; rfl) (Steps.refl _) (argsL := []) (rest := [(.long q2)]) (lenOf pd_2 rfl) rfl (by show 2 * 0 + _ ≤ _; exact Nat.le_of_eq rfl) (hb hby d6_2) (fun _ _ => ⟨rfl, e0, (by decide : 0 + 0 ≤ _), (by decide : 0 + 0 ≤ _)⟩)
  dsimp only [Pt.U, Pt.locs, Pt.cells, Pt.slots] at X4 l4 y4 z4 st4 hQ4
  subst l4 y4 z4
  obtain ⟨rfl, N4q, e4⟩ := hQ4
  have N4 := Fr.app N0 N4q
  refine Goes.of (fun t k => st4.trans k) ?_
  show Goes p e below (T4.setTop (mkF m 5 #[.val (.ref a1), .val (.long q2), .second] [(.long mn), (.long q2)])) _
  refine Goes.of (fun t k => XS.lcmp X4.here hx rfl (hb hby d6_5) rfl k) ?_
  show Goes p e below (T4.setTop (mkF m 6 #[.val (.ref a1), .val (.long q2), .second] [(.int (lcmpW q2 mn))])) _
  have hd6_5 : ¬ (q2 < mn) := k1
  refine Goes.of (fun t k => XS.ifNo X4.here hx rfl (hb hby d6_6) rfl ((if0 _ _).trans (flt (mt (lw_lt _ _).mp hd6_5)).1) k) ?_
  show Goes p e below (T4.setTop (mkF m 9 #[.val (.ref a1), .val (.long q2), .second] [])) _
  refine Goes.of (fun t k => XS.lloadN X4.here hx rfl (hb hby d6_9) rfl k) ?_
  show Goes p e below (T4.setTop (mkF m 10 #[.val (.ref a1), .val (.long q2), .second] [(.long q2)])) _
  refine Goes.of (fun t k => XS.aloadN X4.here hx rfl (hb hby d6_10) rfl rfl k) ?_
  obtain ⟨cq6, kq6, q6a, q6b, q6c⟩ := isOf hZ e4 E
  obtain ⟨_, _, ⟨T6, L6, k6, n6⟩, -, X6, ⟨Lc6, hQ6, l6, y6, z6⟩, st6⟩ := X4.virtualBack hx (y := (⟨"java/time/temporal/ValueRange", "getMaximum", "()J"⟩ : MethodName)) (z := (⟨"java/time/temporal/ValueRange", "getMaximum", "()J"⟩ : MethodName)) hown (mvT hZ (wd hw 59 rfl)) (mvT hZ (wd hw 60 rfl)) (notFace_of_selects (args := #[]) (mvT hZ (wd hw 62 rfl))) (mvT hZ (wd hw 62 rfl)) (mvT hZ (wd hw 61 rfl)) (by decide) (backOf (W := 2) (rm8 l Z a0 hw [] a1 mx h0 n0 Z0 F2) hZ (wd hw 63 rfl) (wd hw 45 rfl) (by decide) (by decide)) q6a q6c (g := (mkF m 11 #[.val (.ref a1), .val (.long q2), .second] [(.ref a1), (.long q2)])) rfl (by rw [hml]; rfl) (Steps.refl _) (argsL := []) (rest := [(.long q2)]) (lenOf pd_2 rfl) rfl (by show 2 * 0 + _ ≤ _; exact Nat.le_of_eq rfl) (hb hby d6_11) (fun _ _ => ⟨rfl, e4, (by decide : 0 + 0 ≤ _), (by decide : 0 + 0 ≤ _)⟩)
  dsimp only [Pt.U, Pt.locs, Pt.cells, Pt.slots] at X6 l6 y6 z6 st6 hQ6
  subst l6 y6 z6
  obtain ⟨rfl, N6q, e6⟩ := hQ6
  have N6 := Fr.app N4 N6q
  refine Goes.of (fun t k => st6.trans k) ?_
  show Goes p e below (T6.setTop (mkF m 14 #[.val (.ref a1), .val (.long q2), .second] [(.long mx), (.long q2)])) _
  refine Goes.of (fun t k => XS.lcmp X6.here hx rfl (hb hby d6_14) rfl k) ?_
  show Goes p e below (T6.setTop (mkF m 15 #[.val (.ref a1), .val (.long q2), .second] [(.int (lcmpW q2 mx))])) _
  have hd15_7 : ¬ (mx < q2) := k2
  refine Goes.of (fun t k => XS.ifNo X6.here hx rfl (hb hby d6_15) rfl ((if0 _ _).trans (flt (mt (lw_gt _ _).mp hd15_7)).2.2.1) k) ?_
  show Goes p e below (T6.setTop (mkF m 18 #[.val (.ref a1), .val (.long q2), .second] [])) _
  refine Goes.of (fun t k => XS.iconst X6.here hx rfl (hb hby d6_18) k) ?_
  show Goes p e below (T6.setTop (mkF m 19 #[.val (.ref a1), .val (.long q2), .second] [(.int (1 : Int32))])) _
  refine Goes.of (fun t k => XS.goto X6.here hx rfl (pc0 := 19) (pc' := 23) rfl (hb hby d6_19) (by decide) (by decide) k) ?_
  show Goes p e below (T6.setTop (mkF m 23 #[.val (.ref a1), .val (.long q2), .second] [(.int (1 : Int32))])) _
  exact Goes.retN (t := .boolean) X6 hx Bd.returns (by simp) hlocks (hb hby d6_23) (⟨rfl, N6, e6⟩) (by decide) (by decide)
theorem ef_5 (m : MethodId) (x0 : Addr) (x1 : Int64) (x2 : Addr) : entryFrame m #[(.ref x0), (.long x1), (.ref x2)] 4 = mkF m 0 #[.val (.ref x0), .val (.long x1), .second, .val (.ref x2)] [] := by first | (simp [entryFrame, mkF, argsToLocals, Value.category]; done) | rfl
def Q5 (Z : State) (a1 : Addr) (q2 : Int64) (a3 : Addr) (mn : Int64) (mx : Int64) (h0 : Heap) (n0 : Nat) (v : Option Value) (h : Heap) (L : List Loc) : Prop := v = some (.long q2) ∧ Fr n0 L ∧ h = h0
set_option maxRecDepth 65536 in
set_option maxHeartbeats 40000000 in
theorem rm5 (l : Launch) (Z : State) (a0 : Array Value) (hw : ∀ d ∈ tables_1, d.before a0 Z = true) (ws : List Jvm.Cond) (a1 : Addr) (q2 : Int64) (a3 : Addr) (mn : Int64) (mx : Int64) (h0 : Heap) (n0 : Nat) (Z0 : n0 ≤ h0.size) (E : Exa Z h0 a1 "java/time/temporal/ValueRange") (F1 : Fld Z h0 a1 "java/time/temporal/ValueRange" "minSmallest" "J" (.long mn)) (F2 : Fld Z h0 a1 "java/time/temporal/ValueRange" "maxLargest" "J" (.long mx)) (k1 : ¬ (q2 < mn)) (k2 : ¬ (mx < q2)) :
    MetFree l (⟨"java/time/temporal/ValueRange", "checkValidValue", "(JLjava/time/temporal/TemporalField;)J"⟩ : MethodName) (head1 (Jvm.Cond.code (⟨"java/time/temporal/ValueRange", "checkValidValue", "(JLjava/time/temporal/TemporalField;)J"⟩ : MethodName) jdk_2423_method_13_code 4 (some .long) :: ws) ({ frames := 2, cells := 0, slots := 0, locals := 28 } : Room)) (fun a U => a = #[(.ref a1), (.long q2), (.ref a3)] ∧ Z.Warmed39 U.vm ∧ U.heap = h0) (fun _ _ _ _ _ => True) (fun _ U o U' => ∃ v L, o = .returned v ∧ Q5 Z a1 q2 a3 mn mx h0 n0 v U'.heap L ∧ FrameEnd U o U' L ({ frames := 2, cells := 0, slots := 0, locals := 28 } : Room).cells ({ frames := 2, cells := 0, slots := 0, locals := 28 } : Room).slots) := by
  refine MetFree.of_bodySF (plainFor_of_name pn_1) hisR ?_
  intro p e s m args below meth c s₁ Bd hml0 hP hK
  obtain ⟨rfl, hZ, hh⟩ := hP
  have hx := Bd.exec
  have hby := Bd.bytes
  have hml : c.maxLocals = 4 := hml0
  have hown : s.vm.findClass "java/time/temporal/ValueRange" = some m.cls := findClass_of_methodNamed Bd.named
  have hnm := (name_of_methodNamed Bd.named Bd.method).1
  have hlocks : meth.locks = false := BodyLoose.notSynchronized Bd
  have X0 : Stand p l e ({ frames := 2, cells := 0, slots := 0, locals := 28 } : Room) s m #[(.ref a1), (.long q2), (.ref a3)] below meth c s₁ [] 0 0 := Stand.of_body Bd
  have e0 : s₁.heap = h0 := by rw [← hh, Bd.state]; rfl
  have N0 := Fr.nil n0
  show Goes p e below (s₁.setTop (entryFrame m #[(.ref a1), (.long q2), (.ref a3)] 4)) (Fin s (Q5 Z a1 q2 a3 mn mx h0 n0) ({ frames := 2, cells := 0, slots := 0, locals := 28 } : Room).cells ({ frames := 2, cells := 0, slots := 0, locals := 28 } : Room).slots)
  refine Goes.of (fun t k => castTop (ef_5 m a1 q2 a3) k) ?_
  show Goes p e below (s₁.setTop (mkF m 0 #[.val (.ref a1), .val (.long q2), .second, .val (.ref a3)] [])) _
  refine Goes.of (fun t k => XS.aloadN X0.here hx rfl (hb hby d5_0) rfl rfl k) ?_
  show Goes p e below (s₁.setTop (mkF m 1 #[.val (.ref a1), .val (.long q2), .second, .val (.ref a3)] [(.ref a1)])) _
  refine Goes.of (fun t k => XS.lloadN X0.here hx rfl (hb hby d5_1) rfl k) ?_
  obtain ⟨cq8, kq8, q8a, q8b, q8c⟩ := isOf hZ e0 E
  obtain ⟨_, _, ⟨T8, L8, k8, n8⟩, -, X8, ⟨Lc8, hQ8, l8, y8, z8⟩, st8⟩ := X0.virtualBack hx (y := (⟨"java/time/temporal/ValueRange", "isValidValue", "(J)Z"⟩ : MethodName)) (z := (⟨"java/time/temporal/ValueRange", "isValidValue", "(J)Z"⟩ : MethodName)) hown (mvT hZ (wd hw 47 rfl)) (mvT hZ (wd hw 48 rfl)) (notFace_of_selects (args := #[]) (mvT hZ (wd hw 50 rfl))) (mvT hZ (wd hw 50 rfl)) (mvT hZ (wd hw 49 rfl)) (by decide) (backOf (W := 0) (rm6 l Z a0 hw [] a1 q2 mn mx h0 n0 Z0 E F1 F2 k1 k2) hZ (wd hw 51 rfl) (wd hw 45 rfl) (by decide) (by decide)) q8a q8c (g := (mkF m 2 #[.val (.ref a1), .val (.long q2), .second, .val (.ref a3)] [(.long q2), (.ref a1)])) rfl (by rw [hml]; rfl) (Steps.refl _) (argsL := [(.long q2)]) (rest := []) (lenOf pd_3 rfl) rfl (by show 2 * 0 + _ ≤ _; exact Nat.le_of_eq rfl) (hb hby d5_2) (fun _ _ => ⟨rfl, e0, (by decide : 0 + 0 ≤ _), (by decide : 0 + 0 ≤ _)⟩)
  dsimp only [Pt.U, Pt.locs, Pt.cells, Pt.slots] at X8 l8 y8 z8 st8 hQ8
  subst l8 y8 z8
  obtain ⟨rfl, N8q, e8⟩ := hQ8
  have N8 := Fr.app N0 N8q
  refine Goes.of (fun t k => st8.trans k) ?_
  show Goes p e below (T8.setTop (mkF m 5 #[.val (.ref a1), .val (.long q2), .second, .val (.ref a3)] [(.int (1 : Int32))])) _
  refine Goes.of (fun t k => XS.ifYes X8.here hx rfl (pc0 := 5) (pc' := 22) rfl (hb hby d5_5) rfl ((if0 _ _).trans (feq (by decide)).2) (by decide) (by decide) k) ?_
  show Goes p e below (T8.setTop (mkF m 22 #[.val (.ref a1), .val (.long q2), .second, .val (.ref a3)] [])) _
  refine Goes.of (fun t k => XS.lloadN X8.here hx rfl (hb hby d5_22) rfl k) ?_
  show Goes p e below (T8.setTop (mkF m 23 #[.val (.ref a1), .val (.long q2), .second, .val (.ref a3)] [(.long q2)])) _
  exact Goes.retJ X8 hx Bd.returns hlocks (hb hby d5_23) (⟨rfl, N8, e8⟩) (by decide) (by decide)
theorem ef_4 (m : MethodId) (x0 : Addr) : entryFrame m #[(.ref x0)] 1 = mkF m 0 #[.val (.ref x0)] [] := by first | (simp [entryFrame, mkF, argsToLocals, Value.category]; done) | rfl
def Q4 (Z : State) (a1 : Addr) (r : Addr) (h0 : Heap) (n0 : Nat) (v : Option Value) (h : Heap) (L : List Loc) : Prop := v = some (.ref r) ∧ Fr n0 L ∧ h = h0
set_option maxRecDepth 65536 in
set_option maxHeartbeats 40000000 in
theorem rm4 (l : Launch) (Z : State) (a0 : Array Value) (hw : ∀ d ∈ tables_1, d.before a0 Z = true) (ws : List Jvm.Cond) (a1 : Addr) (r : Addr) (h0 : Heap) (n0 : Nat) (Z0 : n0 ≤ h0.size) (F : Fld Z h0 a1 "java/time/temporal/ChronoField" "range" "Ljava/time/temporal/ValueRange;" (.ref r)) :
    MetFree l (⟨"java/time/temporal/ChronoField", "range", "()Ljava/time/temporal/ValueRange;"⟩ : MethodName) (head1 (Jvm.Cond.code (⟨"java/time/temporal/ChronoField", "range", "()Ljava/time/temporal/ValueRange;"⟩ : MethodName) jdk_2395_method_8_code 1 (some (.object "java/time/temporal/ValueRange")) :: ws) ({ frames := 0, cells := 0, slots := 0, locals := 0 } : Room)) (fun a U => a = #[(.ref a1)] ∧ Z.Warmed39 U.vm ∧ U.heap = h0) (fun _ _ _ _ _ => True) (fun _ U o U' => ∃ v L, o = .returned v ∧ Q4 Z a1 r h0 n0 v U'.heap L ∧ FrameEnd U o U' L ({ frames := 0, cells := 0, slots := 0, locals := 0 } : Room).cells ({ frames := 0, cells := 0, slots := 0, locals := 0 } : Room).slots) := by
  refine MetFree.of_bodySF (plainFor_of_name pn_4) hisR ?_
  intro p e s m args below meth c s₁ Bd hml0 hP hK
  obtain ⟨rfl, hZ, hh⟩ := hP
  have hx := Bd.exec
  have hby := Bd.bytes
  have hml : c.maxLocals = 1 := hml0
  have hown : s.vm.findClass "java/time/temporal/ChronoField" = some m.cls := findClass_of_methodNamed Bd.named
  have hnm := (name_of_methodNamed Bd.named Bd.method).1
  have hlocks : meth.locks = false := BodyLoose.notSynchronized Bd
  have X0 : Stand p l e ({ frames := 0, cells := 0, slots := 0, locals := 0 } : Room) s m #[(.ref a1)] below meth c s₁ [] 0 0 := Stand.of_body Bd
  have e0 : s₁.heap = h0 := by rw [← hh, Bd.state]; rfl
  have N0 := Fr.nil n0
  show Goes p e below (s₁.setTop (entryFrame m #[(.ref a1)] 1)) (Fin s (Q4 Z a1 r h0 n0) ({ frames := 0, cells := 0, slots := 0, locals := 0 } : Room).cells ({ frames := 0, cells := 0, slots := 0, locals := 0 } : Room).slots)
  refine Goes.of (fun t k => castTop (ef_4 m a1) k) ?_
  show Goes p e below (s₁.setTop (mkF m 0 #[.val (.ref a1)] [])) _
  refine Goes.of (fun t k => XS.aloadN X0.here hx rfl (hb hby d4_0) rfl rfl k) ?_
  obtain ⟨T9, X9, e9, st9⟩ := getF X0 hx hZ hown (host := "") (Or.inl (wd hw 39 rfl)) Via.refl e0 F (g := (mkF m 1 #[.val (.ref a1)] [(.ref a1)])) rfl rfl (hb hby d4_1)
  refine Goes.of st9 ?_
  show Goes p e below (T9.setTop (mkF m 4 #[.val (.ref a1)] [(.ref r)])) _
  exact Goes.retA X9 hx (by rfl) Bd.returns (by rfl) hlocks (hb hby d4_4) (⟨rfl, N0, e9⟩) (by decide) (by decide)
theorem ef_3 (m : MethodId) (x0 : Addr) (x1 : Int64) : entryFrame m #[(.ref x0), (.long x1)] 3 = mkF m 0 #[.val (.ref x0), .val (.long x1), .second] [] := by first | (simp [entryFrame, mkF, argsToLocals, Value.category]; done) | rfl
def Q3 (Z : State) (a1 : Addr) (q2 : Int64) (r : Addr) (mn : Int64) (mx : Int64) (h0 : Heap) (n0 : Nat) (v : Option Value) (h : Heap) (L : List Loc) : Prop := v = some (.long q2) ∧ Fr n0 L ∧ h = h0
set_option maxRecDepth 65536 in
set_option maxHeartbeats 40000000 in
theorem rm3 (l : Launch) (Z : State) (a0 : Array Value) (hw : ∀ d ∈ tables_1, d.before a0 Z = true) (ws : List Jvm.Cond) (a1 : Addr) (q2 : Int64) (r : Addr) (mn : Int64) (mx : Int64) (h0 : Heap) (n0 : Nat) (Z0 : n0 ≤ h0.size) (Ef : Exa Z h0 a1 "java/time/temporal/ChronoField") (Rf : Fld Z h0 a1 "java/time/temporal/ChronoField" "range" "Ljava/time/temporal/ValueRange;" (.ref r)) (Gf : Exa Z h0 r "java/time/temporal/ValueRange") (Mf : Fld Z h0 r "java/time/temporal/ValueRange" "minSmallest" "J" (.long mn)) (Xf : Fld Z h0 r "java/time/temporal/ValueRange" "maxLargest" "J" (.long mx)) (k1 : ¬ (q2 < mn)) (k2 : ¬ (mx < q2)) :
    MetFree l (⟨"java/time/temporal/ChronoField", "checkValidValue", "(J)J"⟩ : MethodName) (head1 (Jvm.Cond.code (⟨"java/time/temporal/ChronoField", "checkValidValue", "(J)J"⟩ : MethodName) jdk_2395_method_11_code 3 (some .long) :: ws) ({ frames := 3, cells := 0, slots := 0, locals := 43 } : Room)) (fun a U => a = #[(.ref a1), (.long q2)] ∧ Z.Warmed39 U.vm ∧ U.heap = h0) (fun _ _ _ _ _ => True) (fun _ U o U' => ∃ v L, o = .returned v ∧ Q3 Z a1 q2 r mn mx h0 n0 v U'.heap L ∧ FrameEnd U o U' L ({ frames := 3, cells := 0, slots := 0, locals := 43 } : Room).cells ({ frames := 3, cells := 0, slots := 0, locals := 43 } : Room).slots) := by
  refine MetFree.of_bodySF (plainFor_of_name pn_4) hisR ?_
  intro p e s m args below meth c s₁ Bd hml0 hP hK
  obtain ⟨rfl, hZ, hh⟩ := hP
  have hx := Bd.exec
  have hby := Bd.bytes
  have hml : c.maxLocals = 3 := hml0
  have hown : s.vm.findClass "java/time/temporal/ChronoField" = some m.cls := findClass_of_methodNamed Bd.named
  have hnm := (name_of_methodNamed Bd.named Bd.method).1
  have hlocks : meth.locks = false := BodyLoose.notSynchronized Bd
  have X0 : Stand p l e ({ frames := 3, cells := 0, slots := 0, locals := 43 } : Room) s m #[(.ref a1), (.long q2)] below meth c s₁ [] 0 0 := Stand.of_body Bd
  have e0 : s₁.heap = h0 := by rw [← hh, Bd.state]; rfl
  have N0 := Fr.nil n0
  show Goes p e below (s₁.setTop (entryFrame m #[(.ref a1), (.long q2)] 3)) (Fin s (Q3 Z a1 q2 r mn mx h0 n0) ({ frames := 3, cells := 0, slots := 0, locals := 43 } : Room).cells ({ frames := 3, cells := 0, slots := 0, locals := 43 } : Room).slots)
  refine Goes.of (fun t k => castTop (ef_3 m a1 q2) k) ?_
  show Goes p e below (s₁.setTop (mkF m 0 #[.val (.ref a1), .val (.long q2), .second] [])) _
  refine Goes.of (fun t k => XS.aloadN X0.here hx rfl (hb hby d3_0) rfl rfl k) ?_
  obtain ⟨cq10, kq10, q10a, q10b, q10c⟩ := isOf hZ e0 Ef
  obtain ⟨_, _, ⟨T10, L10, k10, n10⟩, -, X10, ⟨Lc10, hQ10, l10, y10, z10⟩, st10⟩ := X0.virtualBack hx (y := (⟨"java/time/temporal/ChronoField", "range", "()Ljava/time/temporal/ValueRange;"⟩ : MethodName)) (z := (⟨"java/time/temporal/ChronoField", "range", "()Ljava/time/temporal/ValueRange;"⟩ : MethodName)) hown (mvT hZ (wd hw 34 rfl)) (mvT hZ (wd hw 35 rfl)) (notFace_of_selects (args := #[]) (mvT hZ (wd hw 37 rfl))) (mvT hZ (wd hw 37 rfl)) (mvT hZ (wd hw 36 rfl)) (by decide) (backOf (W := 0) (rm4 l Z a0 hw [] a1 r h0 n0 Z0 Rf) hZ (wd hw 38 rfl) (wd hw 28 rfl) (by decide) (by decide)) q10a q10c (g := (mkF m 1 #[.val (.ref a1), .val (.long q2), .second] [(.ref a1)])) rfl (by rw [hml]; rfl) (Steps.refl _) (argsL := []) (rest := []) (lenOf pd_5 rfl) rfl (by show 2 * 0 + _ ≤ _; exact Nat.le_of_eq rfl) (hb hby d3_1) (fun _ _ => ⟨rfl, e0, (by decide : 0 + 0 ≤ _), (by decide : 0 + 0 ≤ _)⟩)
  dsimp only [Pt.U, Pt.locs, Pt.cells, Pt.slots] at X10 l10 y10 z10 st10 hQ10
  subst l10 y10 z10
  obtain ⟨rfl, N10q, e10⟩ := hQ10
  have N10 := Fr.app N0 N10q
  refine Goes.of (fun t k => st10.trans k) ?_
  show Goes p e below (T10.setTop (mkF m 4 #[.val (.ref a1), .val (.long q2), .second] [(.ref r)])) _
  refine Goes.of (fun t k => XS.lloadN X10.here hx rfl (hb hby d3_4) rfl k) ?_
  show Goes p e below (T10.setTop (mkF m 5 #[.val (.ref a1), .val (.long q2), .second] [(.long q2), (.ref r)])) _
  refine Goes.of (fun t k => XS.aloadN X10.here hx rfl (hb hby d3_5) rfl rfl k) ?_
  obtain ⟨cq11, kq11, q11a, q11b, q11c⟩ := isOf hZ e10 Gf
  obtain ⟨_, _, ⟨T11, L11, k11, n11⟩, -, X11, ⟨Lc11, hQ11, l11, y11, z11⟩, st11⟩ := X10.virtualBack hx (y := (⟨"java/time/temporal/ValueRange", "checkValidValue", "(JLjava/time/temporal/TemporalField;)J"⟩ : MethodName)) (z := (⟨"java/time/temporal/ValueRange", "checkValidValue", "(JLjava/time/temporal/TemporalField;)J"⟩ : MethodName)) hown (mvT hZ (wd hw 41 rfl)) (mvT hZ (wd hw 42 rfl)) (notFace_of_selects (args := #[]) (mvT hZ (wd hw 44 rfl))) (mvT hZ (wd hw 44 rfl)) (mvT hZ (wd hw 43 rfl)) (by decide) (backOf (W := 0) (rm5 l Z a0 hw [] r q2 a1 mn mx h0 n0 Z0 Gf Mf Xf k1 k2) hZ (wd hw 46 rfl) (wd hw 45 rfl) (by decide) (by decide)) q11a q11c (g := (mkF m 6 #[.val (.ref a1), .val (.long q2), .second] [(.ref a1), (.long q2), (.ref r)])) rfl (by rw [hml]; rfl) (Steps.refl _) (argsL := [(.long q2), (.ref a1)]) (rest := []) (lenOf pd_6 rfl) rfl (by show 2 * 0 + _ ≤ _; exact Nat.le_of_eq rfl) (hb hby d3_6) (fun _ _ => ⟨rfl, e10, (by decide : 0 + 0 ≤ _), (by decide : 0 + 0 ≤ _)⟩)
  dsimp only [Pt.U, Pt.locs, Pt.cells, Pt.slots] at X11 l11 y11 z11 st11 hQ11
  subst l11 y11 z11
  obtain ⟨rfl, N11q, e11⟩ := hQ11
  have N11 := Fr.app N10 N11q
  refine Goes.of (fun t k => st11.trans k) ?_
  show Goes p e below (T11.setTop (mkF m 9 #[.val (.ref a1), .val (.long q2), .second] [(.long q2)])) _
  exact Goes.retJ X11 hx Bd.returns hlocks (hb hby d3_9) (⟨rfl, N11, e11⟩) (by decide) (by decide)
theorem ef_10 (m : MethodId) (x0 : Addr) (x1 : Int32) (x2 : Int32) (x3 : Int32) : entryFrame m #[(.ref x0), (.int x1), (.int x2), (.int x3)] 4 = mkF m 0 #[.val (.ref x0), .val (.int x1), .val (.int x2), .val (.int x3)] [] := by first | (simp [entryFrame, mkF, argsToLocals, Value.category]; done) | rfl
def Q10 (Z : State) (a1 : Addr) (p2 : Int32) (p3 : Int32) (p4 : Int32) (h0 : Heap) (n0 : Nat) (v : Option Value) (h : Heap) (L : List Loc) : Prop := v = none ∧ Fr n0 L ∧ Keep h0 h [a1] ∧ Exa Z h a1 "java/time/LocalDate" ∧ Fld Z h a1 "java/time/LocalDate" "year" "I" (.int p2) ∧ Fld Z h a1 "java/time/LocalDate" "month" "S" (.int (nar .short (p3.toInt16.toInt32))) ∧ Fld Z h a1 "java/time/LocalDate" "day" "S" (.int (nar .short (p4.toInt16.toInt32)))
set_option maxRecDepth 65536 in
set_option maxHeartbeats 40000000 in
theorem rm10 (l : Launch) (Z : State) (a0 : Array Value) (hw : ∀ d ∈ tables_1, d.before a0 Z = true) (ws : List Jvm.Cond) (a1 : Addr) (p2 : Int32) (p3 : Int32) (p4 : Int32) (h0 : Heap) (n0 : Nat) (Z0 : n0 ≤ h0.size) (E : Exa Z h0 a1 "java/time/LocalDate") (F_year : Fld Z h0 a1 "java/time/LocalDate" "year" "I" (.int (0 : Int32))) (F_month : Fld Z h0 a1 "java/time/LocalDate" "month" "S" (.int (0 : Int32))) (F_day : Fld Z h0 a1 "java/time/LocalDate" "day" "S" (.int (0 : Int32))) (g : n0 ≤ a1) :
    MetFree l (⟨"java/time/LocalDate", "<init>", "(III)V"⟩ : MethodName) (head1 (Jvm.Cond.code (⟨"java/time/LocalDate", "<init>", "(III)V"⟩ : MethodName) jdk_2323_method_14_code 4 none :: ws) ({ frames := 1, cells := 0, slots := 0, locals := 12 } : Room)) (fun a U => a = #[(.ref a1), (.int p2), (.int p3), (.int p4)] ∧ Z.Warmed39 U.vm ∧ U.heap = h0) (fun _ _ _ _ _ => True) (fun _ U o U' => ∃ v L, o = .returned v ∧ Q10 Z a1 p2 p3 p4 h0 n0 v U'.heap L ∧ FrameEnd U o U' L ({ frames := 1, cells := 0, slots := 0, locals := 12 } : Room).cells ({ frames := 1, cells := 0, slots := 0, locals := 12 } : Room).slots) := by
  refine MetFree.of_bodySF (plainFor_of_name pn_7) hisR ?_
  intro p e s m args below meth c s₁ Bd hml0 hP hK
  obtain ⟨rfl, hZ, hh⟩ := hP
  have hx := Bd.exec
  have hby := Bd.bytes
  have hml : c.maxLocals = 4 := hml0
  have hown : s.vm.findClass "java/time/LocalDate" = some m.cls := findClass_of_methodNamed Bd.named
  have hnm := (name_of_methodNamed Bd.named Bd.method).1
  have hlocks : meth.locks = false := BodyLoose.notSynchronized Bd
  have X0 : Stand p l e ({ frames := 1, cells := 0, slots := 0, locals := 12 } : Room) s m #[(.ref a1), (.int p2), (.int p3), (.int p4)] below meth c s₁ [] 0 0 := Stand.of_body Bd
  have e0 : s₁.heap = h0 := by rw [← hh, Bd.state]; rfl
  have N0 := Fr.nil n0
  show Goes p e below (s₁.setTop (entryFrame m #[(.ref a1), (.int p2), (.int p3), (.int p4)] 4)) (Fin s (Q10 Z a1 p2 p3 p4 h0 n0) ({ frames := 1, cells := 0, slots := 0, locals := 12 } : Room).cells ({ frames := 1, cells := 0, slots := 0, locals := 12 } : Room).slots)
  refine Goes.of (fun t k => castTop (ef_10 m a1 p2 p3 p4) k) ?_
  have K0 : Keep h0 h0 [a1] := Keep.refl _ _
  show Goes p e below (s₁.setTop (mkF m 0 #[.val (.ref a1), .val (.int p2), .val (.int p3), .val (.int p4)] [])) _
  refine Goes.of (fun t k => XS.aloadN X0.here hx rfl (hb hby d10_0) rfl rfl k) ?_
  obtain ⟨T12, X12, e12, st12⟩ := initO X0 hx hZ hown (wd hw 77 rfl) (wd hw 78 rfl) (wd hw 79 rfl) e0 (g := (mkF m 1 #[.val (.ref a1), .val (.int p2), .val (.int p3), .val (.int p4)] [(.ref a1)])) rfl (by rw [hml]; rfl) rfl (hb hby d10_1) (by decide) (W := 0) (by show 2 * 0 + _ ≤ _; exact Nat.le_of_eq rfl) (by decide)
  refine Goes.of st12 ?_
  show Goes p e below (T12.setTop (mkF m 4 #[.val (.ref a1), .val (.int p2), .val (.int p3), .val (.int p4)] [])) _
  refine Goes.of (fun t k => XS.aloadN X12.here hx rfl (hb hby d10_4) rfl rfl k) ?_
  show Goes p e below (T12.setTop (mkF m 5 #[.val (.ref a1), .val (.int p2), .val (.int p3), .val (.int p4)] [(.ref a1)])) _
  refine Goes.of (fun t k => XS.iloadN X12.here hx rfl (hb hby d10_5) rfl k) ?_
  obtain ⟨T13, h13, X13, e13, W13, st13⟩ := putF X12 hx hZ hown (host := "") (Or.inl (wd hw 80 rfl)) Via.refl e12 F_year E (Or.inr ⟨(wd hw 81 rfl), rfl, hnm⟩) (wd hw 72 rfl) (ty := .int) (by decide) rfl rfl (g := (mkF m 6 #[.val (.ref a1), .val (.int p2), .val (.int p3), .val (.int p4)] [(.int p2), (.ref a1)])) rfl rfl (hb hby d10_6)
  have f14 := F_year.same W13
  have K15 : Keep h0 h13 [a1] := K0.wr W13 (Or.inl (List.mem_of_getElem? (i := 0) rfl))
  have z16 := Nat.le_trans Z0 (Keep.of_wr W13).1
  have f17 := E.wr W13
  have f19 := F_month.other W13 (Or.inr (slot_ne (Or.inr (wd hw 83 rfl)) (Or.inr (wd hw 81 rfl)) (by decide) (t := .short) (t' := .int) (by decide) (by decide)))
  have f20 := F_day.other W13 (Or.inr (slot_ne (Or.inr (wd hw 85 rfl)) (Or.inr (wd hw 81 rfl)) (by decide) (t := .short) (t' := .int) (by decide) (by decide)))
  have N13 := Fr.snoc X13 N0 g
  refine Goes.of st13 ?_
  show Goes p e below (T13.setTop (mkF m 9 #[.val (.ref a1), .val (.int p2), .val (.int p3), .val (.int p4)] [])) _
  refine Goes.of (fun t k => XS.aloadN X13.here hx rfl (hb hby d10_9) rfl rfl k) ?_
  show Goes p e below (T13.setTop (mkF m 10 #[.val (.ref a1), .val (.int p2), .val (.int p3), .val (.int p4)] [(.ref a1)])) _
  refine Goes.of (fun t k => XS.iloadN X13.here hx rfl (hb hby d10_10) rfl k) ?_
  show Goes p e below (T13.setTop (mkF m 11 #[.val (.ref a1), .val (.int p2), .val (.int p3), .val (.int p4)] [(.int p3), (.ref a1)])) _
  refine Goes.of (fun t k => XS.i2s X13.here hx rfl (hb hby d10_11) rfl k) ?_
  obtain ⟨T21, h21, X21, e21, W21, st21⟩ := putFN X13 hx hZ hown (wd hw 82 rfl) Via.refl e13 f19 f17 (Or.inr ⟨(wd hw 83 rfl), rfl, hnm⟩) (wd hw 72 rfl) (ty := .short) (v' := (.int (nar .short (p3.toInt16.toInt32)))) (by decide) rfl (fits_nar_short _) (g := (mkF m 12 #[.val (.ref a1), .val (.int p2), .val (.int p3), .val (.int p4)] [(.int (p3.toInt16.toInt32)), (.ref a1)])) rfl rfl (hb hby d10_12)
  have f22 := f19.same W21
  have K23 : Keep h0 h21 [a1] := K15.wr W21 (Or.inl (List.mem_of_getElem? (i := 0) rfl))
  have z24 := Nat.le_trans z16 (Keep.of_wr W21).1
  have f25 := f17.wr W21
  have f26 := f14.other W21 (Or.inr (slot_ne (Or.inr (wd hw 81 rfl)) (Or.inr (wd hw 83 rfl)) (by decide) (t := .int) (t' := .short) (by decide) (by decide)))
  have f28 := f20.other W21 (Or.inr (slot_ne (Or.inr (wd hw 85 rfl)) (Or.inr (wd hw 83 rfl)) (by decide) (t := .short) (t' := .short) (by decide) (by decide)))
  have N21 := Fr.snoc X21 N13 g
  refine Goes.of st21 ?_
  show Goes p e below (T21.setTop (mkF m 15 #[.val (.ref a1), .val (.int p2), .val (.int p3), .val (.int p4)] [])) _
  refine Goes.of (fun t k => XS.aloadN X21.here hx rfl (hb hby d10_15) rfl rfl k) ?_
  show Goes p e below (T21.setTop (mkF m 16 #[.val (.ref a1), .val (.int p2), .val (.int p3), .val (.int p4)] [(.ref a1)])) _
  refine Goes.of (fun t k => XS.iloadN X21.here hx rfl (hb hby d10_16) rfl k) ?_
  show Goes p e below (T21.setTop (mkF m 17 #[.val (.ref a1), .val (.int p2), .val (.int p3), .val (.int p4)] [(.int p4), (.ref a1)])) _
  refine Goes.of (fun t k => XS.i2s X21.here hx rfl (hb hby d10_17) rfl k) ?_
  obtain ⟨T29, h29, X29, e29, W29, st29⟩ := putFN X21 hx hZ hown (wd hw 84 rfl) Via.refl e21 f28 f25 (Or.inr ⟨(wd hw 85 rfl), rfl, hnm⟩) (wd hw 72 rfl) (ty := .short) (v' := (.int (nar .short (p4.toInt16.toInt32)))) (by decide) rfl (fits_nar_short _) (g := (mkF m 18 #[.val (.ref a1), .val (.int p2), .val (.int p3), .val (.int p4)] [(.int (p4.toInt16.toInt32)), (.ref a1)])) rfl rfl (hb hby d10_18)
  have f30 := f28.same W29
  have K31 : Keep h0 h29 [a1] := K23.wr W29 (Or.inl (List.mem_of_getElem? (i := 0) rfl))
  have z32 := Nat.le_trans z24 (Keep.of_wr W29).1
  have f33 := f25.wr W29
  have f34 := f26.other W29 (Or.inr (slot_ne (Or.inr (wd hw 81 rfl)) (Or.inr (wd hw 85 rfl)) (by decide) (t := .int) (t' := .short) (by decide) (by decide)))
  have f35 := f22.other W29 (Or.inr (slot_ne (Or.inr (wd hw 83 rfl)) (Or.inr (wd hw 85 rfl)) (by decide) (t := .short) (t' := .short) (by decide) (by decide)))
  have N29 := Fr.snoc X29 N21 g
  refine Goes.of st29 ?_
  show Goes p e below (T29.setTop (mkF m 21 #[.val (.ref a1), .val (.int p2), .val (.int p3), .val (.int p4)] [])) _
  have eh : T29.heap = h29 := e29
  exact Goes.retV X29 hx Bd.returns hlocks (hb hby d10_21) (⟨rfl, N29, by rw [eh]; exact K31, by rw [eh]; exact f33, by rw [eh]; exact f34, by rw [eh]; exact f35, by rw [eh]; exact f30⟩) (by decide) (by decide)
theorem ef_9 (m : MethodId) (x0 : Int32) (x1 : Int32) (x2 : Int32) : entryFrame m #[(.int x0), (.int x1), (.int x2)] 4 = mkF m 0 #[.val (.int x0), .val (.int x1), .val (.int x2), .unset] [] := by first | (simp [entryFrame, mkF, argsToLocals, Value.category]; done) | rfl
def Q9 (Z : State) (p1 : Int32) (p3 : Int32) (h0 : Heap) (n0 : Nat) (v : Option Value) (h : Heap) (L : List Loc) : Prop := ∃ b : Addr, v = some (.ref b) ∧ Fr n0 L ∧ Keep h0 h [] ∧ h0.size ≤ b ∧ Exa Z h b "java/time/LocalDate" ∧ Fld Z h b "java/time/LocalDate" "year" "I" (.int p1) ∧ Fld Z h b "java/time/LocalDate" "month" "S" (.int (3 : Int32)) ∧ Fld Z h b "java/time/LocalDate" "day" "S" (.int p3)
set_option maxRecDepth 65536 in
set_option maxHeartbeats 40000000 in
theorem rm9 (l : Launch) (Z : State) (a0 : Array Value) (hw : ∀ d ∈ tables_1, d.before a0 Z = true) (ws : List Jvm.Cond) (p1 : Int32) (p3 : Int32) (h0 : Heap) (n0 : Nat) (Z0 : n0 ≤ h0.size) (d1 : 1 ≤ p3.toInt) (d2 : p3.toInt ≤ 31) :
    MetFree l (⟨"java/time/LocalDate", "create", "(III)Ljava/time/LocalDate;"⟩ : MethodName) (head1 (Jvm.Cond.code (⟨"java/time/LocalDate", "create", "(III)Ljava/time/LocalDate;"⟩ : MethodName) jdk_2323_method_12_code 4 (some (.object "java/time/LocalDate")) :: ws) ({ frames := 2, cells := 1, slots := 3, locals := 28 } : Room)) (fun a U => a = #[(.int p1), (.int (3 : Int32)), (.int p3)] ∧ Z.Warmed39 U.vm ∧ U.heap = h0) (fun _ _ _ _ _ => True) (fun _ U o U' => ∃ v L, o = .returned v ∧ Q9 Z p1 p3 h0 n0 v U'.heap L ∧ FrameEnd U o U' L ({ frames := 2, cells := 1, slots := 3, locals := 28 } : Room).cells ({ frames := 2, cells := 1, slots := 3, locals := 28 } : Room).slots) := by
  refine MetFree.of_bodySF (plainFor_of_name pn_7) hisR ?_
  intro p e s m args below meth c s₁ Bd hml0 hP hK
  obtain ⟨rfl, hZ, hh⟩ := hP
  have hx := Bd.exec
  have hby := Bd.bytes
  have hml : c.maxLocals = 4 := hml0
  have hown : s.vm.findClass "java/time/LocalDate" = some m.cls := findClass_of_methodNamed Bd.named
  have hnm := (name_of_methodNamed Bd.named Bd.method).1
  have hlocks : meth.locks = false := BodyLoose.notSynchronized Bd
  have X0 : Stand p l e ({ frames := 2, cells := 1, slots := 3, locals := 28 } : Room) s m #[(.int p1), (.int (3 : Int32)), (.int p3)] below meth c s₁ [] 0 0 := Stand.of_body Bd
  have e0 : s₁.heap = h0 := by rw [← hh, Bd.state]; rfl
  have N0 := Fr.nil n0
  show Goes p e below (s₁.setTop (entryFrame m #[(.int p1), (.int (3 : Int32)), (.int p3)] 4)) (Fin s (Q9 Z p1 p3 h0 n0) ({ frames := 2, cells := 1, slots := 3, locals := 28 } : Room).cells ({ frames := 2, cells := 1, slots := 3, locals := 28 } : Room).slots)
  refine Goes.of (fun t k => castTop (ef_9 m p1 (3 : Int32) p3) k) ?_
  have K0 : Keep h0 h0 [] := Keep.refl _ _
  show Goes p e below (s₁.setTop (mkF m 0 #[.val (.int p1), .val (.int (3 : Int32)), .val (.int p3), .unset] [])) _
  refine Goes.of (fun t k => XS.iloadN X0.here hx rfl (hb hby d9_0) rfl k) ?_
  show Goes p e below (s₁.setTop (mkF m 1 #[.val (.int p1), .val (.int (3 : Int32)), .val (.int p3), .unset] [(.int p3)])) _
  refine Goes.of (fun t k => XS.bipush X0.here hx rfl (hb hby d9_1) k) ?_
  show Goes p e below (s₁.setTop (mkF m 3 #[.val (.int p1), .val (.int (3 : Int32)), .val (.int p3), .unset] [(.int (28 : Int32)), (.int p3)])) _
  by_cases hc3_37 : (28 : Int32) < p3
  · refine Goes.of (fun t k => XS.icmpNo X0.here hx rfl (hb hby d9_3) rfl (tlt hc3_37).2.2.2 k) ?_
    show Goes p e below (s₁.setTop (mkF m 6 #[.val (.int p1), .val (.int (3 : Int32)), .val (.int p3), .unset] [])) _
    refine Goes.of (fun t k => XS.iloadN X0.here hx rfl (hb hby d9_6) rfl k) ?_
    show Goes p e below (s₁.setTop (mkF m 7 #[.val (.int p1), .val (.int (3 : Int32)), .val (.int p3), .unset] [(.int (3 : Int32))])) _
    refine Goes.of (fun t k => XS.tswIn X0.here hx rfl (pc0 := 7) (pc' := 86) rfl (hb hby d9_7) rfl (by decide) (o := 79) (by decide) (by decide) (by decide) k) ?_
    show Goes p e below (s₁.setTop (mkF m 86 #[.val (.int p1), .val (.int (3 : Int32)), .val (.int p3), .unset] [])) _
    refine Goes.of (fun t k => XS.bipush X0.here hx rfl (hb hby d9_86) k) ?_
    show Goes p e below (s₁.setTop (mkF m 88 #[.val (.int p1), .val (.int (3 : Int32)), .val (.int p3), .unset] [(.int (31 : Int32))])) _
    refine Goes.of (fun t k => XS.istoreN X0.here hx rfl (hb hby d9_88) rfl (l' := #[.val (.int p1), .val (.int (3 : Int32)), .val (.int p3), .val (.int (31 : Int32))]) rfl k) ?_
    show Goes p e below (s₁.setTop (mkF m 89 #[.val (.int p1), .val (.int (3 : Int32)), .val (.int p3), .val (.int (31 : Int32))] [])) _
    refine Goes.of (fun t k => XS.iloadN X0.here hx rfl (hb hby d9_89) rfl k) ?_
    show Goes p e below (s₁.setTop (mkF m 90 #[.val (.int p1), .val (.int (3 : Int32)), .val (.int p3), .val (.int (31 : Int32))] [(.int p3)])) _
    refine Goes.of (fun t k => XS.iloadN X0.here hx rfl (hb hby d9_90) rfl k) ?_
    show Goes p e below (s₁.setTop (mkF m 91 #[.val (.int p1), .val (.int (3 : Int32)), .val (.int p3), .val (.int (31 : Int32))] [(.int (31 : Int32)), (.int p3)])) _
    have hd91_38 : ¬ ((31 : Int32) < p3) := fun q => by have := Int32.lt_iff_toInt_lt.mp q; have e : (31 : Int32).toInt = 31 := (by decide); omega
    refine Goes.of (fun t k => XS.icmpYes X0.here hx rfl (pc0 := 91) (pc' := 179) rfl (hb hby d9_91) rfl (flt hd91_38).2.2.2 (by decide) (by decide) k) ?_
    obtain ⟨T39, h39, X39, e39, E39, A39, D39, -, st39⟩ := newO X0 hx hZ hown (wd hw 71 rfl) (wd hw 72 rfl) (wd hw 25 rfl) e0 (g := (mkF m 179 #[.val (.int p1), .val (.int (3 : Int32)), .val (.int p3), .val (.int (31 : Int32))] [])) rfl (hb hby d9_179) (by decide) (by decide)
    obtain ⟨b39, g39⟩ : ∃ z, z = h0.size := ⟨_, rfl⟩
    rw [← g39] at A39 D39 st39
    have g40 : n0 ≤ b39 := Nat.le_trans Z0 (Nat.le_of_eq g39.symm)
    have z41 := Nat.le_trans Z0 E39.1
    have z42 : h0.size ≤ b39 := Nat.le_trans K0.1 (Nat.le_of_eq g39.symm)
    have K43 : Keep h0 h39 [] := K0.ext E39
    have f44 : Fld Z h39 b39 "java/time/LocalDate" "year" "I" (.int (0 : Int32)) := D39 (Or.inr (wd hw 81 rfl)) (ty := .int) (by decide)
    have f45 : Fld Z h39 b39 "java/time/LocalDate" "month" "S" (.int (0 : Int32)) := D39 (Or.inr (wd hw 83 rfl)) (ty := .short) (by decide)
    have f46 : Fld Z h39 b39 "java/time/LocalDate" "day" "S" (.int (0 : Int32)) := D39 (Or.inr (wd hw 85 rfl)) (ty := .short) (by decide)
    refine Goes.of st39 ?_
    show Goes p e below (T39.setTop (mkF m 182 #[.val (.int p1), .val (.int (3 : Int32)), .val (.int p3), .val (.int (31 : Int32))] [(.ref b39)])) _
    refine Goes.of (fun t k => XS.dup X39.here hx rfl (hb hby d9_182) rfl rfl k) ?_
    show Goes p e below (T39.setTop (mkF m 183 #[.val (.int p1), .val (.int (3 : Int32)), .val (.int p3), .val (.int (31 : Int32))] [(.ref b39), (.ref b39)])) _
    refine Goes.of (fun t k => XS.iloadN X39.here hx rfl (hb hby d9_183) rfl k) ?_
    show Goes p e below (T39.setTop (mkF m 184 #[.val (.int p1), .val (.int (3 : Int32)), .val (.int p3), .val (.int (31 : Int32))] [(.int p1), (.ref b39), (.ref b39)])) _
    refine Goes.of (fun t k => XS.iloadN X39.here hx rfl (hb hby d9_184) rfl k) ?_
    show Goes p e below (T39.setTop (mkF m 185 #[.val (.int p1), .val (.int (3 : Int32)), .val (.int p3), .val (.int (31 : Int32))] [(.int (3 : Int32)), (.int p1), (.ref b39), (.ref b39)])) _
    refine Goes.of (fun t k => XS.iloadN X39.here hx rfl (hb hby d9_185) rfl k) ?_
    obtain ⟨_, _, ⟨T47, L47, k47, n47⟩, -, X47, ⟨Lc47, hQ47, l47, y47, z47⟩, st47⟩ := X39.specialBack hx (y := (⟨"java/time/LocalDate", "<init>", "(III)V"⟩ : MethodName)) rfl hown (mvT hZ (wd hw 73 rfl)) (mvT hZ (wd hw 74 rfl)) (mvT hZ (wd hw 76 rfl)) (by decide) (backOf (W := 1) (rm10 l Z a0 hw [] b39 p1 (3 : Int32) p3  h39 n0 z41 A39 f44 f45 f46 g40) hZ (wd hw 76 rfl) (wd hw 25 rfl) (by decide) (by decide)) (g := (mkF m 186 #[.val (.int p1), .val (.int (3 : Int32)), .val (.int p3), .val (.int (31 : Int32))] [(.int p3), (.int (3 : Int32)), (.int p1), (.ref b39), (.ref b39)])) rfl (by rw [hml]; rfl) (Steps.refl _) (a := b39) (argsL := [(.int p1), (.int (3 : Int32)), (.int p3)]) (rest := [(.ref b39)]) (lenOf pd_8 rfl) rfl (by show 2 * 0 + _ ≤ _; exact Nat.le_of_eq rfl) (hb hby d9_186) (fun _ _ => ⟨rfl, e39, (by decide : 1 + 0 ≤ _), (by decide : 3 + 0 ≤ _)⟩)
    dsimp only [Pt.U, Pt.locs, Pt.cells, Pt.slots] at X47 l47 y47 z47 st47 hQ47
    subst l47 y47 z47
    obtain ⟨rfl, N47q, K47, E47, Fy47, Fm47, Fd47⟩ := hQ47
    have N47 := Fr.app N0 N47q
    have K48 : Keep h0 T47.heap [] := K43.trans K47 (allS (Or.inr z42) all0)
    have z49 := Nat.le_trans z41 K47.1
    have f50 := A39.keep K47
    rw [own_s3] at Fm47
    rw [(own_shs (by omega) (by omega))] at Fd47
    refine Goes.of (fun t k => st47.trans k) ?_
    show Goes p e below (T47.setTop (mkF m 189 #[.val (.int p1), .val (.int (3 : Int32)), .val (.int p3), .val (.int (31 : Int32))] [(.ref b39)])) _
    have eh : T47.heap = T47.heap := rfl
    exact Goes.retA X47 hx (by rfl) Bd.returns (by rfl) hlocks (hb hby d9_189) (⟨b39, rfl, N47, by rw [eh]; exact K48, z42, by rw [eh]; exact f50, by rw [eh]; exact Fy47, by rw [eh]; exact Fm47, by rw [eh]; exact Fd47⟩) (by decide) (by decide)
  · refine Goes.of (fun t k => XS.icmpYes X0.here hx rfl (pc0 := 3) (pc' := 179) rfl (hb hby d9_3) rfl (flt hc3_37).2.2.2 (by decide) (by decide) k) ?_
    obtain ⟨T54, h54, X54, e54, E54, A54, D54, -, st54⟩ := newO X0 hx hZ hown (wd hw 71 rfl) (wd hw 72 rfl) (wd hw 25 rfl) e0 (g := (mkF m 179 #[.val (.int p1), .val (.int (3 : Int32)), .val (.int p3), .unset] [])) rfl (hb hby d9_179) (by decide) (by decide)
    obtain ⟨b54, g54⟩ : ∃ z, z = h0.size := ⟨_, rfl⟩
    rw [← g54] at A54 D54 st54
    have g55 : n0 ≤ b54 := Nat.le_trans Z0 (Nat.le_of_eq g54.symm)
    have z56 := Nat.le_trans Z0 E54.1
    have z57 : h0.size ≤ b54 := Nat.le_trans K0.1 (Nat.le_of_eq g54.symm)
    have K58 : Keep h0 h54 [] := K0.ext E54
    have f59 : Fld Z h54 b54 "java/time/LocalDate" "year" "I" (.int (0 : Int32)) := D54 (Or.inr (wd hw 81 rfl)) (ty := .int) (by decide)
    have f60 : Fld Z h54 b54 "java/time/LocalDate" "month" "S" (.int (0 : Int32)) := D54 (Or.inr (wd hw 83 rfl)) (ty := .short) (by decide)
    have f61 : Fld Z h54 b54 "java/time/LocalDate" "day" "S" (.int (0 : Int32)) := D54 (Or.inr (wd hw 85 rfl)) (ty := .short) (by decide)
    refine Goes.of st54 ?_
    show Goes p e below (T54.setTop (mkF m 182 #[.val (.int p1), .val (.int (3 : Int32)), .val (.int p3), .unset] [(.ref b54)])) _
    refine Goes.of (fun t k => XS.dup X54.here hx rfl (hb hby d9_182) rfl rfl k) ?_
    show Goes p e below (T54.setTop (mkF m 183 #[.val (.int p1), .val (.int (3 : Int32)), .val (.int p3), .unset] [(.ref b54), (.ref b54)])) _
    refine Goes.of (fun t k => XS.iloadN X54.here hx rfl (hb hby d9_183) rfl k) ?_
    show Goes p e below (T54.setTop (mkF m 184 #[.val (.int p1), .val (.int (3 : Int32)), .val (.int p3), .unset] [(.int p1), (.ref b54), (.ref b54)])) _
    refine Goes.of (fun t k => XS.iloadN X54.here hx rfl (hb hby d9_184) rfl k) ?_
    show Goes p e below (T54.setTop (mkF m 185 #[.val (.int p1), .val (.int (3 : Int32)), .val (.int p3), .unset] [(.int (3 : Int32)), (.int p1), (.ref b54), (.ref b54)])) _
    refine Goes.of (fun t k => XS.iloadN X54.here hx rfl (hb hby d9_185) rfl k) ?_
    obtain ⟨_, _, ⟨T62, L62, k62, n62⟩, -, X62, ⟨Lc62, hQ62, l62, y62, z62⟩, st62⟩ := X54.specialBack hx (y := (⟨"java/time/LocalDate", "<init>", "(III)V"⟩ : MethodName)) rfl hown (mvT hZ (wd hw 73 rfl)) (mvT hZ (wd hw 74 rfl)) (mvT hZ (wd hw 76 rfl)) (by decide) (backOf (W := 1) (rm10 l Z a0 hw [] b54 p1 (3 : Int32) p3  h54 n0 z56 A54 f59 f60 f61 g55) hZ (wd hw 76 rfl) (wd hw 25 rfl) (by decide) (by decide)) (g := (mkF m 186 #[.val (.int p1), .val (.int (3 : Int32)), .val (.int p3), .unset] [(.int p3), (.int (3 : Int32)), (.int p1), (.ref b54), (.ref b54)])) rfl (by rw [hml]; rfl) (Steps.refl _) (a := b54) (argsL := [(.int p1), (.int (3 : Int32)), (.int p3)]) (rest := [(.ref b54)]) (lenOf pd_8 rfl) rfl (by show 2 * 0 + _ ≤ _; exact Nat.le_of_eq rfl) (hb hby d9_186) (fun _ _ => ⟨rfl, e54, (by decide : 1 + 0 ≤ _), (by decide : 3 + 0 ≤ _)⟩)
    dsimp only [Pt.U, Pt.locs, Pt.cells, Pt.slots] at X62 l62 y62 z62 st62 hQ62
    subst l62 y62 z62
    obtain ⟨rfl, N62q, K62, E62, Fy62, Fm62, Fd62⟩ := hQ62
    have N62 := Fr.app N0 N62q
    have K63 : Keep h0 T62.heap [] := K58.trans K62 (allS (Or.inr z57) all0)
    have z64 := Nat.le_trans z56 K62.1
    have f65 := A54.keep K62
    rw [own_s3] at Fm62
    rw [(own_shs (by omega) (by omega))] at Fd62
    refine Goes.of (fun t k => st62.trans k) ?_
    show Goes p e below (T62.setTop (mkF m 189 #[.val (.int p1), .val (.int (3 : Int32)), .val (.int p3), .unset] [(.ref b54)])) _
    have eh : T62.heap = T62.heap := rfl
    exact Goes.retA X62 hx (by rfl) Bd.returns (by rfl) hlocks (hb hby d9_189) (⟨b54, rfl, N62, by rw [eh]; exact K63, z57, by rw [eh]; exact f65, by rw [eh]; exact Fy62, by rw [eh]; exact Fm62, by rw [eh]; exact Fd62⟩) (by decide) (by decide)
theorem ef_9_69 (m : MethodId) (x0 : Int32) (x1 : Int32) (x2 : Int32) : entryFrame m #[(.int x0), (.int x1), (.int x2)] 4 = mkF m 0 #[.val (.int x0), .val (.int x1), .val (.int x2), .unset] [] := by first | (simp [entryFrame, mkF, argsToLocals, Value.category]; done) | rfl
def Q9_69 (Z : State) (p1 : Int32) (p3 : Int32) (h0 : Heap) (n0 : Nat) (v : Option Value) (h : Heap) (L : List Loc) : Prop := ∃ b : Addr, v = some (.ref b) ∧ Fr n0 L ∧ Keep h0 h [] ∧ h0.size ≤ b ∧ Exa Z h b "java/time/LocalDate" ∧ Fld Z h b "java/time/LocalDate" "year" "I" (.int p1) ∧ Fld Z h b "java/time/LocalDate" "month" "S" (.int (4 : Int32)) ∧ Fld Z h b "java/time/LocalDate" "day" "S" (.int p3)
set_option maxRecDepth 65536 in
set_option maxHeartbeats 40000000 in
theorem rm9_69 (l : Launch) (Z : State) (a0 : Array Value) (hw : ∀ d ∈ tables_1, d.before a0 Z = true) (ws : List Jvm.Cond) (p1 : Int32) (p3 : Int32) (h0 : Heap) (n0 : Nat) (Z0 : n0 ≤ h0.size) (d1 : 1 ≤ p3.toInt) (d2 : p3.toInt ≤ 30) :
    MetFree l (⟨"java/time/LocalDate", "create", "(III)Ljava/time/LocalDate;"⟩ : MethodName) (head1 (Jvm.Cond.code (⟨"java/time/LocalDate", "create", "(III)Ljava/time/LocalDate;"⟩ : MethodName) jdk_2323_method_12_code 4 (some (.object "java/time/LocalDate")) :: ws) ({ frames := 2, cells := 1, slots := 3, locals := 28 } : Room)) (fun a U => a = #[(.int p1), (.int (4 : Int32)), (.int p3)] ∧ Z.Warmed39 U.vm ∧ U.heap = h0) (fun _ _ _ _ _ => True) (fun _ U o U' => ∃ v L, o = .returned v ∧ Q9_69 Z p1 p3 h0 n0 v U'.heap L ∧ FrameEnd U o U' L ({ frames := 2, cells := 1, slots := 3, locals := 28 } : Room).cells ({ frames := 2, cells := 1, slots := 3, locals := 28 } : Room).slots) := by
  refine MetFree.of_bodySF (plainFor_of_name pn_7) hisR ?_
  intro p e s m args below meth c s₁ Bd hml0 hP hK
  obtain ⟨rfl, hZ, hh⟩ := hP
  have hx := Bd.exec
  have hby := Bd.bytes
  have hml : c.maxLocals = 4 := hml0
  have hown : s.vm.findClass "java/time/LocalDate" = some m.cls := findClass_of_methodNamed Bd.named
  have hnm := (name_of_methodNamed Bd.named Bd.method).1
  have hlocks : meth.locks = false := BodyLoose.notSynchronized Bd
  have X0 : Stand p l e ({ frames := 2, cells := 1, slots := 3, locals := 28 } : Room) s m #[(.int p1), (.int (4 : Int32)), (.int p3)] below meth c s₁ [] 0 0 := Stand.of_body Bd
  have e0 : s₁.heap = h0 := by rw [← hh, Bd.state]; rfl
  have N0 := Fr.nil n0
  show Goes p e below (s₁.setTop (entryFrame m #[(.int p1), (.int (4 : Int32)), (.int p3)] 4)) (Fin s (Q9_69 Z p1 p3 h0 n0) ({ frames := 2, cells := 1, slots := 3, locals := 28 } : Room).cells ({ frames := 2, cells := 1, slots := 3, locals := 28 } : Room).slots)
  refine Goes.of (fun t k => castTop (ef_9_69 m p1 (4 : Int32) p3) k) ?_
  have K0 : Keep h0 h0 [] := Keep.refl _ _
  show Goes p e below (s₁.setTop (mkF m 0 #[.val (.int p1), .val (.int (4 : Int32)), .val (.int p3), .unset] [])) _
  refine Goes.of (fun t k => XS.iloadN X0.here hx rfl (hb hby d9_0) rfl k) ?_
  show Goes p e below (s₁.setTop (mkF m 1 #[.val (.int p1), .val (.int (4 : Int32)), .val (.int p3), .unset] [(.int p3)])) _
  refine Goes.of (fun t k => XS.bipush X0.here hx rfl (hb hby d9_1) k) ?_
  show Goes p e below (s₁.setTop (mkF m 3 #[.val (.int p1), .val (.int (4 : Int32)), .val (.int p3), .unset] [(.int (28 : Int32)), (.int p3)])) _
  by_cases hc3_70 : (28 : Int32) < p3
  · refine Goes.of (fun t k => XS.icmpNo X0.here hx rfl (hb hby d9_3) rfl (tlt hc3_70).2.2.2 k) ?_
    show Goes p e below (s₁.setTop (mkF m 6 #[.val (.int p1), .val (.int (4 : Int32)), .val (.int p3), .unset] [])) _
    refine Goes.of (fun t k => XS.iloadN X0.here hx rfl (hb hby d9_6) rfl k) ?_
    show Goes p e below (s₁.setTop (mkF m 7 #[.val (.int p1), .val (.int (4 : Int32)), .val (.int p3), .unset] [(.int (4 : Int32))])) _
    refine Goes.of (fun t k => XS.tswIn X0.here hx rfl (pc0 := 7) (pc' := 81) rfl (hb hby d9_7) rfl (by decide) (o := 74) (by decide) (by decide) (by decide) k) ?_
    show Goes p e below (s₁.setTop (mkF m 81 #[.val (.int p1), .val (.int (4 : Int32)), .val (.int p3), .unset] [])) _
    refine Goes.of (fun t k => XS.bipush X0.here hx rfl (hb hby d9_81) k) ?_
    show Goes p e below (s₁.setTop (mkF m 83 #[.val (.int p1), .val (.int (4 : Int32)), .val (.int p3), .unset] [(.int (30 : Int32))])) _
    refine Goes.of (fun t k => XS.goto X0.here hx rfl (pc0 := 83) (pc' := 88) rfl (hb hby d9_83) (by decide) (by decide) k) ?_
    show Goes p e below (s₁.setTop (mkF m 88 #[.val (.int p1), .val (.int (4 : Int32)), .val (.int p3), .unset] [(.int (30 : Int32))])) _
    refine Goes.of (fun t k => XS.istoreN X0.here hx rfl (hb hby d9_88) rfl (l' := #[.val (.int p1), .val (.int (4 : Int32)), .val (.int p3), .val (.int (30 : Int32))]) rfl k) ?_
    show Goes p e below (s₁.setTop (mkF m 89 #[.val (.int p1), .val (.int (4 : Int32)), .val (.int p3), .val (.int (30 : Int32))] [])) _
    refine Goes.of (fun t k => XS.iloadN X0.here hx rfl (hb hby d9_89) rfl k) ?_
    show Goes p e below (s₁.setTop (mkF m 90 #[.val (.int p1), .val (.int (4 : Int32)), .val (.int p3), .val (.int (30 : Int32))] [(.int p3)])) _
    refine Goes.of (fun t k => XS.iloadN X0.here hx rfl (hb hby d9_90) rfl k) ?_
    show Goes p e below (s₁.setTop (mkF m 91 #[.val (.int p1), .val (.int (4 : Int32)), .val (.int p3), .val (.int (30 : Int32))] [(.int (30 : Int32)), (.int p3)])) _
    have hd91_71 : ¬ ((30 : Int32) < p3) := fun q => by have := Int32.lt_iff_toInt_lt.mp q; have e : (30 : Int32).toInt = 30 := (by decide); omega
    refine Goes.of (fun t k => XS.icmpYes X0.here hx rfl (pc0 := 91) (pc' := 179) rfl (hb hby d9_91) rfl (flt hd91_71).2.2.2 (by decide) (by decide) k) ?_
    obtain ⟨T72, h72, X72, e72, E72, A72, D72, -, st72⟩ := newO X0 hx hZ hown (wd hw 71 rfl) (wd hw 72 rfl) (wd hw 25 rfl) e0 (g := (mkF m 179 #[.val (.int p1), .val (.int (4 : Int32)), .val (.int p3), .val (.int (30 : Int32))] [])) rfl (hb hby d9_179) (by decide) (by decide)
    obtain ⟨b72, g72⟩ : ∃ z, z = h0.size := ⟨_, rfl⟩
    rw [← g72] at A72 D72 st72
    have g73 : n0 ≤ b72 := Nat.le_trans Z0 (Nat.le_of_eq g72.symm)
    have z74 := Nat.le_trans Z0 E72.1
    have z75 : h0.size ≤ b72 := Nat.le_trans K0.1 (Nat.le_of_eq g72.symm)
    have K76 : Keep h0 h72 [] := K0.ext E72
    have f77 : Fld Z h72 b72 "java/time/LocalDate" "year" "I" (.int (0 : Int32)) := D72 (Or.inr (wd hw 81 rfl)) (ty := .int) (by decide)
    have f78 : Fld Z h72 b72 "java/time/LocalDate" "month" "S" (.int (0 : Int32)) := D72 (Or.inr (wd hw 83 rfl)) (ty := .short) (by decide)
    have f79 : Fld Z h72 b72 "java/time/LocalDate" "day" "S" (.int (0 : Int32)) := D72 (Or.inr (wd hw 85 rfl)) (ty := .short) (by decide)
    refine Goes.of st72 ?_
    show Goes p e below (T72.setTop (mkF m 182 #[.val (.int p1), .val (.int (4 : Int32)), .val (.int p3), .val (.int (30 : Int32))] [(.ref b72)])) _
    refine Goes.of (fun t k => XS.dup X72.here hx rfl (hb hby d9_182) rfl rfl k) ?_
    show Goes p e below (T72.setTop (mkF m 183 #[.val (.int p1), .val (.int (4 : Int32)), .val (.int p3), .val (.int (30 : Int32))] [(.ref b72), (.ref b72)])) _
    refine Goes.of (fun t k => XS.iloadN X72.here hx rfl (hb hby d9_183) rfl k) ?_
    show Goes p e below (T72.setTop (mkF m 184 #[.val (.int p1), .val (.int (4 : Int32)), .val (.int p3), .val (.int (30 : Int32))] [(.int p1), (.ref b72), (.ref b72)])) _
    refine Goes.of (fun t k => XS.iloadN X72.here hx rfl (hb hby d9_184) rfl k) ?_
    show Goes p e below (T72.setTop (mkF m 185 #[.val (.int p1), .val (.int (4 : Int32)), .val (.int p3), .val (.int (30 : Int32))] [(.int (4 : Int32)), (.int p1), (.ref b72), (.ref b72)])) _
    refine Goes.of (fun t k => XS.iloadN X72.here hx rfl (hb hby d9_185) rfl k) ?_
    obtain ⟨_, _, ⟨T80, L80, k80, n80⟩, -, X80, ⟨Lc80, hQ80, l80, y80, z80⟩, st80⟩ := X72.specialBack hx (y := (⟨"java/time/LocalDate", "<init>", "(III)V"⟩ : MethodName)) rfl hown (mvT hZ (wd hw 73 rfl)) (mvT hZ (wd hw 74 rfl)) (mvT hZ (wd hw 76 rfl)) (by decide) (backOf (W := 1) (rm10 l Z a0 hw [] b72 p1 (4 : Int32) p3  h72 n0 z74 A72 f77 f78 f79 g73) hZ (wd hw 76 rfl) (wd hw 25 rfl) (by decide) (by decide)) (g := (mkF m 186 #[.val (.int p1), .val (.int (4 : Int32)), .val (.int p3), .val (.int (30 : Int32))] [(.int p3), (.int (4 : Int32)), (.int p1), (.ref b72), (.ref b72)])) rfl (by rw [hml]; rfl) (Steps.refl _) (a := b72) (argsL := [(.int p1), (.int (4 : Int32)), (.int p3)]) (rest := [(.ref b72)]) (lenOf pd_8 rfl) rfl (by show 2 * 0 + _ ≤ _; exact Nat.le_of_eq rfl) (hb hby d9_186) (fun _ _ => ⟨rfl, e72, (by decide : 1 + 0 ≤ _), (by decide : 3 + 0 ≤ _)⟩)
    dsimp only [Pt.U, Pt.locs, Pt.cells, Pt.slots] at X80 l80 y80 z80 st80 hQ80
    subst l80 y80 z80
    obtain ⟨rfl, N80q, K80, E80, Fy80, Fm80, Fd80⟩ := hQ80
    have N80 := Fr.app N0 N80q
    have K81 : Keep h0 T80.heap [] := K76.trans K80 (allS (Or.inr z75) all0)
    have z82 := Nat.le_trans z74 K80.1
    have f83 := A72.keep K80
    rw [own_s4] at Fm80
    rw [(own_shs (by omega) (by omega))] at Fd80
    refine Goes.of (fun t k => st80.trans k) ?_
    show Goes p e below (T80.setTop (mkF m 189 #[.val (.int p1), .val (.int (4 : Int32)), .val (.int p3), .val (.int (30 : Int32))] [(.ref b72)])) _
    have eh : T80.heap = T80.heap := rfl
    exact Goes.retA X80 hx (by rfl) Bd.returns (by rfl) hlocks (hb hby d9_189) (⟨b72, rfl, N80, by rw [eh]; exact K81, z75, by rw [eh]; exact f83, by rw [eh]; exact Fy80, by rw [eh]; exact Fm80, by rw [eh]; exact Fd80⟩) (by decide) (by decide)
  · refine Goes.of (fun t k => XS.icmpYes X0.here hx rfl (pc0 := 3) (pc' := 179) rfl (hb hby d9_3) rfl (flt hc3_70).2.2.2 (by decide) (by decide) k) ?_
    obtain ⟨T87, h87, X87, e87, E87, A87, D87, -, st87⟩ := newO X0 hx hZ hown (wd hw 71 rfl) (wd hw 72 rfl) (wd hw 25 rfl) e0 (g := (mkF m 179 #[.val (.int p1), .val (.int (4 : Int32)), .val (.int p3), .unset] [])) rfl (hb hby d9_179) (by decide) (by decide)
    obtain ⟨b87, g87⟩ : ∃ z, z = h0.size := ⟨_, rfl⟩
    rw [← g87] at A87 D87 st87
    have g88 : n0 ≤ b87 := Nat.le_trans Z0 (Nat.le_of_eq g87.symm)
    have z89 := Nat.le_trans Z0 E87.1
    have z90 : h0.size ≤ b87 := Nat.le_trans K0.1 (Nat.le_of_eq g87.symm)
    have K91 : Keep h0 h87 [] := K0.ext E87
    have f92 : Fld Z h87 b87 "java/time/LocalDate" "year" "I" (.int (0 : Int32)) := D87 (Or.inr (wd hw 81 rfl)) (ty := .int) (by decide)
    have f93 : Fld Z h87 b87 "java/time/LocalDate" "month" "S" (.int (0 : Int32)) := D87 (Or.inr (wd hw 83 rfl)) (ty := .short) (by decide)
    have f94 : Fld Z h87 b87 "java/time/LocalDate" "day" "S" (.int (0 : Int32)) := D87 (Or.inr (wd hw 85 rfl)) (ty := .short) (by decide)
    refine Goes.of st87 ?_
    show Goes p e below (T87.setTop (mkF m 182 #[.val (.int p1), .val (.int (4 : Int32)), .val (.int p3), .unset] [(.ref b87)])) _
    refine Goes.of (fun t k => XS.dup X87.here hx rfl (hb hby d9_182) rfl rfl k) ?_
    show Goes p e below (T87.setTop (mkF m 183 #[.val (.int p1), .val (.int (4 : Int32)), .val (.int p3), .unset] [(.ref b87), (.ref b87)])) _
    refine Goes.of (fun t k => XS.iloadN X87.here hx rfl (hb hby d9_183) rfl k) ?_
    show Goes p e below (T87.setTop (mkF m 184 #[.val (.int p1), .val (.int (4 : Int32)), .val (.int p3), .unset] [(.int p1), (.ref b87), (.ref b87)])) _
    refine Goes.of (fun t k => XS.iloadN X87.here hx rfl (hb hby d9_184) rfl k) ?_
    show Goes p e below (T87.setTop (mkF m 185 #[.val (.int p1), .val (.int (4 : Int32)), .val (.int p3), .unset] [(.int (4 : Int32)), (.int p1), (.ref b87), (.ref b87)])) _
    refine Goes.of (fun t k => XS.iloadN X87.here hx rfl (hb hby d9_185) rfl k) ?_
    obtain ⟨_, _, ⟨T95, L95, k95, n95⟩, -, X95, ⟨Lc95, hQ95, l95, y95, z95⟩, st95⟩ := X87.specialBack hx (y := (⟨"java/time/LocalDate", "<init>", "(III)V"⟩ : MethodName)) rfl hown (mvT hZ (wd hw 73 rfl)) (mvT hZ (wd hw 74 rfl)) (mvT hZ (wd hw 76 rfl)) (by decide) (backOf (W := 1) (rm10 l Z a0 hw [] b87 p1 (4 : Int32) p3  h87 n0 z89 A87 f92 f93 f94 g88) hZ (wd hw 76 rfl) (wd hw 25 rfl) (by decide) (by decide)) (g := (mkF m 186 #[.val (.int p1), .val (.int (4 : Int32)), .val (.int p3), .unset] [(.int p3), (.int (4 : Int32)), (.int p1), (.ref b87), (.ref b87)])) rfl (by rw [hml]; rfl) (Steps.refl _) (a := b87) (argsL := [(.int p1), (.int (4 : Int32)), (.int p3)]) (rest := [(.ref b87)]) (lenOf pd_8 rfl) rfl (by show 2 * 0 + _ ≤ _; exact Nat.le_of_eq rfl) (hb hby d9_186) (fun _ _ => ⟨rfl, e87, (by decide : 1 + 0 ≤ _), (by decide : 3 + 0 ≤ _)⟩)
    dsimp only [Pt.U, Pt.locs, Pt.cells, Pt.slots] at X95 l95 y95 z95 st95 hQ95
    subst l95 y95 z95
    obtain ⟨rfl, N95q, K95, E95, Fy95, Fm95, Fd95⟩ := hQ95
    have N95 := Fr.app N0 N95q
    have K96 : Keep h0 T95.heap [] := K91.trans K95 (allS (Or.inr z90) all0)
    have z97 := Nat.le_trans z89 K95.1
    have f98 := A87.keep K95
    rw [own_s4] at Fm95
    rw [(own_shs (by omega) (by omega))] at Fd95
    refine Goes.of (fun t k => st95.trans k) ?_
    show Goes p e below (T95.setTop (mkF m 189 #[.val (.int p1), .val (.int (4 : Int32)), .val (.int p3), .unset] [(.ref b87)])) _
    have eh : T95.heap = T95.heap := rfl
    exact Goes.retA X95 hx (by rfl) Bd.returns (by rfl) hlocks (hb hby d9_189) (⟨b87, rfl, N95, by rw [eh]; exact K96, z90, by rw [eh]; exact f98, by rw [eh]; exact Fy95, by rw [eh]; exact Fm95, by rw [eh]; exact Fd95⟩) (by decide) (by decide)
theorem own_ge {x : Int32} {m : Int64} {k : Int} (hm : m.toInt = k) (h : k ≤ x.toInt) : ¬ (x.toInt64 < m) := fun q => by
  have := Int64.lt_iff_toInt_lt.mp q; rw [Jvm.Kit.i64_of_i32, hm] at this; omega
theorem own_le' {x : Int32} {m : Int64} {k : Int} (hm : m.toInt = k) (h : x.toInt ≤ k) : ¬ (m < x.toInt64) := fun q => by
  have := Int64.lt_iff_toInt_lt.mp q; rw [Jvm.Kit.i64_of_i32, hm] at this; omega
theorem ef_2 (m : MethodId) (x0 : Int32) (x1 : Int32) (x2 : Int32) : entryFrame m #[(.int x0), (.int x1), (.int x2)] 3 = mkF m 0 #[.val (.int x0), .val (.int x1), .val (.int x2)] [] := by first | (simp [entryFrame, mkF, argsToLocals, Value.category]; done) | rfl
def Q2 (Z : State) (p1 : Int32) (p3 : Int32) (aY : Addr) (rY : Addr) (aO : Addr) (rO : Addr) (aD : Addr) (rD : Addr) (h0 : Heap) (n0 : Nat) (v : Option Value) (h : Heap) (L : List Loc) : Prop := ∃ b : Addr, v = some (.ref b) ∧ Fr n0 L ∧ Keep h0 h [] ∧ h0.size ≤ b ∧ Exa Z h b "java/time/LocalDate" ∧ Fld Z h b "java/time/LocalDate" "year" "I" (.int p1) ∧ Fld Z h b "java/time/LocalDate" "month" "S" (.int (3 : Int32)) ∧ Fld Z h b "java/time/LocalDate" "day" "S" (.int p3)
set_option maxRecDepth 65536 in
set_option maxHeartbeats 40000000 in
theorem rm2 (l : Launch) (Z : State) (a0 : Array Value) (hw : ∀ d ∈ tables_1, d.before a0 Z = true) (ws : List Jvm.Cond) (p1 : Int32) (p3 : Int32) (aY : Addr) (rY : Addr) (aO : Addr) (rO : Addr) (aD : Addr) (rD : Addr) (h0 : Heap) (n0 : Nat) (Z0 : n0 ≤ h0.size) (O0 : Old Z n0 h0) (SY : Sta Z Z.heap "java/time/temporal/ChronoField" "YEAR" "Ljava/time/temporal/ChronoField;" (.ref aY)) (EY : Exa Z Z.heap aY "java/time/temporal/ChronoField") (RY : Fld Z Z.heap aY "java/time/temporal/ChronoField" "range" "Ljava/time/temporal/ValueRange;" (.ref rY)) (GY : Exa Z Z.heap rY "java/time/temporal/ValueRange") (MY : Fld Z Z.heap rY "java/time/temporal/ValueRange" "minSmallest" "J" (.long (-999999999 : Int64))) (XY : Fld Z Z.heap rY "java/time/temporal/ValueRange" "maxLargest" "J" (.long (999999999 : Int64))) (SO : Sta Z Z.heap "java/time/temporal/ChronoField" "MONTH_OF_YEAR" "Ljava/time/temporal/ChronoField;" (.ref aO)) (EO : Exa Z Z.heap aO "java/time/temporal/ChronoField") (RO : Fld Z Z.heap aO "java/time/temporal/ChronoField" "range" "Ljava/time/temporal/ValueRange;" (.ref rO)) (GO : Exa Z Z.heap rO "java/time/temporal/ValueRange") (MO : Fld Z Z.heap rO "java/time/temporal/ValueRange" "minSmallest" "J" (.long (1 : Int64))) (XO : Fld Z Z.heap rO "java/time/temporal/ValueRange" "maxLargest" "J" (.long (12 : Int64))) (SD : Sta Z Z.heap "java/time/temporal/ChronoField" "DAY_OF_MONTH" "Ljava/time/temporal/ChronoField;" (.ref aD)) (ED : Exa Z Z.heap aD "java/time/temporal/ChronoField") (RD : Fld Z Z.heap aD "java/time/temporal/ChronoField" "range" "Ljava/time/temporal/ValueRange;" (.ref rD)) (GD : Exa Z Z.heap rD "java/time/temporal/ValueRange") (MD : Fld Z Z.heap rD "java/time/temporal/ValueRange" "minSmallest" "J" (.long (1 : Int64))) (XD : Fld Z Z.heap rD "java/time/temporal/ValueRange" "maxLargest" "J" (.long (31 : Int64))) (y1 : 0 ≤ p1.toInt) (y2 : p1.toInt < 1000000000) (d1 : 1 ≤ p3.toInt) (d2 : p3.toInt ≤ 31) :
    MetFree l (⟨"java/time/LocalDate", "of", "(III)Ljava/time/LocalDate;"⟩ : MethodName) (head1 (Jvm.Cond.code (⟨"java/time/LocalDate", "of", "(III)Ljava/time/LocalDate;"⟩ : MethodName) jdk_2323_method_5_code 3 (some (.object "java/time/LocalDate")) :: ws) ({ frames := 4, cells := 1, slots := 3, locals := 57 } : Room)) (fun a U => a = #[(.int p1), (.int (3 : Int32)), (.int p3)] ∧ Z.Warmed39 U.vm ∧ U.heap = h0) (fun _ _ _ _ _ => True) (fun _ U o U' => ∃ v L, o = .returned v ∧ Q2 Z p1 p3 aY rY aO rO aD rD h0 n0 v U'.heap L ∧ FrameEnd U o U' L ({ frames := 4, cells := 1, slots := 3, locals := 57 } : Room).cells ({ frames := 4, cells := 1, slots := 3, locals := 57 } : Room).slots) := by
  refine MetFree.of_bodySF (plainFor_of_name pn_7) hisR ?_
  intro p e s m args below meth c s₁ Bd hml0 hP hK
  obtain ⟨rfl, hZ, hh⟩ := hP
  have hx := Bd.exec
  have hby := Bd.bytes
  have hml : c.maxLocals = 3 := hml0
  have hown : s.vm.findClass "java/time/LocalDate" = some m.cls := findClass_of_methodNamed Bd.named
  have hnm := (name_of_methodNamed Bd.named Bd.method).1
  have hlocks : meth.locks = false := BodyLoose.notSynchronized Bd
  have X0 : Stand p l e ({ frames := 4, cells := 1, slots := 3, locals := 57 } : Room) s m #[(.int p1), (.int (3 : Int32)), (.int p3)] below meth c s₁ [] 0 0 := Stand.of_body Bd
  have e0 : s₁.heap = h0 := by rw [← hh, Bd.state]; rfl
  have N0 := Fr.nil n0
  show Goes p e below (s₁.setTop (entryFrame m #[(.int p1), (.int (3 : Int32)), (.int p3)] 3)) (Fin s (Q2 Z p1 p3 aY rY aO rO aD rD h0 n0) ({ frames := 4, cells := 1, slots := 3, locals := 57 } : Room).cells ({ frames := 4, cells := 1, slots := 3, locals := 57 } : Room).slots)
  refine Goes.of (fun t k => castTop (ef_2 m p1 (3 : Int32) p3) k) ?_
  have K0 : Keep h0 h0 [] := Keep.refl _ _
  obtain ⟨T102, X102, e102, st102⟩ := getS2 X0 hx hZ hown (host := "") (Or.inl (wd hw 27 rfl)) Via.refl e0 (SY.ext O0.2) (g := (mkF m 0 #[.val (.int p1), .val (.int (3 : Int32)), .val (.int p3)] [])) rfl (hb hby d2_0)
  refine Goes.of st102 ?_
  show Goes p e below (T102.setTop (mkF m 3 #[.val (.int p1), .val (.int (3 : Int32)), .val (.int p3)] [(.ref aY)])) _
  refine Goes.of (fun t k => XS.iloadN X102.here hx rfl (hb hby d2_3) rfl k) ?_
  show Goes p e below (T102.setTop (mkF m 4 #[.val (.int p1), .val (.int (3 : Int32)), .val (.int p3)] [(.int p1), (.ref aY)])) _
  refine Goes.of (fun t k => XS.i2l X102.here hx rfl (hb hby d2_4) rfl k) ?_
  obtain ⟨cq103, kq103, q103a, q103b, q103c⟩ := isOf hZ e102 (EY.ext O0.2)
  obtain ⟨_, _, ⟨T103, L103, k103, n103⟩, -, X103, ⟨Lc103, hQ103, l103, y103, z103⟩, st103⟩ := X102.virtualBack hx (y := (⟨"java/time/temporal/ChronoField", "checkValidValue", "(J)J"⟩ : MethodName)) (z := (⟨"java/time/temporal/ChronoField", "checkValidValue", "(J)J"⟩ : MethodName)) hown (mvT hZ (wd hw 29 rfl)) (mvT hZ (wd hw 30 rfl)) (notFace_of_selects (args := #[]) (mvT hZ (wd hw 32 rfl))) (mvT hZ (wd hw 32 rfl)) (mvT hZ (wd hw 31 rfl)) (by decide) (backOf (W := 0) (rm3 l Z a0 hw [] aY (p1.toInt64) rY (-999999999 : Int64) (999999999 : Int64) h0 n0 Z0 (EY.ext O0.2) (RY.ext O0.2) (GY.ext O0.2) (MY.ext O0.2) (XY.ext O0.2) (own_ge (k := -999999999) (by decide) (by omega)) (own_le' (k := 999999999) (by decide) (by omega))) hZ (wd hw 33 rfl) (wd hw 28 rfl) (by decide) (by decide)) q103a q103c (g := (mkF m 5 #[.val (.int p1), .val (.int (3 : Int32)), .val (.int p3)] [(.long (p1.toInt64)), (.ref aY)])) rfl (by rw [hml]; rfl) (Steps.refl _) (argsL := [(.long (p1.toInt64))]) (rest := []) (lenOf pd_9 rfl) rfl (by show 2 * 0 + _ ≤ _; exact Nat.le_of_eq rfl) (hb hby d2_5) (fun _ _ => ⟨rfl, e102, (by decide : 0 + 0 ≤ _), (by decide : 0 + 0 ≤ _)⟩)
  dsimp only [Pt.U, Pt.locs, Pt.cells, Pt.slots] at X103 l103 y103 z103 st103 hQ103
  subst l103 y103 z103
  obtain ⟨rfl, N103q, e103⟩ := hQ103
  have N103 := Fr.app N0 N103q
  refine Goes.of (fun t k => st103.trans k) ?_
  show Goes p e below (T103.setTop (mkF m 8 #[.val (.int p1), .val (.int (3 : Int32)), .val (.int p3)] [(.long (p1.toInt64))])) _
  refine Goes.of (fun t k => own_pop2 X103.here hx rfl (hb hby d2_8) rfl rfl k) ?_
  obtain ⟨T104, X104, e104, st104⟩ := getS2 X103 hx hZ hown (host := "") (Or.inl (wd hw 66 rfl)) Via.refl e103 (SO.ext O0.2) (g := (mkF m 9 #[.val (.int p1), .val (.int (3 : Int32)), .val (.int p3)] [])) rfl (hb hby d2_9)
  refine Goes.of st104 ?_
  show Goes p e below (T104.setTop (mkF m 12 #[.val (.int p1), .val (.int (3 : Int32)), .val (.int p3)] [(.ref aO)])) _
  refine Goes.of (fun t k => XS.iloadN X104.here hx rfl (hb hby d2_12) rfl k) ?_
  show Goes p e below (T104.setTop (mkF m 13 #[.val (.int p1), .val (.int (3 : Int32)), .val (.int p3)] [(.int (3 : Int32)), (.ref aO)])) _
  refine Goes.of (fun t k => XS.i2l X104.here hx rfl (hb hby d2_13) rfl k) ?_
  obtain ⟨cq105, kq105, q105a, q105b, q105c⟩ := isOf hZ e104 (EO.ext O0.2)
  obtain ⟨_, _, ⟨T105, L105, k105, n105⟩, -, X105, ⟨Lc105, hQ105, l105, y105, z105⟩, st105⟩ := X104.virtualBack hx (y := (⟨"java/time/temporal/ChronoField", "checkValidValue", "(J)J"⟩ : MethodName)) (z := (⟨"java/time/temporal/ChronoField", "checkValidValue", "(J)J"⟩ : MethodName)) hown (mvT hZ (wd hw 29 rfl)) (mvT hZ (wd hw 30 rfl)) (notFace_of_selects (args := #[]) (mvT hZ (wd hw 32 rfl))) (mvT hZ (wd hw 32 rfl)) (mvT hZ (wd hw 31 rfl)) (by decide) (backOf (W := 0) (rm3 l Z a0 hw [] aO ((3 : Int32).toInt64) rO (1 : Int64) (12 : Int64) h0 n0 Z0 (EO.ext O0.2) (RO.ext O0.2) (GO.ext O0.2) (MO.ext O0.2) (XO.ext O0.2) (by decide) (by decide)) hZ (wd hw 33 rfl) (wd hw 28 rfl) (by decide) (by decide)) q105a q105c (g := (mkF m 14 #[.val (.int p1), .val (.int (3 : Int32)), .val (.int p3)] [(.long ((3 : Int32).toInt64)), (.ref aO)])) rfl (by rw [hml]; rfl) (Steps.refl _) (argsL := [(.long ((3 : Int32).toInt64))]) (rest := []) (lenOf pd_9 rfl) rfl (by show 2 * 0 + _ ≤ _; exact Nat.le_of_eq rfl) (hb hby d2_14) (fun _ _ => ⟨rfl, e104, (by decide : 0 + 0 ≤ _), (by decide : 0 + 0 ≤ _)⟩)
  dsimp only [Pt.U, Pt.locs, Pt.cells, Pt.slots] at X105 l105 y105 z105 st105 hQ105
  subst l105 y105 z105
  obtain ⟨rfl, N105q, e105⟩ := hQ105
  have N105 := Fr.app N103 N105q
  refine Goes.of (fun t k => st105.trans k) ?_
  show Goes p e below (T105.setTop (mkF m 17 #[.val (.int p1), .val (.int (3 : Int32)), .val (.int p3)] [(.long ((3 : Int32).toInt64))])) _
  refine Goes.of (fun t k => own_pop2 X105.here hx rfl (hb hby d2_17) rfl rfl k) ?_
  obtain ⟨T106, X106, e106, st106⟩ := getS2 X105 hx hZ hown (host := "") (Or.inl (wd hw 67 rfl)) Via.refl e105 (SD.ext O0.2) (g := (mkF m 18 #[.val (.int p1), .val (.int (3 : Int32)), .val (.int p3)] [])) rfl (hb hby d2_18)
  refine Goes.of st106 ?_
  show Goes p e below (T106.setTop (mkF m 21 #[.val (.int p1), .val (.int (3 : Int32)), .val (.int p3)] [(.ref aD)])) _
  refine Goes.of (fun t k => XS.iloadN X106.here hx rfl (hb hby d2_21) rfl k) ?_
  show Goes p e below (T106.setTop (mkF m 22 #[.val (.int p1), .val (.int (3 : Int32)), .val (.int p3)] [(.int p3), (.ref aD)])) _
  refine Goes.of (fun t k => XS.i2l X106.here hx rfl (hb hby d2_22) rfl k) ?_
  obtain ⟨cq107, kq107, q107a, q107b, q107c⟩ := isOf hZ e106 (ED.ext O0.2)
  obtain ⟨_, _, ⟨T107, L107, k107, n107⟩, -, X107, ⟨Lc107, hQ107, l107, y107, z107⟩, st107⟩ := X106.virtualBack hx (y := (⟨"java/time/temporal/ChronoField", "checkValidValue", "(J)J"⟩ : MethodName)) (z := (⟨"java/time/temporal/ChronoField", "checkValidValue", "(J)J"⟩ : MethodName)) hown (mvT hZ (wd hw 29 rfl)) (mvT hZ (wd hw 30 rfl)) (notFace_of_selects (args := #[]) (mvT hZ (wd hw 32 rfl))) (mvT hZ (wd hw 32 rfl)) (mvT hZ (wd hw 31 rfl)) (by decide) (backOf (W := 0) (rm3 l Z a0 hw [] aD (p3.toInt64) rD (1 : Int64) (31 : Int64) h0 n0 Z0 (ED.ext O0.2) (RD.ext O0.2) (GD.ext O0.2) (MD.ext O0.2) (XD.ext O0.2) (own_ge (k := 1) (by decide) (by omega)) (own_le' (k := 31) (by decide) (by omega))) hZ (wd hw 33 rfl) (wd hw 28 rfl) (by decide) (by decide)) q107a q107c (g := (mkF m 23 #[.val (.int p1), .val (.int (3 : Int32)), .val (.int p3)] [(.long (p3.toInt64)), (.ref aD)])) rfl (by rw [hml]; rfl) (Steps.refl _) (argsL := [(.long (p3.toInt64))]) (rest := []) (lenOf pd_9 rfl) rfl (by show 2 * 0 + _ ≤ _; exact Nat.le_of_eq rfl) (hb hby d2_23) (fun _ _ => ⟨rfl, e106, (by decide : 0 + 0 ≤ _), (by decide : 0 + 0 ≤ _)⟩)
  dsimp only [Pt.U, Pt.locs, Pt.cells, Pt.slots] at X107 l107 y107 z107 st107 hQ107
  subst l107 y107 z107
  obtain ⟨rfl, N107q, e107⟩ := hQ107
  have N107 := Fr.app N105 N107q
  refine Goes.of (fun t k => st107.trans k) ?_
  show Goes p e below (T107.setTop (mkF m 26 #[.val (.int p1), .val (.int (3 : Int32)), .val (.int p3)] [(.long (p3.toInt64))])) _
  refine Goes.of (fun t k => own_pop2 X107.here hx rfl (hb hby d2_26) rfl rfl k) ?_
  show Goes p e below (T107.setTop (mkF m 27 #[.val (.int p1), .val (.int (3 : Int32)), .val (.int p3)] [])) _
  refine Goes.of (fun t k => XS.iloadN X107.here hx rfl (hb hby d2_27) rfl k) ?_
  show Goes p e below (T107.setTop (mkF m 28 #[.val (.int p1), .val (.int (3 : Int32)), .val (.int p3)] [(.int p1)])) _
  refine Goes.of (fun t k => XS.iloadN X107.here hx rfl (hb hby d2_28) rfl k) ?_
  show Goes p e below (T107.setTop (mkF m 29 #[.val (.int p1), .val (.int (3 : Int32)), .val (.int p3)] [(.int (3 : Int32)), (.int p1)])) _
  refine Goes.of (fun t k => XS.iloadN X107.here hx rfl (hb hby d2_29) rfl k) ?_
  obtain ⟨_, _, ⟨T108, L108, k108, n108⟩, -, X108, ⟨Lc108, hQ108, l108, y108, z108⟩, st108⟩ := Jvm.LawKit.callS X107 hx (y := (⟨"java/time/LocalDate", "create", "(III)Ljava/time/LocalDate;"⟩ : MethodName)) hown (mvT hZ (wd hw 68 rfl)) (mvT hZ (wd hw 69 rfl)) (mvT hZ (wd hw 25 rfl)) (mvT hZ (wd hw 70 rfl)) (by decide) (backOf (W := 0) (rm9 l Z a0 hw [] p1 p3  h0 n0 Z0 d1 d2) hZ (wd hw 70 rfl) (wd hw 25 rfl) (by decide) (by decide)) (g := (mkF m 30 #[.val (.int p1), .val (.int (3 : Int32)), .val (.int p3)] [(.int p3), (.int (3 : Int32)), (.int p1)])) rfl (by rw [hml]; rfl) (argsL := [(.int p1), (.int (3 : Int32)), (.int p3)]) (rest := []) (lenOf pd_10 rfl) rfl (by show 2 * 0 + _ ≤ _; exact Nat.le_of_eq rfl) (hb hby d2_30) (fun _ _ => ⟨rfl, e107, (by decide : 0 + 1 ≤ _), (by decide : 0 + 3 ≤ _)⟩)
  dsimp only [Pt.U, Pt.locs, Pt.cells, Pt.slots] at X108 l108 y108 z108 st108 hQ108
  subst l108 y108 z108
  obtain ⟨b108, rfl, N108q, K108, z108b, E108, F108_year, F108_month, F108_day⟩ := hQ108
  have N108 := Fr.app N107 N108q
  have q109 : aY ≠ b108 := Nat.ne_of_lt (Nat.lt_of_lt_of_le (EY.ext O0.2).lt z108b)
  have q110 : aO ≠ b108 := Nat.ne_of_lt (Nat.lt_of_lt_of_le (EO.ext O0.2).lt z108b)
  have q111 : aD ≠ b108 := Nat.ne_of_lt (Nat.lt_of_lt_of_le (ED.ext O0.2).lt z108b)
  have g112 : n0 ≤ b108 := Nat.le_trans Z0 z108b
  have z113 : h0.size ≤ b108 := Nat.le_trans K0.1 z108b
  have K114 : Keep h0 T108.heap [] := K0.trans K108 all0
  have z115 := Nat.le_trans Z0 K108.1
  have f116 := O0.keep K108 all0
  refine Goes.of st108 ?_
  show Goes p e below (T108.setTop (mkF m 33 #[.val (.int p1), .val (.int (3 : Int32)), .val (.int p3)] [(.ref b108)])) _
  have eh : T108.heap = T108.heap := rfl
  exact Goes.retA X108 hx (by rfl) Bd.returns (by rfl) hlocks (hb hby d2_33) (⟨b108, rfl, N108, by rw [eh]; exact K114, z113, by rw [eh]; exact E108, by rw [eh]; exact F108_year, by rw [eh]; exact F108_month, by rw [eh]; exact F108_day⟩) (by decide) (by decide)
theorem ef_2_117 (m : MethodId) (x0 : Int32) (x1 : Int32) (x2 : Int32) : entryFrame m #[(.int x0), (.int x1), (.int x2)] 3 = mkF m 0 #[.val (.int x0), .val (.int x1), .val (.int x2)] [] := by first | (simp [entryFrame, mkF, argsToLocals, Value.category]; done) | rfl
def Q2_117 (Z : State) (p1 : Int32) (p3 : Int32) (aY : Addr) (rY : Addr) (aO : Addr) (rO : Addr) (aD : Addr) (rD : Addr) (h0 : Heap) (n0 : Nat) (v : Option Value) (h : Heap) (L : List Loc) : Prop := ∃ b : Addr, v = some (.ref b) ∧ Fr n0 L ∧ Keep h0 h [] ∧ h0.size ≤ b ∧ Exa Z h b "java/time/LocalDate" ∧ Fld Z h b "java/time/LocalDate" "year" "I" (.int p1) ∧ Fld Z h b "java/time/LocalDate" "month" "S" (.int (4 : Int32)) ∧ Fld Z h b "java/time/LocalDate" "day" "S" (.int p3)
set_option maxRecDepth 65536 in
set_option maxHeartbeats 40000000 in
theorem rm2_117 (l : Launch) (Z : State) (a0 : Array Value) (hw : ∀ d ∈ tables_1, d.before a0 Z = true) (ws : List Jvm.Cond) (p1 : Int32) (p3 : Int32) (aY : Addr) (rY : Addr) (aO : Addr) (rO : Addr) (aD : Addr) (rD : Addr) (h0 : Heap) (n0 : Nat) (Z0 : n0 ≤ h0.size) (O0 : Old Z n0 h0) (SY : Sta Z Z.heap "java/time/temporal/ChronoField" "YEAR" "Ljava/time/temporal/ChronoField;" (.ref aY)) (EY : Exa Z Z.heap aY "java/time/temporal/ChronoField") (RY : Fld Z Z.heap aY "java/time/temporal/ChronoField" "range" "Ljava/time/temporal/ValueRange;" (.ref rY)) (GY : Exa Z Z.heap rY "java/time/temporal/ValueRange") (MY : Fld Z Z.heap rY "java/time/temporal/ValueRange" "minSmallest" "J" (.long (-999999999 : Int64))) (XY : Fld Z Z.heap rY "java/time/temporal/ValueRange" "maxLargest" "J" (.long (999999999 : Int64))) (SO : Sta Z Z.heap "java/time/temporal/ChronoField" "MONTH_OF_YEAR" "Ljava/time/temporal/ChronoField;" (.ref aO)) (EO : Exa Z Z.heap aO "java/time/temporal/ChronoField") (RO : Fld Z Z.heap aO "java/time/temporal/ChronoField" "range" "Ljava/time/temporal/ValueRange;" (.ref rO)) (GO : Exa Z Z.heap rO "java/time/temporal/ValueRange") (MO : Fld Z Z.heap rO "java/time/temporal/ValueRange" "minSmallest" "J" (.long (1 : Int64))) (XO : Fld Z Z.heap rO "java/time/temporal/ValueRange" "maxLargest" "J" (.long (12 : Int64))) (SD : Sta Z Z.heap "java/time/temporal/ChronoField" "DAY_OF_MONTH" "Ljava/time/temporal/ChronoField;" (.ref aD)) (ED : Exa Z Z.heap aD "java/time/temporal/ChronoField") (RD : Fld Z Z.heap aD "java/time/temporal/ChronoField" "range" "Ljava/time/temporal/ValueRange;" (.ref rD)) (GD : Exa Z Z.heap rD "java/time/temporal/ValueRange") (MD : Fld Z Z.heap rD "java/time/temporal/ValueRange" "minSmallest" "J" (.long (1 : Int64))) (XD : Fld Z Z.heap rD "java/time/temporal/ValueRange" "maxLargest" "J" (.long (31 : Int64))) (y1 : 0 ≤ p1.toInt) (y2 : p1.toInt < 1000000000) (d1 : 1 ≤ p3.toInt) (d2 : p3.toInt ≤ 30) :
    MetFree l (⟨"java/time/LocalDate", "of", "(III)Ljava/time/LocalDate;"⟩ : MethodName) (head1 (Jvm.Cond.code (⟨"java/time/LocalDate", "of", "(III)Ljava/time/LocalDate;"⟩ : MethodName) jdk_2323_method_5_code 3 (some (.object "java/time/LocalDate")) :: ws) ({ frames := 4, cells := 1, slots := 3, locals := 57 } : Room)) (fun a U => a = #[(.int p1), (.int (4 : Int32)), (.int p3)] ∧ Z.Warmed39 U.vm ∧ U.heap = h0) (fun _ _ _ _ _ => True) (fun _ U o U' => ∃ v L, o = .returned v ∧ Q2_117 Z p1 p3 aY rY aO rO aD rD h0 n0 v U'.heap L ∧ FrameEnd U o U' L ({ frames := 4, cells := 1, slots := 3, locals := 57 } : Room).cells ({ frames := 4, cells := 1, slots := 3, locals := 57 } : Room).slots) := by
  refine MetFree.of_bodySF (plainFor_of_name pn_7) hisR ?_
  intro p e s m args below meth c s₁ Bd hml0 hP hK
  obtain ⟨rfl, hZ, hh⟩ := hP
  have hx := Bd.exec
  have hby := Bd.bytes
  have hml : c.maxLocals = 3 := hml0
  have hown : s.vm.findClass "java/time/LocalDate" = some m.cls := findClass_of_methodNamed Bd.named
  have hnm := (name_of_methodNamed Bd.named Bd.method).1
  have hlocks : meth.locks = false := BodyLoose.notSynchronized Bd
  have X0 : Stand p l e ({ frames := 4, cells := 1, slots := 3, locals := 57 } : Room) s m #[(.int p1), (.int (4 : Int32)), (.int p3)] below meth c s₁ [] 0 0 := Stand.of_body Bd
  have e0 : s₁.heap = h0 := by rw [← hh, Bd.state]; rfl
  have N0 := Fr.nil n0
  show Goes p e below (s₁.setTop (entryFrame m #[(.int p1), (.int (4 : Int32)), (.int p3)] 3)) (Fin s (Q2_117 Z p1 p3 aY rY aO rO aD rD h0 n0) ({ frames := 4, cells := 1, slots := 3, locals := 57 } : Room).cells ({ frames := 4, cells := 1, slots := 3, locals := 57 } : Room).slots)
  refine Goes.of (fun t k => castTop (ef_2_117 m p1 (4 : Int32) p3) k) ?_
  have K0 : Keep h0 h0 [] := Keep.refl _ _
  obtain ⟨T118, X118, e118, st118⟩ := getS2 X0 hx hZ hown (host := "") (Or.inl (wd hw 27 rfl)) Via.refl e0 (SY.ext O0.2) (g := (mkF m 0 #[.val (.int p1), .val (.int (4 : Int32)), .val (.int p3)] [])) rfl (hb hby d2_0)
  refine Goes.of st118 ?_
  show Goes p e below (T118.setTop (mkF m 3 #[.val (.int p1), .val (.int (4 : Int32)), .val (.int p3)] [(.ref aY)])) _
  refine Goes.of (fun t k => XS.iloadN X118.here hx rfl (hb hby d2_3) rfl k) ?_
  show Goes p e below (T118.setTop (mkF m 4 #[.val (.int p1), .val (.int (4 : Int32)), .val (.int p3)] [(.int p1), (.ref aY)])) _
  refine Goes.of (fun t k => XS.i2l X118.here hx rfl (hb hby d2_4) rfl k) ?_
  obtain ⟨cq119, kq119, q119a, q119b, q119c⟩ := isOf hZ e118 (EY.ext O0.2)
  obtain ⟨_, _, ⟨T119, L119, k119, n119⟩, -, X119, ⟨Lc119, hQ119, l119, y119, z119⟩, st119⟩ := X118.virtualBack hx (y := (⟨"java/time/temporal/ChronoField", "checkValidValue", "(J)J"⟩ : MethodName)) (z := (⟨"java/time/temporal/ChronoField", "checkValidValue", "(J)J"⟩ : MethodName)) hown (mvT hZ (wd hw 29 rfl)) (mvT hZ (wd hw 30 rfl)) (notFace_of_selects (args := #[]) (mvT hZ (wd hw 32 rfl))) (mvT hZ (wd hw 32 rfl)) (mvT hZ (wd hw 31 rfl)) (by decide) (backOf (W := 0) (rm3 l Z a0 hw [] aY (p1.toInt64) rY (-999999999 : Int64) (999999999 : Int64) h0 n0 Z0 (EY.ext O0.2) (RY.ext O0.2) (GY.ext O0.2) (MY.ext O0.2) (XY.ext O0.2) (own_ge (k := -999999999) (by decide) (by omega)) (own_le' (k := 999999999) (by decide) (by omega))) hZ (wd hw 33 rfl) (wd hw 28 rfl) (by decide) (by decide)) q119a q119c (g := (mkF m 5 #[.val (.int p1), .val (.int (4 : Int32)), .val (.int p3)] [(.long (p1.toInt64)), (.ref aY)])) rfl (by rw [hml]; rfl) (Steps.refl _) (argsL := [(.long (p1.toInt64))]) (rest := []) (lenOf pd_9 rfl) rfl (by show 2 * 0 + _ ≤ _; exact Nat.le_of_eq rfl) (hb hby d2_5) (fun _ _ => ⟨rfl, e118, (by decide : 0 + 0 ≤ _), (by decide : 0 + 0 ≤ _)⟩)
  dsimp only [Pt.U, Pt.locs, Pt.cells, Pt.slots] at X119 l119 y119 z119 st119 hQ119
  subst l119 y119 z119
  obtain ⟨rfl, N119q, e119⟩ := hQ119
  have N119 := Fr.app N0 N119q
  refine Goes.of (fun t k => st119.trans k) ?_
  show Goes p e below (T119.setTop (mkF m 8 #[.val (.int p1), .val (.int (4 : Int32)), .val (.int p3)] [(.long (p1.toInt64))])) _
  refine Goes.of (fun t k => own_pop2 X119.here hx rfl (hb hby d2_8) rfl rfl k) ?_
  obtain ⟨T120, X120, e120, st120⟩ := getS2 X119 hx hZ hown (host := "") (Or.inl (wd hw 66 rfl)) Via.refl e119 (SO.ext O0.2) (g := (mkF m 9 #[.val (.int p1), .val (.int (4 : Int32)), .val (.int p3)] [])) rfl (hb hby d2_9)
  refine Goes.of st120 ?_
  show Goes p e below (T120.setTop (mkF m 12 #[.val (.int p1), .val (.int (4 : Int32)), .val (.int p3)] [(.ref aO)])) _
  refine Goes.of (fun t k => XS.iloadN X120.here hx rfl (hb hby d2_12) rfl k) ?_
  show Goes p e below (T120.setTop (mkF m 13 #[.val (.int p1), .val (.int (4 : Int32)), .val (.int p3)] [(.int (4 : Int32)), (.ref aO)])) _
  refine Goes.of (fun t k => XS.i2l X120.here hx rfl (hb hby d2_13) rfl k) ?_
  obtain ⟨cq121, kq121, q121a, q121b, q121c⟩ := isOf hZ e120 (EO.ext O0.2)
  obtain ⟨_, _, ⟨T121, L121, k121, n121⟩, -, X121, ⟨Lc121, hQ121, l121, y121, z121⟩, st121⟩ := X120.virtualBack hx (y := (⟨"java/time/temporal/ChronoField", "checkValidValue", "(J)J"⟩ : MethodName)) (z := (⟨"java/time/temporal/ChronoField", "checkValidValue", "(J)J"⟩ : MethodName)) hown (mvT hZ (wd hw 29 rfl)) (mvT hZ (wd hw 30 rfl)) (notFace_of_selects (args := #[]) (mvT hZ (wd hw 32 rfl))) (mvT hZ (wd hw 32 rfl)) (mvT hZ (wd hw 31 rfl)) (by decide) (backOf (W := 0) (rm3 l Z a0 hw [] aO ((4 : Int32).toInt64) rO (1 : Int64) (12 : Int64) h0 n0 Z0 (EO.ext O0.2) (RO.ext O0.2) (GO.ext O0.2) (MO.ext O0.2) (XO.ext O0.2) (by decide) (by decide)) hZ (wd hw 33 rfl) (wd hw 28 rfl) (by decide) (by decide)) q121a q121c (g := (mkF m 14 #[.val (.int p1), .val (.int (4 : Int32)), .val (.int p3)] [(.long ((4 : Int32).toInt64)), (.ref aO)])) rfl (by rw [hml]; rfl) (Steps.refl _) (argsL := [(.long ((4 : Int32).toInt64))]) (rest := []) (lenOf pd_9 rfl) rfl (by show 2 * 0 + _ ≤ _; exact Nat.le_of_eq rfl) (hb hby d2_14) (fun _ _ => ⟨rfl, e120, (by decide : 0 + 0 ≤ _), (by decide : 0 + 0 ≤ _)⟩)
  dsimp only [Pt.U, Pt.locs, Pt.cells, Pt.slots] at X121 l121 y121 z121 st121 hQ121
  subst l121 y121 z121
  obtain ⟨rfl, N121q, e121⟩ := hQ121
  have N121 := Fr.app N119 N121q
  refine Goes.of (fun t k => st121.trans k) ?_
  show Goes p e below (T121.setTop (mkF m 17 #[.val (.int p1), .val (.int (4 : Int32)), .val (.int p3)] [(.long ((4 : Int32).toInt64))])) _
  refine Goes.of (fun t k => own_pop2 X121.here hx rfl (hb hby d2_17) rfl rfl k) ?_
  obtain ⟨T122, X122, e122, st122⟩ := getS2 X121 hx hZ hown (host := "") (Or.inl (wd hw 67 rfl)) Via.refl e121 (SD.ext O0.2) (g := (mkF m 18 #[.val (.int p1), .val (.int (4 : Int32)), .val (.int p3)] [])) rfl (hb hby d2_18)
  refine Goes.of st122 ?_
  show Goes p e below (T122.setTop (mkF m 21 #[.val (.int p1), .val (.int (4 : Int32)), .val (.int p3)] [(.ref aD)])) _
  refine Goes.of (fun t k => XS.iloadN X122.here hx rfl (hb hby d2_21) rfl k) ?_
  show Goes p e below (T122.setTop (mkF m 22 #[.val (.int p1), .val (.int (4 : Int32)), .val (.int p3)] [(.int p3), (.ref aD)])) _
  refine Goes.of (fun t k => XS.i2l X122.here hx rfl (hb hby d2_22) rfl k) ?_
  obtain ⟨cq123, kq123, q123a, q123b, q123c⟩ := isOf hZ e122 (ED.ext O0.2)
  obtain ⟨_, _, ⟨T123, L123, k123, n123⟩, -, X123, ⟨Lc123, hQ123, l123, y123, z123⟩, st123⟩ := X122.virtualBack hx (y := (⟨"java/time/temporal/ChronoField", "checkValidValue", "(J)J"⟩ : MethodName)) (z := (⟨"java/time/temporal/ChronoField", "checkValidValue", "(J)J"⟩ : MethodName)) hown (mvT hZ (wd hw 29 rfl)) (mvT hZ (wd hw 30 rfl)) (notFace_of_selects (args := #[]) (mvT hZ (wd hw 32 rfl))) (mvT hZ (wd hw 32 rfl)) (mvT hZ (wd hw 31 rfl)) (by decide) (backOf (W := 0) (rm3 l Z a0 hw [] aD (p3.toInt64) rD (1 : Int64) (31 : Int64) h0 n0 Z0 (ED.ext O0.2) (RD.ext O0.2) (GD.ext O0.2) (MD.ext O0.2) (XD.ext O0.2) (own_ge (k := 1) (by decide) (by omega)) (own_le' (k := 31) (by decide) (by omega))) hZ (wd hw 33 rfl) (wd hw 28 rfl) (by decide) (by decide)) q123a q123c (g := (mkF m 23 #[.val (.int p1), .val (.int (4 : Int32)), .val (.int p3)] [(.long (p3.toInt64)), (.ref aD)])) rfl (by rw [hml]; rfl) (Steps.refl _) (argsL := [(.long (p3.toInt64))]) (rest := []) (lenOf pd_9 rfl) rfl (by show 2 * 0 + _ ≤ _; exact Nat.le_of_eq rfl) (hb hby d2_23) (fun _ _ => ⟨rfl, e122, (by decide : 0 + 0 ≤ _), (by decide : 0 + 0 ≤ _)⟩)
  dsimp only [Pt.U, Pt.locs, Pt.cells, Pt.slots] at X123 l123 y123 z123 st123 hQ123
  subst l123 y123 z123
  obtain ⟨rfl, N123q, e123⟩ := hQ123
  have N123 := Fr.app N121 N123q
  refine Goes.of (fun t k => st123.trans k) ?_
  show Goes p e below (T123.setTop (mkF m 26 #[.val (.int p1), .val (.int (4 : Int32)), .val (.int p3)] [(.long (p3.toInt64))])) _
  refine Goes.of (fun t k => own_pop2 X123.here hx rfl (hb hby d2_26) rfl rfl k) ?_
  show Goes p e below (T123.setTop (mkF m 27 #[.val (.int p1), .val (.int (4 : Int32)), .val (.int p3)] [])) _
  refine Goes.of (fun t k => XS.iloadN X123.here hx rfl (hb hby d2_27) rfl k) ?_
  show Goes p e below (T123.setTop (mkF m 28 #[.val (.int p1), .val (.int (4 : Int32)), .val (.int p3)] [(.int p1)])) _
  refine Goes.of (fun t k => XS.iloadN X123.here hx rfl (hb hby d2_28) rfl k) ?_
  show Goes p e below (T123.setTop (mkF m 29 #[.val (.int p1), .val (.int (4 : Int32)), .val (.int p3)] [(.int (4 : Int32)), (.int p1)])) _
  refine Goes.of (fun t k => XS.iloadN X123.here hx rfl (hb hby d2_29) rfl k) ?_
  obtain ⟨_, _, ⟨T124, L124, k124, n124⟩, -, X124, ⟨Lc124, hQ124, l124, y124, z124⟩, st124⟩ := Jvm.LawKit.callS X123 hx (y := (⟨"java/time/LocalDate", "create", "(III)Ljava/time/LocalDate;"⟩ : MethodName)) hown (mvT hZ (wd hw 68 rfl)) (mvT hZ (wd hw 69 rfl)) (mvT hZ (wd hw 25 rfl)) (mvT hZ (wd hw 70 rfl)) (by decide) (backOf (W := 0) (rm9_69 l Z a0 hw [] p1 p3  h0 n0 Z0 d1 d2) hZ (wd hw 70 rfl) (wd hw 25 rfl) (by decide) (by decide)) (g := (mkF m 30 #[.val (.int p1), .val (.int (4 : Int32)), .val (.int p3)] [(.int p3), (.int (4 : Int32)), (.int p1)])) rfl (by rw [hml]; rfl) (argsL := [(.int p1), (.int (4 : Int32)), (.int p3)]) (rest := []) (lenOf pd_10 rfl) rfl (by show 2 * 0 + _ ≤ _; exact Nat.le_of_eq rfl) (hb hby d2_30) (fun _ _ => ⟨rfl, e123, (by decide : 0 + 1 ≤ _), (by decide : 0 + 3 ≤ _)⟩)
  dsimp only [Pt.U, Pt.locs, Pt.cells, Pt.slots] at X124 l124 y124 z124 st124 hQ124
  subst l124 y124 z124
  obtain ⟨b124, rfl, N124q, K124, z124b, E124, F124_year, F124_month, F124_day⟩ := hQ124
  have N124 := Fr.app N123 N124q
  have q125 : aY ≠ b124 := Nat.ne_of_lt (Nat.lt_of_lt_of_le (EY.ext O0.2).lt z124b)
  have q126 : aO ≠ b124 := Nat.ne_of_lt (Nat.lt_of_lt_of_le (EO.ext O0.2).lt z124b)
  have q127 : aD ≠ b124 := Nat.ne_of_lt (Nat.lt_of_lt_of_le (ED.ext O0.2).lt z124b)
  have g128 : n0 ≤ b124 := Nat.le_trans Z0 z124b
  have z129 : h0.size ≤ b124 := Nat.le_trans K0.1 z124b
  have K130 : Keep h0 T124.heap [] := K0.trans K124 all0
  have z131 := Nat.le_trans Z0 K124.1
  have f132 := O0.keep K124 all0
  refine Goes.of st124 ?_
  show Goes p e below (T124.setTop (mkF m 33 #[.val (.int p1), .val (.int (4 : Int32)), .val (.int p3)] [(.ref b124)])) _
  have eh : T124.heap = T124.heap := rfl
  exact Goes.retA X124 hx (by rfl) Bd.returns (by rfl) hlocks (hb hby d2_33) (⟨b124, rfl, N124, by rw [eh]; exact K130, z129, by rw [eh]; exact E124, by rw [eh]; exact F124_year, by rw [eh]; exact F124_month, by rw [eh]; exact F124_day⟩) (by decide) (by decide)
theorem ef_14 (m : MethodId) (x0 : Addr) (x1 : Addr) : entryFrame m #[(.ref x0), (.ref x1)] 2 = mkF m 0 #[.val (.ref x0), .val (.ref x1)] [] := by first | (simp [entryFrame, mkF, argsToLocals, Value.category]; done) | rfl
def Q14 (Z : State) (a1 : Addr) (a2 : Addr) (h0 : Heap) (n0 : Nat) (v : Option Value) (h : Heap) (L : List Loc) : Prop := v = some (.ref a1) ∧ Fr n0 L ∧ h = h0
set_option maxRecDepth 65536 in
set_option maxHeartbeats 40000000 in
theorem rm14 (l : Launch) (Z : State) (a0 : Array Value) (hw : ∀ d ∈ tables_1, d.before a0 Z = true) (ws : List Jvm.Cond) (a1 : Addr) (a2 : Addr) (h0 : Heap) (n0 : Nat) (Z0 : n0 ≤ h0.size)  :
    MetFree l (⟨"java/util/Objects", "requireNonNull", "(Ljava/lang/Object;Ljava/lang/String;)Ljava/lang/Object;"⟩ : MethodName) (head1 (Jvm.Cond.code (⟨"java/util/Objects", "requireNonNull", "(Ljava/lang/Object;Ljava/lang/String;)Ljava/lang/Object;"⟩ : MethodName) jdk_31_method_11_code 2 (some (.object "java/lang/Object")) :: ws) ({ frames := 0, cells := 0, slots := 0, locals := 0 } : Room)) (fun a U => a = #[(.ref a1), (.ref a2)] ∧ Z.Warmed39 U.vm ∧ U.heap = h0) (fun _ _ _ _ _ => True) (fun _ U o U' => ∃ v L, o = .returned v ∧ Q14 Z a1 a2 h0 n0 v U'.heap L ∧ FrameEnd U o U' L ({ frames := 0, cells := 0, slots := 0, locals := 0 } : Room).cells ({ frames := 0, cells := 0, slots := 0, locals := 0 } : Room).slots) := by
  refine MetFree.of_bodySF (plainFor_of_name pn_11) hisR ?_
  intro p e s m args below meth c s₁ Bd hml0 hP hK
  obtain ⟨rfl, hZ, hh⟩ := hP
  have hx := Bd.exec
  have hby := Bd.bytes
  have hml : c.maxLocals = 2 := hml0
  have hown : s.vm.findClass "java/util/Objects" = some m.cls := findClass_of_methodNamed Bd.named
  have hnm := (name_of_methodNamed Bd.named Bd.method).1
  have hlocks : meth.locks = false := BodyLoose.notSynchronized Bd
  have X0 : Stand p l e ({ frames := 0, cells := 0, slots := 0, locals := 0 } : Room) s m #[(.ref a1), (.ref a2)] below meth c s₁ [] 0 0 := Stand.of_body Bd
  have e0 : s₁.heap = h0 := by rw [← hh, Bd.state]; rfl
  have N0 := Fr.nil n0
  show Goes p e below (s₁.setTop (entryFrame m #[(.ref a1), (.ref a2)] 2)) (Fin s (Q14 Z a1 a2 h0 n0) ({ frames := 0, cells := 0, slots := 0, locals := 0 } : Room).cells ({ frames := 0, cells := 0, slots := 0, locals := 0 } : Room).slots)
  refine Goes.of (fun t k => castTop (ef_14 m a1 a2) k) ?_
  show Goes p e below (s₁.setTop (mkF m 0 #[.val (.ref a1), .val (.ref a2)] [])) _
  refine Goes.of (fun t k => XS.aloadN X0.here hx rfl (hb hby d14_0) rfl rfl k) ?_
  show Goes p e below (s₁.setTop (mkF m 1 #[.val (.ref a1), .val (.ref a2)] [(.ref a1)])) _
  refine Goes.of (fun t k => XS.ifnonnullYes X0.here hx rfl (pc0 := 1) (pc' := 13) rfl (hb hby d14_1) rfl (by decide) (by decide) k) ?_
  show Goes p e below (s₁.setTop (mkF m 13 #[.val (.ref a1), .val (.ref a2)] [])) _
  refine Goes.of (fun t k => XS.aloadN X0.here hx rfl (hb hby d14_13) rfl rfl k) ?_
  show Goes p e below (s₁.setTop (mkF m 14 #[.val (.ref a1), .val (.ref a2)] [(.ref a1)])) _
  exact Goes.retA X0 hx (by rfl) Bd.returns (by rfl) hlocks (hb hby d14_14) (⟨rfl, N0, e0⟩) (by decide) (by decide)
theorem ef_16 (m : MethodId) (x0 : Addr) : entryFrame m #[(.ref x0)] 1 = mkF m 0 #[.val (.ref x0)] [] := by first | (simp [entryFrame, mkF, argsToLocals, Value.category]; done) | rfl
def Q16 (Z : State) (a1 : Addr) (w : Int32) (h0 : Heap) (n0 : Nat) (v : Option Value) (h : Heap) (L : List Loc) : Prop := v = some (.int w) ∧ Fr n0 L ∧ h = h0
set_option maxRecDepth 65536 in
set_option maxHeartbeats 40000000 in
theorem rm16 (l : Launch) (Z : State) (a0 : Array Value) (hw : ∀ d ∈ tables_1, d.before a0 Z = true) (ws : List Jvm.Cond) (a1 : Addr) (w : Int32) (h0 : Heap) (n0 : Nat) (Z0 : n0 ≤ h0.size) (F : Fld Z h0 a1 "java/lang/Enum" "ordinal" "I" (.int w)) :
    MetFree l (⟨"java/lang/Enum", "ordinal", "()I"⟩ : MethodName) (head1 (Jvm.Cond.code (⟨"java/lang/Enum", "ordinal", "()I"⟩ : MethodName) jdk_37_method_2_code 1 (some .int) :: ws) ({ frames := 0, cells := 0, slots := 0, locals := 0 } : Room)) (fun a U => a = #[(.ref a1)] ∧ Z.Warmed39 U.vm ∧ U.heap = h0) (fun _ _ _ _ _ => True) (fun _ U o U' => ∃ v L, o = .returned v ∧ Q16 Z a1 w h0 n0 v U'.heap L ∧ FrameEnd U o U' L ({ frames := 0, cells := 0, slots := 0, locals := 0 } : Room).cells ({ frames := 0, cells := 0, slots := 0, locals := 0 } : Room).slots) := by
  refine MetFree.of_bodySF (plainFor_of_name pn_12) hisR ?_
  intro p e s m args below meth c s₁ Bd hml0 hP hK
  obtain ⟨rfl, hZ, hh⟩ := hP
  have hx := Bd.exec
  have hby := Bd.bytes
  have hml : c.maxLocals = 1 := hml0
  have hown : s.vm.findClass "java/lang/Enum" = some m.cls := findClass_of_methodNamed Bd.named
  have hnm := (name_of_methodNamed Bd.named Bd.method).1
  have hlocks : meth.locks = false := BodyLoose.notSynchronized Bd
  have X0 : Stand p l e ({ frames := 0, cells := 0, slots := 0, locals := 0 } : Room) s m #[(.ref a1)] below meth c s₁ [] 0 0 := Stand.of_body Bd
  have e0 : s₁.heap = h0 := by rw [← hh, Bd.state]; rfl
  have N0 := Fr.nil n0
  show Goes p e below (s₁.setTop (entryFrame m #[(.ref a1)] 1)) (Fin s (Q16 Z a1 w h0 n0) ({ frames := 0, cells := 0, slots := 0, locals := 0 } : Room).cells ({ frames := 0, cells := 0, slots := 0, locals := 0 } : Room).slots)
  refine Goes.of (fun t k => castTop (ef_16 m a1) k) ?_
  show Goes p e below (s₁.setTop (mkF m 0 #[.val (.ref a1)] [])) _
  refine Goes.of (fun t k => XS.aloadN X0.here hx rfl (hb hby d16_0) rfl rfl k) ?_
  obtain ⟨T133, X133, e133, st133⟩ := getF X0 hx hZ hown (host := "") (Or.inl (wd hw 119 rfl)) Via.refl e0 F (g := (mkF m 1 #[.val (.ref a1)] [(.ref a1)])) rfl rfl (hb hby d16_1)
  refine Goes.of st133 ?_
  show Goes p e below (T133.setTop (mkF m 4 #[.val (.ref a1)] [(.int w)])) _
  exact Goes.retI X133 hx Bd.returns hlocks (hb hby d16_4) (⟨rfl, N0, e133⟩) (by decide) (by decide)
theorem ef_15 (m : MethodId) (x0 : Addr) : entryFrame m #[(.ref x0)] 1 = mkF m 0 #[.val (.ref x0)] [] := by first | (simp [entryFrame, mkF, argsToLocals, Value.category]; done) | rfl
def Q15 (Z : State) (a1 : Addr) (h0 : Heap) (n0 : Nat) (v : Option Value) (h : Heap) (L : List Loc) : Prop := v = some (.int 3) ∧ Fr n0 L ∧ h = h0
set_option maxRecDepth 65536 in
set_option maxHeartbeats 40000000 in
theorem rm15 (l : Launch) (Z : State) (a0 : Array Value) (hw : ∀ d ∈ tables_1, d.before a0 Z = true) (ws : List Jvm.Cond) (a1 : Addr) (h0 : Heap) (n0 : Nat) (Z0 : n0 ≤ h0.size) (E : Exa Z h0 a1 "java/time/Month") (F : Fld Z h0 a1 "java/lang/Enum" "ordinal" "I" (.int (2 : Int32))) :
    MetFree l (⟨"java/time/Month", "getValue", "()I"⟩ : MethodName) (head1 (Jvm.Cond.code (⟨"java/time/Month", "getValue", "()I"⟩ : MethodName) jdk_2329_method_6_code 1 (some .int) :: ws) ({ frames := 1, cells := 0, slots := 0, locals := 12 } : Room)) (fun a U => a = #[(.ref a1)] ∧ Z.Warmed39 U.vm ∧ U.heap = h0) (fun _ _ _ _ _ => True) (fun _ U o U' => ∃ v L, o = .returned v ∧ Q15 Z a1 h0 n0 v U'.heap L ∧ FrameEnd U o U' L ({ frames := 1, cells := 0, slots := 0, locals := 12 } : Room).cells ({ frames := 1, cells := 0, slots := 0, locals := 12 } : Room).slots) := by
  refine MetFree.of_bodySF (plainFor_of_name pn_13) hisR ?_
  intro p e s m args below meth c s₁ Bd hml0 hP hK
  obtain ⟨rfl, hZ, hh⟩ := hP
  have hx := Bd.exec
  have hby := Bd.bytes
  have hml : c.maxLocals = 1 := hml0
  have hown : s.vm.findClass "java/time/Month" = some m.cls := findClass_of_methodNamed Bd.named
  have hnm := (name_of_methodNamed Bd.named Bd.method).1
  have hlocks : meth.locks = false := BodyLoose.notSynchronized Bd
  have X0 : Stand p l e ({ frames := 1, cells := 0, slots := 0, locals := 12 } : Room) s m #[(.ref a1)] below meth c s₁ [] 0 0 := Stand.of_body Bd
  have e0 : s₁.heap = h0 := by rw [← hh, Bd.state]; rfl
  have N0 := Fr.nil n0
  show Goes p e below (s₁.setTop (entryFrame m #[(.ref a1)] 1)) (Fin s (Q15 Z a1 h0 n0) ({ frames := 1, cells := 0, slots := 0, locals := 12 } : Room).cells ({ frames := 1, cells := 0, slots := 0, locals := 12 } : Room).slots)
  refine Goes.of (fun t k => castTop (ef_15 m a1) k) ?_
  show Goes p e below (s₁.setTop (mkF m 0 #[.val (.ref a1)] [])) _
  refine Goes.of (fun t k => XS.aloadN X0.here hx rfl (hb hby d15_0) rfl rfl k) ?_
  obtain ⟨cq134, kq134, q134a, q134b, q134c⟩ := isOf hZ e0 E
  obtain ⟨_, _, ⟨T134, L134, k134, n134⟩, -, X134, ⟨Lc134, hQ134, l134, y134, z134⟩, st134⟩ := X0.virtualBackUp hx (x := (⟨"java/time/Month", "ordinal", "()I"⟩ : MethodName)) (y := (⟨"java/lang/Enum", "ordinal", "()I"⟩ : MethodName)) (owner := "java/lang/Enum") hown (mvT hZ (wd hw 112 rfl)) (mvT hZ (wd hw 113 rfl)) (mvT hZ (wd hw 114 rfl)) (by decide) (mvT hZ (wd hw 116 rfl)) (mvT hZ (wd hw 115 rfl)) (backOf (W := 0) (rm16 l Z a0 hw [] a1 (2 : Int32) h0 n0 Z0 F) hZ (wd hw 118 rfl) (wd hw 117 rfl) (by decide) (by decide)) q134a q134c (g := (mkF m 1 #[.val (.ref a1)] [(.ref a1)])) rfl (by rw [hml]; rfl) (Steps.refl _) (argsL := []) (rest := []) (lenOf pd_14 rfl) rfl (by show 2 * 0 + _ ≤ _; exact Nat.le_of_eq rfl) (hb hby d15_1) (fun _ _ => ⟨rfl, e0, (by decide : 0 + 0 ≤ _), (by decide : 0 + 0 ≤ _)⟩)
  dsimp only [Pt.U, Pt.locs, Pt.cells, Pt.slots] at X134 l134 y134 z134 st134 hQ134
  subst l134 y134 z134
  obtain ⟨rfl, N134q, e134⟩ := hQ134
  have N134 := Fr.app N0 N134q
  refine Goes.of (fun t k => st134.trans k) ?_
  show Goes p e below (T134.setTop (mkF m 4 #[.val (.ref a1)] [(.int (2 : Int32))])) _
  refine Goes.of (fun t k => XS.iconst X134.here hx rfl (hb hby d15_4) k) ?_
  show Goes p e below (T134.setTop (mkF m 5 #[.val (.ref a1)] [(.int (1 : Int32)), (.int (2 : Int32))])) _
  refine Goes.of (fun t k => XS.iadd X134.here hx rfl (hb hby d15_5) rfl k) ?_
  show Goes p e below (T134.setTop (mkF m 6 #[.val (.ref a1)] [(.int (3 : Int32))])) _
  exact Goes.retI X134 hx Bd.returns hlocks (hb hby d15_6) (⟨rfl, N134, e134⟩) (by decide) (by decide)
theorem ef_13 (m : MethodId) (x0 : Int32) (x1 : Addr) (x2 : Int32) : entryFrame m #[(.int x0), (.ref x1), (.int x2)] 3 = mkF m 0 #[.val (.int x0), .val (.ref x1), .val (.int x2)] [] := by first | (simp [entryFrame, mkF, argsToLocals, Value.category]; done) | rfl
def Q13 (Z : State) (p1 : Int32) (aM : Addr) (aY : Addr) (rY : Addr) (aO : Addr) (rO : Addr) (aD : Addr) (rD : Addr) (h0 : Heap) (n0 : Nat) (v : Option Value) (h : Heap) (L : List Loc) : Prop := ∃ b : Addr, v = some (.ref b) ∧ Fr n0 L ∧ Keep h0 h [] ∧ h0.size ≤ b ∧ Exa Z h b "java/time/LocalDate" ∧ Fld Z h b "java/time/LocalDate" "year" "I" (.int p1) ∧ Fld Z h b "java/time/LocalDate" "month" "S" (.int (3 : Int32)) ∧ Fld Z h b "java/time/LocalDate" "day" "S" (.int (22 : Int32))
set_option maxRecDepth 65536 in
set_option maxHeartbeats 40000000 in
theorem rm13 (l : Launch) (Z : State) (a0 : Array Value) (hw : ∀ d ∈ tables_1, d.before a0 Z = true) (ws : List Jvm.Cond) (p1 : Int32) (aM : Addr) (aY : Addr) (rY : Addr) (aO : Addr) (rO : Addr) (aD : Addr) (rD : Addr) (h0 : Heap) (n0 : Nat) (Z0 : n0 ≤ h0.size) (O0 : Old Z n0 h0) (SY : Sta Z Z.heap "java/time/temporal/ChronoField" "YEAR" "Ljava/time/temporal/ChronoField;" (.ref aY)) (EY : Exa Z Z.heap aY "java/time/temporal/ChronoField") (RY : Fld Z Z.heap aY "java/time/temporal/ChronoField" "range" "Ljava/time/temporal/ValueRange;" (.ref rY)) (GY : Exa Z Z.heap rY "java/time/temporal/ValueRange") (MY : Fld Z Z.heap rY "java/time/temporal/ValueRange" "minSmallest" "J" (.long (-999999999 : Int64))) (XY : Fld Z Z.heap rY "java/time/temporal/ValueRange" "maxLargest" "J" (.long (999999999 : Int64))) (SO : Sta Z Z.heap "java/time/temporal/ChronoField" "MONTH_OF_YEAR" "Ljava/time/temporal/ChronoField;" (.ref aO)) (EO : Exa Z Z.heap aO "java/time/temporal/ChronoField") (RO : Fld Z Z.heap aO "java/time/temporal/ChronoField" "range" "Ljava/time/temporal/ValueRange;" (.ref rO)) (GO : Exa Z Z.heap rO "java/time/temporal/ValueRange") (MO : Fld Z Z.heap rO "java/time/temporal/ValueRange" "minSmallest" "J" (.long (1 : Int64))) (XO : Fld Z Z.heap rO "java/time/temporal/ValueRange" "maxLargest" "J" (.long (12 : Int64))) (SD : Sta Z Z.heap "java/time/temporal/ChronoField" "DAY_OF_MONTH" "Ljava/time/temporal/ChronoField;" (.ref aD)) (ED : Exa Z Z.heap aD "java/time/temporal/ChronoField") (RD : Fld Z Z.heap aD "java/time/temporal/ChronoField" "range" "Ljava/time/temporal/ValueRange;" (.ref rD)) (GD : Exa Z Z.heap rD "java/time/temporal/ValueRange") (MD : Fld Z Z.heap rD "java/time/temporal/ValueRange" "minSmallest" "J" (.long (1 : Int64))) (XD : Fld Z Z.heap rD "java/time/temporal/ValueRange" "maxLargest" "J" (.long (31 : Int64))) (EM : Exa Z Z.heap aM "java/time/Month") (FM : Fld Z Z.heap aM "java/lang/Enum" "ordinal" "I" (.int (2 : Int32))) (y1 : 0 ≤ p1.toInt) (y2 : p1.toInt < 1000000000) :
    MetFree l (⟨"java/time/LocalDate", "of", "(ILjava/time/Month;I)Ljava/time/LocalDate;"⟩ : MethodName) (head1 (Jvm.Cond.code (⟨"java/time/LocalDate", "of", "(ILjava/time/Month;I)Ljava/time/LocalDate;"⟩ : MethodName) jdk_2323_method_4_code 3 (some (.object "java/time/LocalDate")) :: ws) ({ frames := 4, cells := 3, slots := 27, locals := 57 } : Room)) (fun a U => a = #[(.int p1), (.ref aM), (.int (22 : Int32))] ∧ Z.Warmed39 U.vm ∧ U.heap = h0) (fun _ _ _ _ _ => True) (fun _ U o U' => ∃ v L, o = .returned v ∧ Q13 Z p1 aM aY rY aO rO aD rD h0 n0 v U'.heap L ∧ ReturnedEndW U o U' L ({ frames := 4, cells := 3, slots := 27, locals := 57 } : Room).cells ({ frames := 4, cells := 3, slots := 27, locals := 57 } : Room).slots) := by
  refine MetFree.of_bodySF (plainFor_of_name pn_7) hisR ?_
  intro p e s m args below meth c s₁ Bd hml0 hP hK
  obtain ⟨rfl, hZ, hh⟩ := hP
  have hx := Bd.exec
  have hby := Bd.bytes
  have hml : c.maxLocals = 3 := hml0
  have hown : s.vm.findClass "java/time/LocalDate" = some m.cls := findClass_of_methodNamed Bd.named
  have hnm := (name_of_methodNamed Bd.named Bd.method).1
  have hlocks : meth.locks = false := BodyLoose.notSynchronized Bd
  have X0 : Stand p l e ({ frames := 4, cells := 3, slots := 27, locals := 57 } : Room) s m #[(.int p1), (.ref aM), (.int (22 : Int32))] below meth c s₁ [] 0 0 := Stand.of_body Bd
  have e0 : s₁.heap = h0 := by rw [← hh, Bd.state]; rfl
  have N0 := Fr.nil n0
  show Goes p e below (s₁.setTop (entryFrame m #[(.int p1), (.ref aM), (.int (22 : Int32))] 3)) (FinW s (Q13 Z p1 aM aY rY aO rO aD rD h0 n0) ({ frames := 4, cells := 3, slots := 27, locals := 57 } : Room).cells ({ frames := 4, cells := 3, slots := 27, locals := 57 } : Room).slots)
  refine Goes.of (fun t k => castTop (ef_13 m p1 aM (22 : Int32)) k) ?_
  have X0 : Stand p l e ({ frames := 4, cells := 3, slots := 27, locals := 57 } : Room) (s.setVm s.vm) m #[(.int p1), (.ref aM), (.int (22 : Int32))] below meth c s₁ [] 0 0 := X0
  have hS0 : s.Since s.vm 0 := (State.WarmedH.refl s).since 0
  have kS0 : 0 ≤ h0.size := Nat.zero_le _
  have hZ : Z.Warmed39 (s.setVm s.vm).vm := hZ
  have hown : (s.setVm s.vm).vm.findClass "java/time/LocalDate" = some m.cls := hown
  have K0 : Keep h0 h0 [] := Keep.refl _ _
  obtain ⟨T135, X135, e135, st135⟩ := getS2 X0 hx hZ hown (host := "") (Or.inl (wd hw 27 rfl)) Via.refl e0 (SY.ext O0.2) (g := (mkF m 0 #[.val (.int p1), .val (.ref aM), .val (.int (22 : Int32))] [])) rfl (hb hby d13_0)
  refine Goes.of st135 ?_
  show Goes p e below (T135.setTop (mkF m 3 #[.val (.int p1), .val (.ref aM), .val (.int (22 : Int32))] [(.ref aY)])) _
  refine Goes.of (fun t k => XS.iloadN X135.here hx rfl (hb hby d13_3) rfl k) ?_
  show Goes p e below (T135.setTop (mkF m 4 #[.val (.int p1), .val (.ref aM), .val (.int (22 : Int32))] [(.int p1), (.ref aY)])) _
  refine Goes.of (fun t k => XS.i2l X135.here hx rfl (hb hby d13_4) rfl k) ?_
  obtain ⟨cq136, kq136, q136a, q136b, q136c⟩ := isOf hZ e135 (EY.ext O0.2)
  obtain ⟨_, _, ⟨T136, L136, k136, n136⟩, -, X136, ⟨Lc136, hQ136, l136, y136, z136⟩, st136⟩ := X135.virtualBack hx (y := (⟨"java/time/temporal/ChronoField", "checkValidValue", "(J)J"⟩ : MethodName)) (z := (⟨"java/time/temporal/ChronoField", "checkValidValue", "(J)J"⟩ : MethodName)) hown (mvT hZ (wd hw 29 rfl)) (mvT hZ (wd hw 30 rfl)) (notFace_of_selects (args := #[]) (mvT hZ (wd hw 32 rfl))) (mvT hZ (wd hw 32 rfl)) (mvT hZ (wd hw 31 rfl)) (by decide) (backOf (W := 0) (rm3 l Z a0 hw [] aY (p1.toInt64) rY (-999999999 : Int64) (999999999 : Int64) h0 n0 Z0 (EY.ext O0.2) (RY.ext O0.2) (GY.ext O0.2) (MY.ext O0.2) (XY.ext O0.2) (own_ge (k := -999999999) (by decide) (by omega)) (own_le' (k := 999999999) (by decide) (by omega))) hZ (wd hw 33 rfl) (wd hw 28 rfl) (by decide) (by decide)) q136a q136c (g := (mkF m 5 #[.val (.int p1), .val (.ref aM), .val (.int (22 : Int32))] [(.long (p1.toInt64)), (.ref aY)])) rfl (by rw [hml]; rfl) (Steps.refl _) (argsL := [(.long (p1.toInt64))]) (rest := []) (lenOf pd_9 rfl) rfl (by show 2 * 0 + _ ≤ _; exact Nat.le_of_eq rfl) (hb hby d13_5) (fun _ _ => ⟨rfl, e135, (by decide : 0 + 0 ≤ _), (by decide : 0 + 0 ≤ _)⟩)
  dsimp only [Pt.U, Pt.locs, Pt.cells, Pt.slots] at X136 l136 y136 z136 st136 hQ136
  subst l136 y136 z136
  obtain ⟨rfl, N136q, e136⟩ := hQ136
  have N136 := Fr.app N0 N136q
  refine Goes.of (fun t k => st136.trans k) ?_
  show Goes p e below (T136.setTop (mkF m 8 #[.val (.int p1), .val (.ref aM), .val (.int (22 : Int32))] [(.long (p1.toInt64))])) _
  refine Goes.of (fun t k => own_pop2 X136.here hx rfl (hb hby d13_8) rfl rfl k) ?_
  show Goes p e below (T136.setTop (mkF m 9 #[.val (.int p1), .val (.ref aM), .val (.int (22 : Int32))] [])) _
  refine Goes.of (fun t k => XS.aloadN X136.here hx rfl (hb hby d13_9) rfl rfl k) ?_
  show Goes p e below (T136.setTop (mkF m 10 #[.val (.int p1), .val (.ref aM), .val (.int (22 : Int32))] [(.ref aM)])) _
  obtain ⟨a137, T137, h137, k137, X137, e137, E137, hS137, kS137, hZ, hown, st137⟩ := ldcS X136 hx hZ hown (wd hw 95 rfl) (own_wS hw) e136 hS0 kS0 (g := (mkF m 10 #[.val (.int p1), .val (.ref aM), .val (.int (22 : Int32))] [(.ref aM)])) rfl (hb hby d13_10) (n := 20) (by decide) (by decide) (by decide) (by decide)
  have z138 := Nat.le_trans Z0 E137.1
  have z139 := Nat.le_trans kS0 E137.1
  have f140 := O0.ext E137
  have K141 : Keep h0 h137 [] := K0.ext E137
  refine Goes.of st137 ?_
  obtain ⟨_, _, ⟨T142, L142, k142, n142⟩, -, X142, ⟨Lc142, hQ142, l142, y142, z142⟩, st142⟩ := Jvm.LawKit.callS X137 hx (y := (⟨"java/util/Objects", "requireNonNull", "(Ljava/lang/Object;Ljava/lang/String;)Ljava/lang/Object;"⟩ : MethodName)) hown (mvT hZ (wd hw 103 rfl)) (mvT hZ (wd hw 104 rfl)) (mvT hZ (wd hw 105 rfl)) (mvT hZ (wd hw 106 rfl)) (by decide) (backOf (W := 0) (rm14 l Z a0 hw [] aM a137  h137 n0 z138 ) hZ (wd hw 106 rfl) (wd hw 105 rfl) (by decide) (by decide)) (g := (mkF m 12 #[.val (.int p1), .val (.ref aM), .val (.int (22 : Int32))] [(.ref a137), (.ref aM)])) rfl (by rw [hml]; rfl) (argsL := [(.ref aM), (.ref a137)]) (rest := []) (lenOf pd_15 rfl) rfl (by show 2 * 0 + _ ≤ _; exact Nat.le_of_eq rfl) (hb hby d13_12) (fun _ _ => ⟨rfl, e137, (by decide : 2 + 0 ≤ _), (by decide : 24 + 0 ≤ _)⟩)
  dsimp only [Pt.U, Pt.locs, Pt.cells, Pt.slots] at X142 l142 y142 z142 st142 hQ142
  subst l142 y142 z142
  obtain ⟨rfl, N142q, e142⟩ := hQ142
  have N142 := Fr.app N136 N142q
  refine Goes.of st142 ?_
  show Goes p e below (T142.setTop (mkF m 15 #[.val (.int p1), .val (.ref aM), .val (.int (22 : Int32))] [(.ref aM)])) _
  refine Goes.of (fun t k => XS.pop X142.here hx rfl (hb hby d13_15) rfl rfl k) ?_
  obtain ⟨T143, X143, e143, st143⟩ := getS2 X142 hx hZ hown (host := "") (Or.inl (wd hw 67 rfl)) Via.refl e142 (SD.ext f140.2) (g := (mkF m 16 #[.val (.int p1), .val (.ref aM), .val (.int (22 : Int32))] [])) rfl (hb hby d13_16)
  refine Goes.of st143 ?_
  show Goes p e below (T143.setTop (mkF m 19 #[.val (.int p1), .val (.ref aM), .val (.int (22 : Int32))] [(.ref aD)])) _
  refine Goes.of (fun t k => XS.iloadN X143.here hx rfl (hb hby d13_19) rfl k) ?_
  show Goes p e below (T143.setTop (mkF m 20 #[.val (.int p1), .val (.ref aM), .val (.int (22 : Int32))] [(.int (22 : Int32)), (.ref aD)])) _
  refine Goes.of (fun t k => XS.i2l X143.here hx rfl (hb hby d13_20) rfl k) ?_
  obtain ⟨cq144, kq144, q144a, q144b, q144c⟩ := isOf hZ e143 (ED.ext f140.2)
  obtain ⟨_, _, ⟨T144, L144, k144, n144⟩, -, X144, ⟨Lc144, hQ144, l144, y144, z144⟩, st144⟩ := X143.virtualBack hx (y := (⟨"java/time/temporal/ChronoField", "checkValidValue", "(J)J"⟩ : MethodName)) (z := (⟨"java/time/temporal/ChronoField", "checkValidValue", "(J)J"⟩ : MethodName)) hown (mvT hZ (wd hw 29 rfl)) (mvT hZ (wd hw 30 rfl)) (notFace_of_selects (args := #[]) (mvT hZ (wd hw 32 rfl))) (mvT hZ (wd hw 32 rfl)) (mvT hZ (wd hw 31 rfl)) (by decide) (backOf (W := 0) (rm3 l Z a0 hw [] aD ((22 : Int32).toInt64) rD (1 : Int64) (31 : Int64) h137 n0 z138 (ED.ext f140.2) (RD.ext f140.2) (GD.ext f140.2) (MD.ext f140.2) (XD.ext f140.2) (by decide) (by decide)) hZ (wd hw 33 rfl) (wd hw 28 rfl) (by decide) (by decide)) q144a q144c (g := (mkF m 21 #[.val (.int p1), .val (.ref aM), .val (.int (22 : Int32))] [(.long ((22 : Int32).toInt64)), (.ref aD)])) rfl (by rw [hml]; rfl) (Steps.refl _) (argsL := [(.long ((22 : Int32).toInt64))]) (rest := []) (lenOf pd_9 rfl) rfl (by show 2 * 0 + _ ≤ _; exact Nat.le_of_eq rfl) (hb hby d13_21) (fun _ _ => ⟨rfl, e143, (by decide : 2 + 0 ≤ _), (by decide : 24 + 0 ≤ _)⟩)
  dsimp only [Pt.U, Pt.locs, Pt.cells, Pt.slots] at X144 l144 y144 z144 st144 hQ144
  subst l144 y144 z144
  obtain ⟨rfl, N144q, e144⟩ := hQ144
  have N144 := Fr.app N142 N144q
  refine Goes.of (fun t k => st144.trans k) ?_
  show Goes p e below (T144.setTop (mkF m 24 #[.val (.int p1), .val (.ref aM), .val (.int (22 : Int32))] [(.long ((22 : Int32).toInt64))])) _
  refine Goes.of (fun t k => own_pop2 X144.here hx rfl (hb hby d13_24) rfl rfl k) ?_
  show Goes p e below (T144.setTop (mkF m 25 #[.val (.int p1), .val (.ref aM), .val (.int (22 : Int32))] [])) _
  refine Goes.of (fun t k => XS.iloadN X144.here hx rfl (hb hby d13_25) rfl k) ?_
  show Goes p e below (T144.setTop (mkF m 26 #[.val (.int p1), .val (.ref aM), .val (.int (22 : Int32))] [(.int p1)])) _
  refine Goes.of (fun t k => XS.aloadN X144.here hx rfl (hb hby d13_26) rfl rfl k) ?_
  obtain ⟨cq145, kq145, q145a, q145b, q145c⟩ := isOf hZ e144 (EM.ext f140.2)
  obtain ⟨_, _, ⟨T145, L145, k145, n145⟩, -, X145, ⟨Lc145, hQ145, l145, y145, z145⟩, st145⟩ := X144.virtualBack hx (y := (⟨"java/time/Month", "getValue", "()I"⟩ : MethodName)) (z := (⟨"java/time/Month", "getValue", "()I"⟩ : MethodName)) hown (mvT hZ (wd hw 107 rfl)) (mvT hZ (wd hw 108 rfl)) (notFace_of_selects (args := #[]) (mvT hZ (wd hw 110 rfl))) (mvT hZ (wd hw 110 rfl)) (mvT hZ (wd hw 109 rfl)) (by decide) (backOf (W := 1) (rm15 l Z a0 hw [] aM  h137 n0 z138 (EM.ext f140.2) (FM.ext f140.2)) hZ (wd hw 111 rfl) (wd hw 91 rfl) (by decide) (by decide)) q145a q145c (g := (mkF m 27 #[.val (.int p1), .val (.ref aM), .val (.int (22 : Int32))] [(.ref aM), (.int p1)])) rfl (by rw [hml]; rfl) (Steps.refl _) (argsL := []) (rest := [(.int p1)]) (lenOf pd_14 rfl) rfl (by show 2 * 0 + _ ≤ _; exact Nat.le_of_eq rfl) (hb hby d13_27) (fun _ _ => ⟨rfl, e144, (by decide : 2 + 0 ≤ _), (by decide : 24 + 0 ≤ _)⟩)
  dsimp only [Pt.U, Pt.locs, Pt.cells, Pt.slots] at X145 l145 y145 z145 st145 hQ145
  subst l145 y145 z145
  obtain ⟨rfl, N145q, e145⟩ := hQ145
  have N145 := Fr.app N144 N145q
  refine Goes.of (fun t k => st145.trans k) ?_
  show Goes p e below (T145.setTop (mkF m 30 #[.val (.int p1), .val (.ref aM), .val (.int (22 : Int32))] [(.int (3 : Int32)), (.int p1)])) _
  refine Goes.of (fun t k => XS.iloadN X145.here hx rfl (hb hby d13_30) rfl k) ?_
  obtain ⟨_, _, ⟨T146, L146, k146, n146⟩, -, X146, ⟨Lc146, hQ146, l146, y146, z146⟩, st146⟩ := Jvm.LawKit.callS X145 hx (y := (⟨"java/time/LocalDate", "create", "(III)Ljava/time/LocalDate;"⟩ : MethodName)) hown (mvT hZ (wd hw 68 rfl)) (mvT hZ (wd hw 69 rfl)) (mvT hZ (wd hw 25 rfl)) (mvT hZ (wd hw 70 rfl)) (by decide) (backOf (W := 0) (rm9 l Z a0 hw [] p1 (22 : Int32)  h137 n0 z138 (by decide) (by decide)) hZ (wd hw 70 rfl) (wd hw 25 rfl) (by decide) (by decide)) (g := (mkF m 31 #[.val (.int p1), .val (.ref aM), .val (.int (22 : Int32))] [(.int (22 : Int32)), (.int (3 : Int32)), (.int p1)])) rfl (by rw [hml]; rfl) (argsL := [(.int p1), (.int (3 : Int32)), (.int (22 : Int32))]) (rest := []) (lenOf pd_10 rfl) rfl (by show 2 * 0 + _ ≤ _; exact Nat.le_of_eq rfl) (hb hby d13_31) (fun _ _ => ⟨rfl, e145, (by decide : 2 + 1 ≤ _), (by decide : 24 + 3 ≤ _)⟩)
  dsimp only [Pt.U, Pt.locs, Pt.cells, Pt.slots] at X146 l146 y146 z146 st146 hQ146
  subst l146 y146 z146
  obtain ⟨b146, rfl, N146q, K146, z146b, E146, F146_year, F146_month, F146_day⟩ := hQ146
  have N146 := Fr.app N145 N146q
  have q147 : aY ≠ b146 := Nat.ne_of_lt (Nat.lt_of_lt_of_le (EY.ext f140.2).lt z146b)
  have q148 : aO ≠ b146 := Nat.ne_of_lt (Nat.lt_of_lt_of_le (EO.ext f140.2).lt z146b)
  have q149 : aD ≠ b146 := Nat.ne_of_lt (Nat.lt_of_lt_of_le (ED.ext f140.2).lt z146b)
  have q150 : aM ≠ b146 := Nat.ne_of_lt (Nat.lt_of_lt_of_le (EM.ext f140.2).lt z146b)
  have g151 : n0 ≤ b146 := Nat.le_trans z138 z146b
  have z152 : h0.size ≤ b146 := Nat.le_trans K141.1 z146b
  have K153 : Keep h0 T146.heap [] := K141.trans K146 all0
  have z154 := Nat.le_trans z138 K146.1
  have z155 := Nat.le_trans kS137 K146.1
  have f156 := f140.keep K146 all0
  refine Goes.of st146 ?_
  show Goes p e below (T146.setTop (mkF m 34 #[.val (.int p1), .val (.ref aM), .val (.int (22 : Int32))] [(.ref b146)])) _
  have eh : T146.heap = T146.heap := rfl
  exact Goes.retAW X146 hS137 z155 hx (by rfl) Bd.returns (by rfl) hlocks (hb hby d13_34) (⟨b146, rfl, N146, by rw [eh]; exact K153, z152, by rw [eh]; exact E146, by rw [eh]; exact F146_year, by rw [eh]; exact F146_month, by rw [eh]; exact F146_day⟩) (by decide) (by decide)
theorem ef_18 (m : MethodId) (x0 : Addr) : entryFrame m #[(.ref x0)] 1 = mkF m 0 #[.val (.ref x0)] [] := by first | (simp [entryFrame, mkF, argsToLocals, Value.category]; done) | rfl
def Q18 (Z : State) (a1 : Addr) (h0 : Heap) (n0 : Nat) (v : Option Value) (h : Heap) (L : List Loc) : Prop := v = some (.int 31) ∧ Fr n0 L ∧ h = h0
set_option maxRecDepth 65536 in
set_option maxHeartbeats 40000000 in
theorem rm18 (l : Launch) (Z : State) (a0 : Array Value) (hw : ∀ d ∈ tables_1, d.before a0 Z = true) (ws : List Jvm.Cond) (a1 : Addr) (h0 : Heap) (n0 : Nat) (Z0 : n0 ≤ h0.size) (F : Fld Z h0 a1 "java/time/LocalDate" "month" "S" (.int (3 : Int32))) :
    MetFree l (⟨"java/time/LocalDate", "lengthOfMonth", "()I"⟩ : MethodName) (head1 (Jvm.Cond.code (⟨"java/time/LocalDate", "lengthOfMonth", "()I"⟩ : MethodName) jdk_2323_method_31_code 1 (some .int) :: ws) ({ frames := 0, cells := 0, slots := 0, locals := 0 } : Room)) (fun a U => a = #[(.ref a1)] ∧ Z.Warmed39 U.vm ∧ U.heap = h0) (fun _ _ _ _ _ => True) (fun _ U o U' => ∃ v L, o = .returned v ∧ Q18 Z a1 h0 n0 v U'.heap L ∧ FrameEnd U o U' L ({ frames := 0, cells := 0, slots := 0, locals := 0 } : Room).cells ({ frames := 0, cells := 0, slots := 0, locals := 0 } : Room).slots) := by
  refine MetFree.of_bodySF (plainFor_of_name pn_7) hisR ?_
  intro p e s m args below meth c s₁ Bd hml0 hP hK
  obtain ⟨rfl, hZ, hh⟩ := hP
  have hx := Bd.exec
  have hby := Bd.bytes
  have hml : c.maxLocals = 1 := hml0
  have hown : s.vm.findClass "java/time/LocalDate" = some m.cls := findClass_of_methodNamed Bd.named
  have hnm := (name_of_methodNamed Bd.named Bd.method).1
  have hlocks : meth.locks = false := BodyLoose.notSynchronized Bd
  have X0 : Stand p l e ({ frames := 0, cells := 0, slots := 0, locals := 0 } : Room) s m #[(.ref a1)] below meth c s₁ [] 0 0 := Stand.of_body Bd
  have e0 : s₁.heap = h0 := by rw [← hh, Bd.state]; rfl
  have N0 := Fr.nil n0
  show Goes p e below (s₁.setTop (entryFrame m #[(.ref a1)] 1)) (Fin s (Q18 Z a1 h0 n0) ({ frames := 0, cells := 0, slots := 0, locals := 0 } : Room).cells ({ frames := 0, cells := 0, slots := 0, locals := 0 } : Room).slots)
  refine Goes.of (fun t k => castTop (ef_18 m a1) k) ?_
  show Goes p e below (s₁.setTop (mkF m 0 #[.val (.ref a1)] [])) _
  refine Goes.of (fun t k => XS.aloadN X0.here hx rfl (hb hby d18_0) rfl rfl k) ?_
  obtain ⟨T157, X157, e157, st157⟩ := getF X0 hx hZ hown (host := "") (Or.inl (wd hw 82 rfl)) Via.refl e0 F (g := (mkF m 1 #[.val (.ref a1)] [(.ref a1)])) rfl rfl (hb hby d18_1)
  refine Goes.of st157 ?_
  show Goes p e below (T157.setTop (mkF m 4 #[.val (.ref a1)] [(.int (3 : Int32))])) _
  refine Goes.of (fun t k => XS.tswIn X157.here hx rfl (pc0 := 4) (pc' := 82) rfl (hb hby d18_4) rfl (by decide) (o := 78) (by decide) (by decide) (by decide) k) ?_
  show Goes p e below (T157.setTop (mkF m 82 #[.val (.ref a1)] [])) _
  refine Goes.of (fun t k => XS.bipush X157.here hx rfl (hb hby d18_82) k) ?_
  show Goes p e below (T157.setTop (mkF m 84 #[.val (.ref a1)] [(.int (31 : Int32))])) _
  exact Goes.retI X157 hx Bd.returns hlocks (hb hby d18_84) (⟨rfl, N0, e157⟩) (by decide) (by decide)
theorem own_dom (q : Int64) (h0 : 0 ≤ q.toInt) (h1 : q.toInt ≤ 35) : ((22 : Int32).toInt64 + q).toInt = 22 + q.toInt ∧ ((22 : Int32).toInt64 + q).toInt32.toInt = 22 + q.toInt := by
  have e0 : ((22 : Int32).toInt64).toInt = 22 := by decide
  have e : ((22 : Int32).toInt64 + q).toInt = 22 + q.toInt := by rw [Jvm.Kit.i64_add (by omega) (by omega), e0]
  exact ⟨e, by rw [Jvm.Kit.i32_of_i64 (by omega) (by omega), e]⟩
theorem own_dom2 (q : Int64) (h0 : 0 ≤ q.toInt) (h1 : q.toInt ≤ 35) (h2 : (31 : Int32).toInt64 < (22 : Int32).toInt64 + q) : 0 ≤ ((22 : Int32).toInt64 + q - (31 : Int32).toInt64).toInt32.toInt ∧ ((22 : Int32).toInt64 + q - (31 : Int32).toInt64).toInt32.toInt ≤ 26 ∧ ((22 : Int32).toInt64 + q - (31 : Int32).toInt64).toInt32.toInt = 22 + q.toInt - 31 := by
  have e0 : ((31 : Int32).toInt64).toInt = 31 := by decide
  have d := (own_dom q h0 h1).1
  have l := Int64.lt_iff_toInt_lt.mp h2
  rw [d, e0] at l
  have e : ((22 : Int32).toInt64 + q - (31 : Int32).toInt64).toInt = 22 + q.toInt - 31 := by rw [Jvm.Kit.i64_sub (by omega) (by omega), d, e0]
  have e2 : ((22 : Int32).toInt64 + q - (31 : Int32).toInt64).toInt32.toInt = 22 + q.toInt - 31 := by rw [Jvm.Kit.i32_of_i64 (by omega) (by omega), e]
  omega
theorem ef_17 (m : MethodId) (x0 : Addr) (x1 : Int64) : entryFrame m #[(.ref x0), (.long x1)] 7 = mkF m 0 #[.val (.ref x0), .val (.long x1), .second, .unset, .unset, .unset, .unset] [] := by first | (simp [entryFrame, mkF, argsToLocals, Value.category]; done) | rfl
def Q17 (Z : State) (a1 : Addr) (q2 : Int64) (p2 : Int32) (h0 : Heap) (n0 : Nat) (v : Option Value) (h : Heap) (L : List Loc) : Prop := ∃ b : Addr, v = some (.ref b) ∧ Fr n0 L ∧ Keep h0 h [] ∧ Exa Z h b "java/time/LocalDate" ∧ Fld Z h b "java/time/LocalDate" "year" "I" (.int p2) ∧ Fld Z h b "java/time/LocalDate" "month" "S" (.int (own_mo q2)) ∧ Fld Z h b "java/time/LocalDate" "day" "S" (.int (own_da q2))
set_option maxRecDepth 65536 in
set_option maxHeartbeats 40000000 in
theorem rm17 (l : Launch) (Z : State) (a0 : Array Value) (hw : ∀ d ∈ tables_1, d.before a0 Z = true) (ws : List Jvm.Cond) (a1 : Addr) (q2 : Int64) (p2 : Int32) (h0 : Heap) (n0 : Nat) (Z0 : n0 ≤ h0.size) (E : Exa Z h0 a1 "java/time/LocalDate") (F_year : Fld Z h0 a1 "java/time/LocalDate" "year" "I" (.int p2)) (F_month : Fld Z h0 a1 "java/time/LocalDate" "month" "S" (.int (3 : Int32))) (F_day : Fld Z h0 a1 "java/time/LocalDate" "day" "S" (.int (22 : Int32))) (r1 : 0 ≤ q2.toInt) (r2 : q2.toInt ≤ 35) :
    MetFree l (⟨"java/time/LocalDate", "plusDays", "(J)Ljava/time/LocalDate;"⟩ : MethodName) (head1 (Jvm.Cond.code (⟨"java/time/LocalDate", "plusDays", "(J)Ljava/time/LocalDate;"⟩ : MethodName) jdk_2323_method_44_code 7 (some (.object "java/time/LocalDate")) :: ws) ({ frames := 2, cells := 1, slots := 3, locals := 28 } : Room)) (fun a U => a = #[(.ref a1), (.long q2)] ∧ Z.Warmed39 U.vm ∧ U.heap = h0) (fun _ _ _ _ _ => True) (fun _ U o U' => ∃ v L, o = .returned v ∧ Q17 Z a1 q2 p2 h0 n0 v U'.heap L ∧ FrameEnd U o U' L ({ frames := 2, cells := 1, slots := 3, locals := 28 } : Room).cells ({ frames := 2, cells := 1, slots := 3, locals := 28 } : Room).slots) := by
  refine MetFree.of_bodySF (plainFor_of_name pn_7) hisR ?_
  intro p e s m args below meth c s₁ Bd hml0 hP hK
  obtain ⟨rfl, hZ, hh⟩ := hP
  have hx := Bd.exec
  have hby := Bd.bytes
  have hml : c.maxLocals = 7 := hml0
  have hown : s.vm.findClass "java/time/LocalDate" = some m.cls := findClass_of_methodNamed Bd.named
  have hnm := (name_of_methodNamed Bd.named Bd.method).1
  have hlocks : meth.locks = false := BodyLoose.notSynchronized Bd
  have X0 : Stand p l e ({ frames := 2, cells := 1, slots := 3, locals := 28 } : Room) s m #[(.ref a1), (.long q2)] below meth c s₁ [] 0 0 := Stand.of_body Bd
  have e0 : s₁.heap = h0 := by rw [← hh, Bd.state]; rfl
  have N0 := Fr.nil n0
  show Goes p e below (s₁.setTop (entryFrame m #[(.ref a1), (.long q2)] 7)) (Fin s (Q17 Z a1 q2 p2 h0 n0) ({ frames := 2, cells := 1, slots := 3, locals := 28 } : Room).cells ({ frames := 2, cells := 1, slots := 3, locals := 28 } : Room).slots)
  refine Goes.of (fun t k => castTop (ef_17 m a1 q2) k) ?_
  have K0 : Keep h0 h0 [] := Keep.refl _ _
  show Goes p e below (s₁.setTop (mkF m 0 #[.val (.ref a1), .val (.long q2), .second, .unset, .unset, .unset, .unset] [])) _
  have dm := own_dom q2 r1 r2
  refine Goes.of (fun t k => XS.lloadN X0.here hx rfl (hb hby d17_0) rfl k) ?_
  show Goes p e below (s₁.setTop (mkF m 1 #[.val (.ref a1), .val (.long q2), .second, .unset, .unset, .unset, .unset] [(.long q2)])) _
  refine Goes.of (fun t k => XS.lconst X0.here hx rfl (hb hby d17_1) k) ?_
  show Goes p e below (s₁.setTop (mkF m 2 #[.val (.ref a1), .val (.long q2), .second, .unset, .unset, .unset, .unset] [(.long (0 : Int64)), (.long q2)])) _
  refine Goes.of (fun t k => XS.lcmp X0.here hx rfl (hb hby d17_2) rfl k) ?_
  show Goes p e below (s₁.setTop (mkF m 3 #[.val (.ref a1), .val (.long q2), .second, .unset, .unset, .unset, .unset] [(.int (lcmpW q2 (0 : Int64)))])) _
  by_cases hc3_158 : q2 = (0 : Int64)
  · refine Goes.of (fun t k => XS.ifNo X0.here hx rfl (hb hby d17_3) rfl ((if0 _ _).trans (teq ((lw_eq _ _).mpr hc3_158)).2) k) ?_
    show Goes p e below (s₁.setTop (mkF m 6 #[.val (.ref a1), .val (.long q2), .second, .unset, .unset, .unset, .unset] [])) _
    refine Goes.of (fun t k => XS.aloadN X0.here hx rfl (hb hby d17_6) rfl rfl k) ?_
    show Goes p e below (s₁.setTop (mkF m 7 #[.val (.ref a1), .val (.long q2), .second, .unset, .unset, .unset, .unset] [(.ref a1)])) _
    have hz : ¬ ((31 : Int32).toInt64 < (22 : Int32).toInt64 + q2) := by rw [hc3_158]; decide
    have hz2 : ((22 : Int32).toInt64 + q2).toInt32 = 22 := by rw [hc3_158]; decide
    have eh : s₁.heap = h0 := e0
    have hmo : own_mo q2 = 3 := by rw [own_mo, if_neg hz]
    have hda : own_da q2 = 22 := by rw [own_da, if_neg hz, hz2]
    exact Goes.retA X0 hx (by rfl) Bd.returns (by rfl) hlocks (hb hby d17_7) (⟨a1, rfl, N0, by rw [eh]; exact K0, by rw [eh]; exact E, by rw [eh]; exact F_year, by rw [eh, hmo]; exact F_month, by rw [eh, hda]; exact F_day⟩) (by decide) (by decide)
  · refine Goes.of (fun t k => XS.ifYes X0.here hx rfl (pc0 := 3) (pc' := 8) rfl (hb hby d17_3) rfl ((if0 _ _).trans (feq (mt (lw_eq _ _).mp hc3_158)).2) (by decide) (by decide) k) ?_
    show Goes p e below (s₁.setTop (mkF m 8 #[.val (.ref a1), .val (.long q2), .second, .unset, .unset, .unset, .unset] [])) _
    refine Goes.of (fun t k => XS.aloadN X0.here hx rfl (hb hby d17_8) rfl rfl k) ?_
    obtain ⟨T159, X159, e159, st159⟩ := getF X0 hx hZ hown (host := "") (Or.inl (wd hw 84 rfl)) Via.refl e0 F_day (g := (mkF m 9 #[.val (.ref a1), .val (.long q2), .second, .unset, .unset, .unset, .unset] [(.ref a1)])) rfl rfl (hb hby d17_9)
    refine Goes.of st159 ?_
    show Goes p e below (T159.setTop (mkF m 12 #[.val (.ref a1), .val (.long q2), .second, .unset, .unset, .unset, .unset] [(.int (22 : Int32))])) _
    refine Goes.of (fun t k => XS.i2l X159.here hx rfl (hb hby d17_12) rfl k) ?_
    show Goes p e below (T159.setTop (mkF m 13 #[.val (.ref a1), .val (.long q2), .second, .unset, .unset, .unset, .unset] [(.long ((22 : Int32).toInt64))])) _
    refine Goes.of (fun t k => XS.lloadN X159.here hx rfl (hb hby d17_13) rfl k) ?_
    show Goes p e below (T159.setTop (mkF m 14 #[.val (.ref a1), .val (.long q2), .second, .unset, .unset, .unset, .unset] [(.long q2), (.long ((22 : Int32).toInt64))])) _
    refine Goes.of (fun t k => XS.ladd X159.here hx rfl (hb hby d17_14) rfl k) ?_
    show Goes p e below (T159.setTop (mkF m 15 #[.val (.ref a1), .val (.long q2), .second, .unset, .unset, .unset, .unset] [(.long (((22 : Int32).toInt64) + q2))])) _
    refine Goes.of (fun t k => XS.lstoreN X159.here hx rfl (hb hby d17_15) rfl (l' := #[.val (.ref a1), .val (.long q2), .second, .val (.long (((22 : Int32).toInt64) + q2)), .second, .unset, .unset]) rfl k) ?_
    show Goes p e below (T159.setTop (mkF m 16 #[.val (.ref a1), .val (.long q2), .second, .val (.long (((22 : Int32).toInt64) + q2)), .second, .unset, .unset] [])) _
    refine Goes.of (fun t k => XS.lloadN X159.here hx rfl (hb hby d17_16) rfl k) ?_
    show Goes p e below (T159.setTop (mkF m 17 #[.val (.ref a1), .val (.long q2), .second, .val (.long (((22 : Int32).toInt64) + q2)), .second, .unset, .unset] [(.long (((22 : Int32).toInt64) + q2))])) _
    refine Goes.of (fun t k => XS.lconst X159.here hx rfl (hb hby d17_17) k) ?_
    show Goes p e below (T159.setTop (mkF m 18 #[.val (.ref a1), .val (.long q2), .second, .val (.long (((22 : Int32).toInt64) + q2)), .second, .unset, .unset] [(.long (0 : Int64)), (.long (((22 : Int32).toInt64) + q2))])) _
    refine Goes.of (fun t k => XS.lcmp X159.here hx rfl (hb hby d17_18) rfl k) ?_
    show Goes p e below (T159.setTop (mkF m 19 #[.val (.ref a1), .val (.long q2), .second, .val (.long (((22 : Int32).toInt64) + q2)), .second, .unset, .unset] [(.int (lcmpW (((22 : Int32).toInt64) + q2) (0 : Int64)))])) _
    have hd19_160 : (0 : Int64) < (((22 : Int32).toInt64) + q2) := Int64.lt_iff_toInt_lt.mpr (by rw [dm.1]; have e : (0 : Int64).toInt = 0 := (by decide); omega)
    refine Goes.of (fun t k => XS.ifNo X159.here hx rfl (hb hby d17_19) rfl ((if0 _ _).trans (tlt ((lw_gt _ _).mpr hd19_160)).2.2.2) k) ?_
    show Goes p e below (T159.setTop (mkF m 22 #[.val (.ref a1), .val (.long q2), .second, .val (.long (((22 : Int32).toInt64) + q2)), .second, .unset, .unset] [])) _
    refine Goes.of (fun t k => XS.lloadN X159.here hx rfl (hb hby d17_22) rfl k) ?_
    show Goes p e below (T159.setTop (mkF m 23 #[.val (.ref a1), .val (.long q2), .second, .val (.long (((22 : Int32).toInt64) + q2)), .second, .unset, .unset] [(.long (((22 : Int32).toInt64) + q2))])) _
    refine Goes.of (fun t k => X159.ldc2Long hx hown (mvT hZ (wd hw 127 rfl)) (g := (mkF m 23 #[.val (.ref a1), .val (.long q2), .second, .val (.long (((22 : Int32).toInt64) + q2)), .second, .unset, .unset] [(.long (((22 : Int32).toInt64) + q2))])) rfl (hb hby d17_23) _ k) ?_
    show Goes p e below (T159.setTop (mkF m 26 #[.val (.ref a1), .val (.long q2), .second, .val (.long (((22 : Int32).toInt64) + q2)), .second, .unset, .unset] [(.long (28 : Int64)), (.long (((22 : Int32).toInt64) + q2))])) _
    refine Goes.of (fun t k => XS.lcmp X159.here hx rfl (hb hby d17_26) rfl k) ?_
    show Goes p e below (T159.setTop (mkF m 27 #[.val (.ref a1), .val (.long q2), .second, .val (.long (((22 : Int32).toInt64) + q2)), .second, .unset, .unset] [(.int (lcmpW (((22 : Int32).toInt64) + q2) (28 : Int64)))])) _
    by_cases hc27_161 : (28 : Int64) < (((22 : Int32).toInt64) + q2)
    · refine Goes.of (fun t k => XS.ifYes X159.here hx rfl (pc0 := 27) (pc' := 48) rfl (hb hby d17_27) rfl ((if0 _ _).trans (tlt ((lw_gt _ _).mpr hc27_161)).2.2.1) (by decide) (by decide) k) ?_
      show Goes p e below (T159.setTop (mkF m 48 #[.val (.ref a1), .val (.long q2), .second, .val (.long (((22 : Int32).toInt64) + q2)), .second, .unset, .unset] [])) _
      refine Goes.of (fun t k => XS.lloadN X159.here hx rfl (hb hby d17_48) rfl k) ?_
      show Goes p e below (T159.setTop (mkF m 49 #[.val (.ref a1), .val (.long q2), .second, .val (.long (((22 : Int32).toInt64) + q2)), .second, .unset, .unset] [(.long (((22 : Int32).toInt64) + q2))])) _
      refine Goes.of (fun t k => X159.ldc2Long hx hown (mvT hZ (wd hw 128 rfl)) (g := (mkF m 49 #[.val (.ref a1), .val (.long q2), .second, .val (.long (((22 : Int32).toInt64) + q2)), .second, .unset, .unset] [(.long (((22 : Int32).toInt64) + q2))])) rfl (hb hby d17_49) _ k) ?_
      show Goes p e below (T159.setTop (mkF m 52 #[.val (.ref a1), .val (.long q2), .second, .val (.long (((22 : Int32).toInt64) + q2)), .second, .unset, .unset] [(.long (59 : Int64)), (.long (((22 : Int32).toInt64) + q2))])) _
      refine Goes.of (fun t k => XS.lcmp X159.here hx rfl (hb hby d17_52) rfl k) ?_
      show Goes p e below (T159.setTop (mkF m 53 #[.val (.ref a1), .val (.long q2), .second, .val (.long (((22 : Int32).toInt64) + q2)), .second, .unset, .unset] [(.int (lcmpW (((22 : Int32).toInt64) + q2) (59 : Int64)))])) _
      have hd53_162 : ¬ ((59 : Int64) < (((22 : Int32).toInt64) + q2)) := fun q => by have := Int64.lt_iff_toInt_lt.mp q; rw [dm.1] at this; have e : (59 : Int64).toInt = 59 := (by decide); omega
      refine Goes.of (fun t k => XS.ifNo X159.here hx rfl (hb hby d17_53) rfl ((if0 _ _).trans (flt (mt (lw_gt _ _).mp hd53_162)).2.2.1) k) ?_
      show Goes p e below (T159.setTop (mkF m 56 #[.val (.ref a1), .val (.long q2), .second, .val (.long (((22 : Int32).toInt64) + q2)), .second, .unset, .unset] [])) _
      refine Goes.of (fun t k => XS.aloadN X159.here hx rfl (hb hby d17_56) rfl rfl k) ?_
      obtain ⟨cq163, kq163, q163a, q163b, q163c⟩ := isOf hZ e159 E
      obtain ⟨_, _, ⟨T163, L163, k163, n163⟩, -, X163, ⟨Lc163, hQ163, l163, y163, z163⟩, st163⟩ := X159.virtualBack hx (y := (⟨"java/time/LocalDate", "lengthOfMonth", "()I"⟩ : MethodName)) (z := (⟨"java/time/LocalDate", "lengthOfMonth", "()I"⟩ : MethodName)) hown (mvT hZ (wd hw 129 rfl)) (mvT hZ (wd hw 130 rfl)) (notFace_of_selects (args := #[]) (mvT hZ (wd hw 132 rfl))) (mvT hZ (wd hw 132 rfl)) (mvT hZ (wd hw 131 rfl)) (by decide) (backOf (W := 0) (rm18 l Z a0 hw [] a1  h0 n0 Z0 F_month) hZ (wd hw 133 rfl) (wd hw 25 rfl) (by decide) (by decide)) q163a q163c (g := (mkF m 57 #[.val (.ref a1), .val (.long q2), .second, .val (.long (((22 : Int32).toInt64) + q2)), .second, .unset, .unset] [(.ref a1)])) rfl (by rw [hml]; rfl) (Steps.refl _) (argsL := []) (rest := []) (lenOf pd_14 rfl) rfl (by show 2 * 0 + _ ≤ _; exact Nat.le_of_eq rfl) (hb hby d17_57) (fun _ _ => ⟨rfl, e159, (by decide : 0 + 0 ≤ _), (by decide : 0 + 0 ≤ _)⟩)
      dsimp only [Pt.U, Pt.locs, Pt.cells, Pt.slots] at X163 l163 y163 z163 st163 hQ163
      subst l163 y163 z163
      obtain ⟨rfl, N163q, e163⟩ := hQ163
      have N163 := Fr.app N0 N163q
      refine Goes.of (fun t k => st163.trans k) ?_
      show Goes p e below (T163.setTop (mkF m 60 #[.val (.ref a1), .val (.long q2), .second, .val (.long (((22 : Int32).toInt64) + q2)), .second, .unset, .unset] [(.int (31 : Int32))])) _
      refine Goes.of (fun t k => XS.i2l X163.here hx rfl (hb hby d17_60) rfl k) ?_
      show Goes p e below (T163.setTop (mkF m 61 #[.val (.ref a1), .val (.long q2), .second, .val (.long (((22 : Int32).toInt64) + q2)), .second, .unset, .unset] [(.long ((31 : Int32).toInt64))])) _
      refine Goes.of (fun t k => XS.lstore X163.here hx rfl (hb hby d17_61) rfl (l' := #[.val (.ref a1), .val (.long q2), .second, .val (.long (((22 : Int32).toInt64) + q2)), .second, .val (.long ((31 : Int32).toInt64)), .second]) rfl k) ?_
      show Goes p e below (T163.setTop (mkF m 63 #[.val (.ref a1), .val (.long q2), .second, .val (.long (((22 : Int32).toInt64) + q2)), .second, .val (.long ((31 : Int32).toInt64)), .second] [])) _
      refine Goes.of (fun t k => XS.lloadN X163.here hx rfl (hb hby d17_63) rfl k) ?_
      show Goes p e below (T163.setTop (mkF m 64 #[.val (.ref a1), .val (.long q2), .second, .val (.long (((22 : Int32).toInt64) + q2)), .second, .val (.long ((31 : Int32).toInt64)), .second] [(.long (((22 : Int32).toInt64) + q2))])) _
      refine Goes.of (fun t k => XS.lload X163.here hx rfl (hb hby d17_64) rfl k) ?_
      show Goes p e below (T163.setTop (mkF m 66 #[.val (.ref a1), .val (.long q2), .second, .val (.long (((22 : Int32).toInt64) + q2)), .second, .val (.long ((31 : Int32).toInt64)), .second] [(.long ((31 : Int32).toInt64)), (.long (((22 : Int32).toInt64) + q2))])) _
      refine Goes.of (fun t k => XS.lcmp X163.here hx rfl (hb hby d17_66) rfl k) ?_
      show Goes p e below (T163.setTop (mkF m 67 #[.val (.ref a1), .val (.long q2), .second, .val (.long (((22 : Int32).toInt64) + q2)), .second, .val (.long ((31 : Int32).toInt64)), .second] [(.int (lcmpW (((22 : Int32).toInt64) + q2) ((31 : Int32).toInt64)))])) _
      by_cases hc67_164 : ((31 : Int32).toInt64) < (((22 : Int32).toInt64) + q2)
      · refine Goes.of (fun t k => XS.ifYes X163.here hx rfl (pc0 := 67) (pc' := 88) rfl (hb hby d17_67) rfl ((if0 _ _).trans (tlt ((lw_gt _ _).mpr hc67_164)).2.2.1) (by decide) (by decide) k) ?_
        show Goes p e below (T163.setTop (mkF m 88 #[.val (.ref a1), .val (.long q2), .second, .val (.long (((22 : Int32).toInt64) + q2)), .second, .val (.long ((31 : Int32).toInt64)), .second] [])) _
        have d2 := own_dom2 q2 r1 r2 hc67_164
        refine Goes.of (fun t k => XS.aloadN X163.here hx rfl (hb hby d17_88) rfl rfl k) ?_
        obtain ⟨T165, X165, e165, st165⟩ := getF X163 hx hZ hown (host := "") (Or.inl (wd hw 82 rfl)) Via.refl e163 F_month (g := (mkF m 89 #[.val (.ref a1), .val (.long q2), .second, .val (.long (((22 : Int32).toInt64) + q2)), .second, .val (.long ((31 : Int32).toInt64)), .second] [(.ref a1)])) rfl rfl (hb hby d17_89)
        refine Goes.of st165 ?_
        show Goes p e below (T165.setTop (mkF m 92 #[.val (.ref a1), .val (.long q2), .second, .val (.long (((22 : Int32).toInt64) + q2)), .second, .val (.long ((31 : Int32).toInt64)), .second] [(.int (3 : Int32))])) _
        refine Goes.of (fun t k => XS.bipush X165.here hx rfl (hb hby d17_92) k) ?_
        show Goes p e below (T165.setTop (mkF m 94 #[.val (.ref a1), .val (.long q2), .second, .val (.long (((22 : Int32).toInt64) + q2)), .second, .val (.long ((31 : Int32).toInt64)), .second] [(.int (12 : Int32)), (.int (3 : Int32))])) _
        refine Goes.of (fun t k => XS.icmpNo X165.here hx rfl (hb hby d17_94) rfl (tlt (by decide)).2.1 k) ?_
        obtain ⟨T166, h166, X166, e166, E166, A166, D166, -, st166⟩ := newO X165 hx hZ hown (wd hw 71 rfl) (wd hw 72 rfl) (wd hw 25 rfl) e165 (g := (mkF m 97 #[.val (.ref a1), .val (.long q2), .second, .val (.long (((22 : Int32).toInt64) + q2)), .second, .val (.long ((31 : Int32).toInt64)), .second] [])) rfl (hb hby d17_97) (by decide) (by decide)
        obtain ⟨b166, g166⟩ : ∃ z, z = h0.size := ⟨_, rfl⟩
        rw [← g166] at A166 D166 st166
        have g167 : n0 ≤ b166 := Nat.le_trans Z0 (Nat.le_of_eq g166.symm)
        have z168 := Nat.le_trans Z0 E166.1
        have z169 : h0.size ≤ b166 := Nat.le_trans K0.1 (Nat.le_of_eq g166.symm)
        have q170 : a1 ≠ b166 := Nat.ne_of_lt (Nat.lt_of_lt_of_le E.lt (Nat.le_of_eq g166.symm))
        have f171 := E.ext E166
        have f172 := F_year.ext E166
        have f173 := F_month.ext E166
        have f174 := F_day.ext E166
        have K175 : Keep h0 h166 [] := K0.ext E166
        have f176 : Fld Z h166 b166 "java/time/LocalDate" "year" "I" (.int (0 : Int32)) := D166 (Or.inr (wd hw 81 rfl)) (ty := .int) (by decide)
        have f177 : Fld Z h166 b166 "java/time/LocalDate" "month" "S" (.int (0 : Int32)) := D166 (Or.inr (wd hw 83 rfl)) (ty := .short) (by decide)
        have f178 : Fld Z h166 b166 "java/time/LocalDate" "day" "S" (.int (0 : Int32)) := D166 (Or.inr (wd hw 85 rfl)) (ty := .short) (by decide)
        refine Goes.of st166 ?_
        show Goes p e below (T166.setTop (mkF m 100 #[.val (.ref a1), .val (.long q2), .second, .val (.long (((22 : Int32).toInt64) + q2)), .second, .val (.long ((31 : Int32).toInt64)), .second] [(.ref b166)])) _
        refine Goes.of (fun t k => XS.dup X166.here hx rfl (hb hby d17_100) rfl rfl k) ?_
        show Goes p e below (T166.setTop (mkF m 101 #[.val (.ref a1), .val (.long q2), .second, .val (.long (((22 : Int32).toInt64) + q2)), .second, .val (.long ((31 : Int32).toInt64)), .second] [(.ref b166), (.ref b166)])) _
        refine Goes.of (fun t k => XS.aloadN X166.here hx rfl (hb hby d17_101) rfl rfl k) ?_
        obtain ⟨T179, X179, e179, st179⟩ := getF X166 hx hZ hown (host := "") (Or.inl (wd hw 80 rfl)) Via.refl e166 f172 (g := (mkF m 102 #[.val (.ref a1), .val (.long q2), .second, .val (.long (((22 : Int32).toInt64) + q2)), .second, .val (.long ((31 : Int32).toInt64)), .second] [(.ref a1), (.ref b166), (.ref b166)])) rfl rfl (hb hby d17_102)
        refine Goes.of st179 ?_
        show Goes p e below (T179.setTop (mkF m 105 #[.val (.ref a1), .val (.long q2), .second, .val (.long (((22 : Int32).toInt64) + q2)), .second, .val (.long ((31 : Int32).toInt64)), .second] [(.int p2), (.ref b166), (.ref b166)])) _
        refine Goes.of (fun t k => XS.aloadN X179.here hx rfl (hb hby d17_105) rfl rfl k) ?_
        obtain ⟨T180, X180, e180, st180⟩ := getF X179 hx hZ hown (host := "") (Or.inl (wd hw 82 rfl)) Via.refl e179 f173 (g := (mkF m 106 #[.val (.ref a1), .val (.long q2), .second, .val (.long (((22 : Int32).toInt64) + q2)), .second, .val (.long ((31 : Int32).toInt64)), .second] [(.ref a1), (.int p2), (.ref b166), (.ref b166)])) rfl rfl (hb hby d17_106)
        refine Goes.of st180 ?_
        show Goes p e below (T180.setTop (mkF m 109 #[.val (.ref a1), .val (.long q2), .second, .val (.long (((22 : Int32).toInt64) + q2)), .second, .val (.long ((31 : Int32).toInt64)), .second] [(.int (3 : Int32)), (.int p2), (.ref b166), (.ref b166)])) _
        refine Goes.of (fun t k => XS.iconst X180.here hx rfl (hb hby d17_109) k) ?_
        show Goes p e below (T180.setTop (mkF m 110 #[.val (.ref a1), .val (.long q2), .second, .val (.long (((22 : Int32).toInt64) + q2)), .second, .val (.long ((31 : Int32).toInt64)), .second] [(.int (1 : Int32)), (.int (3 : Int32)), (.int p2), (.ref b166), (.ref b166)])) _
        refine Goes.of (fun t k => XS.iadd X180.here hx rfl (hb hby d17_110) rfl k) ?_
        show Goes p e below (T180.setTop (mkF m 111 #[.val (.ref a1), .val (.long q2), .second, .val (.long (((22 : Int32).toInt64) + q2)), .second, .val (.long ((31 : Int32).toInt64)), .second] [(.int ((3 : Int32) + (1 : Int32))), (.int p2), (.ref b166), (.ref b166)])) _
        refine Goes.of (fun t k => XS.lloadN X180.here hx rfl (hb hby d17_111) rfl k) ?_
        show Goes p e below (T180.setTop (mkF m 112 #[.val (.ref a1), .val (.long q2), .second, .val (.long (((22 : Int32).toInt64) + q2)), .second, .val (.long ((31 : Int32).toInt64)), .second] [(.long (((22 : Int32).toInt64) + q2)), (.int ((3 : Int32) + (1 : Int32))), (.int p2), (.ref b166), (.ref b166)])) _
        refine Goes.of (fun t k => XS.lload X180.here hx rfl (hb hby d17_112) rfl k) ?_
        show Goes p e below (T180.setTop (mkF m 114 #[.val (.ref a1), .val (.long q2), .second, .val (.long (((22 : Int32).toInt64) + q2)), .second, .val (.long ((31 : Int32).toInt64)), .second] [(.long ((31 : Int32).toInt64)), (.long (((22 : Int32).toInt64) + q2)), (.int ((3 : Int32) + (1 : Int32))), (.int p2), (.ref b166), (.ref b166)])) _
        refine Goes.of (fun t k => XS.lsub X180.here hx rfl (hb hby d17_114) rfl k) ?_
        show Goes p e below (T180.setTop (mkF m 115 #[.val (.ref a1), .val (.long q2), .second, .val (.long (((22 : Int32).toInt64) + q2)), .second, .val (.long ((31 : Int32).toInt64)), .second] [(.long ((((22 : Int32).toInt64) + q2) - ((31 : Int32).toInt64))), (.int ((3 : Int32) + (1 : Int32))), (.int p2), (.ref b166), (.ref b166)])) _
        refine Goes.of (fun t k => XS.l2i X180.here hx rfl (hb hby d17_115) rfl k) ?_
        obtain ⟨_, _, ⟨T181, L181, k181, n181⟩, -, X181, ⟨Lc181, hQ181, l181, y181, z181⟩, st181⟩ := X180.specialBack hx (y := (⟨"java/time/LocalDate", "<init>", "(III)V"⟩ : MethodName)) rfl hown (mvT hZ (wd hw 73 rfl)) (mvT hZ (wd hw 74 rfl)) (mvT hZ (wd hw 76 rfl)) (by decide) (backOf (W := 1) (rm10 l Z a0 hw [] b166 p2 ((3 : Int32) + (1 : Int32)) (((((22 : Int32).toInt64) + q2) - ((31 : Int32).toInt64)).toInt32)  h166 n0 z168 A166 f176 f177 f178 g167) hZ (wd hw 76 rfl) (wd hw 25 rfl) (by decide) (by decide)) (g := (mkF m 116 #[.val (.ref a1), .val (.long q2), .second, .val (.long (((22 : Int32).toInt64) + q2)), .second, .val (.long ((31 : Int32).toInt64)), .second] [(.int (((((22 : Int32).toInt64) + q2) - ((31 : Int32).toInt64)).toInt32)), (.int ((3 : Int32) + (1 : Int32))), (.int p2), (.ref b166), (.ref b166)])) rfl (by rw [hml]; rfl) (Steps.refl _) (a := b166) (argsL := [(.int p2), (.int ((3 : Int32) + (1 : Int32))), (.int (((((22 : Int32).toInt64) + q2) - ((31 : Int32).toInt64)).toInt32))]) (rest := [(.ref b166)]) (lenOf pd_8 rfl) rfl (by show 2 * 0 + _ ≤ _; exact Nat.le_of_eq rfl) (hb hby d17_116) (fun _ _ => ⟨rfl, e180, (by decide : 1 + 0 ≤ _), (by decide : 3 + 0 ≤ _)⟩)
        dsimp only [Pt.U, Pt.locs, Pt.cells, Pt.slots] at X181 l181 y181 z181 st181 hQ181
        subst l181 y181 z181
        obtain ⟨rfl, N181q, K181, E181, Fy181, Fm181, Fd181⟩ := hQ181
        have N181 := Fr.app N163 N181q
        have K182 : Keep h0 T181.heap [] := K175.trans K181 (allS (Or.inr z169) all0)
        have z183 := Nat.le_trans z168 K181.1
        have f184 := f171.keep K181
        have f185 := f172.keep K181 (ninS q170 nin0)
        have f186 := f173.keep K181 (ninS q170 nin0)
        have f187 := f174.keep K181 (ninS q170 nin0)
        have f188 := A166.keep K181
        rw [own_s34] at Fm181
        rw [(own_shs (by omega) (by omega))] at Fd181
        refine Goes.of (fun t k => st181.trans k) ?_
        show Goes p e below (T181.setTop (mkF m 119 #[.val (.ref a1), .val (.long q2), .second, .val (.long (((22 : Int32).toInt64) + q2)), .second, .val (.long ((31 : Int32).toInt64)), .second] [(.ref b166)])) _
        have eh : T181.heap = T181.heap := rfl
        have hmo : own_mo q2 = (4 : Int32) := by rw [own_mo, if_pos hc67_164]
        have hda : own_da q2 = (((((22 : Int32).toInt64) + q2) - ((31 : Int32).toInt64)).toInt32) := by rw [own_da, if_pos hc67_164]
        exact Goes.retA X181 hx (by rfl) Bd.returns (by rfl) hlocks (hb hby d17_119) (⟨b166, rfl, N181, by rw [eh]; exact K182, by rw [eh]; exact f188, by rw [eh]; exact Fy181, by rw [eh, hmo]; exact Fm181, by rw [eh, hda]; exact Fd181⟩) (by decide) (by decide)
      · refine Goes.of (fun t k => XS.ifNo X163.here hx rfl (hb hby d17_67) rfl ((if0 _ _).trans (flt (mt (lw_gt _ _).mp hc67_164)).2.2.1) k) ?_
        obtain ⟨T192, h192, X192, e192, E192, A192, D192, -, st192⟩ := newO X163 hx hZ hown (wd hw 71 rfl) (wd hw 72 rfl) (wd hw 25 rfl) e163 (g := (mkF m 70 #[.val (.ref a1), .val (.long q2), .second, .val (.long (((22 : Int32).toInt64) + q2)), .second, .val (.long ((31 : Int32).toInt64)), .second] [])) rfl (hb hby d17_70) (by decide) (by decide)
        obtain ⟨b192, g192⟩ : ∃ z, z = h0.size := ⟨_, rfl⟩
        rw [← g192] at A192 D192 st192
        have g193 : n0 ≤ b192 := Nat.le_trans Z0 (Nat.le_of_eq g192.symm)
        have z194 := Nat.le_trans Z0 E192.1
        have z195 : h0.size ≤ b192 := Nat.le_trans K0.1 (Nat.le_of_eq g192.symm)
        have q196 : a1 ≠ b192 := Nat.ne_of_lt (Nat.lt_of_lt_of_le E.lt (Nat.le_of_eq g192.symm))
        have f197 := E.ext E192
        have f198 := F_year.ext E192
        have f199 := F_month.ext E192
        have f200 := F_day.ext E192
        have K201 : Keep h0 h192 [] := K0.ext E192
        have f202 : Fld Z h192 b192 "java/time/LocalDate" "year" "I" (.int (0 : Int32)) := D192 (Or.inr (wd hw 81 rfl)) (ty := .int) (by decide)
        have f203 : Fld Z h192 b192 "java/time/LocalDate" "month" "S" (.int (0 : Int32)) := D192 (Or.inr (wd hw 83 rfl)) (ty := .short) (by decide)
        have f204 : Fld Z h192 b192 "java/time/LocalDate" "day" "S" (.int (0 : Int32)) := D192 (Or.inr (wd hw 85 rfl)) (ty := .short) (by decide)
        refine Goes.of st192 ?_
        show Goes p e below (T192.setTop (mkF m 73 #[.val (.ref a1), .val (.long q2), .second, .val (.long (((22 : Int32).toInt64) + q2)), .second, .val (.long ((31 : Int32).toInt64)), .second] [(.ref b192)])) _
        refine Goes.of (fun t k => XS.dup X192.here hx rfl (hb hby d17_73) rfl rfl k) ?_
        show Goes p e below (T192.setTop (mkF m 74 #[.val (.ref a1), .val (.long q2), .second, .val (.long (((22 : Int32).toInt64) + q2)), .second, .val (.long ((31 : Int32).toInt64)), .second] [(.ref b192), (.ref b192)])) _
        refine Goes.of (fun t k => XS.aloadN X192.here hx rfl (hb hby d17_74) rfl rfl k) ?_
        obtain ⟨T205, X205, e205, st205⟩ := getF X192 hx hZ hown (host := "") (Or.inl (wd hw 80 rfl)) Via.refl e192 f198 (g := (mkF m 75 #[.val (.ref a1), .val (.long q2), .second, .val (.long (((22 : Int32).toInt64) + q2)), .second, .val (.long ((31 : Int32).toInt64)), .second] [(.ref a1), (.ref b192), (.ref b192)])) rfl rfl (hb hby d17_75)
        refine Goes.of st205 ?_
        show Goes p e below (T205.setTop (mkF m 78 #[.val (.ref a1), .val (.long q2), .second, .val (.long (((22 : Int32).toInt64) + q2)), .second, .val (.long ((31 : Int32).toInt64)), .second] [(.int p2), (.ref b192), (.ref b192)])) _
        refine Goes.of (fun t k => XS.aloadN X205.here hx rfl (hb hby d17_78) rfl rfl k) ?_
        obtain ⟨T206, X206, e206, st206⟩ := getF X205 hx hZ hown (host := "") (Or.inl (wd hw 82 rfl)) Via.refl e205 f199 (g := (mkF m 79 #[.val (.ref a1), .val (.long q2), .second, .val (.long (((22 : Int32).toInt64) + q2)), .second, .val (.long ((31 : Int32).toInt64)), .second] [(.ref a1), (.int p2), (.ref b192), (.ref b192)])) rfl rfl (hb hby d17_79)
        refine Goes.of st206 ?_
        show Goes p e below (T206.setTop (mkF m 82 #[.val (.ref a1), .val (.long q2), .second, .val (.long (((22 : Int32).toInt64) + q2)), .second, .val (.long ((31 : Int32).toInt64)), .second] [(.int (3 : Int32)), (.int p2), (.ref b192), (.ref b192)])) _
        refine Goes.of (fun t k => XS.lloadN X206.here hx rfl (hb hby d17_82) rfl k) ?_
        show Goes p e below (T206.setTop (mkF m 83 #[.val (.ref a1), .val (.long q2), .second, .val (.long (((22 : Int32).toInt64) + q2)), .second, .val (.long ((31 : Int32).toInt64)), .second] [(.long (((22 : Int32).toInt64) + q2)), (.int (3 : Int32)), (.int p2), (.ref b192), (.ref b192)])) _
        refine Goes.of (fun t k => XS.l2i X206.here hx rfl (hb hby d17_83) rfl k) ?_
        obtain ⟨_, _, ⟨T207, L207, k207, n207⟩, -, X207, ⟨Lc207, hQ207, l207, y207, z207⟩, st207⟩ := X206.specialBack hx (y := (⟨"java/time/LocalDate", "<init>", "(III)V"⟩ : MethodName)) rfl hown (mvT hZ (wd hw 73 rfl)) (mvT hZ (wd hw 74 rfl)) (mvT hZ (wd hw 76 rfl)) (by decide) (backOf (W := 1) (rm10 l Z a0 hw [] b192 p2 (3 : Int32) ((((22 : Int32).toInt64) + q2).toInt32)  h192 n0 z194 A192 f202 f203 f204 g193) hZ (wd hw 76 rfl) (wd hw 25 rfl) (by decide) (by decide)) (g := (mkF m 84 #[.val (.ref a1), .val (.long q2), .second, .val (.long (((22 : Int32).toInt64) + q2)), .second, .val (.long ((31 : Int32).toInt64)), .second] [(.int ((((22 : Int32).toInt64) + q2).toInt32)), (.int (3 : Int32)), (.int p2), (.ref b192), (.ref b192)])) rfl (by rw [hml]; rfl) (Steps.refl _) (a := b192) (argsL := [(.int p2), (.int (3 : Int32)), (.int ((((22 : Int32).toInt64) + q2).toInt32))]) (rest := [(.ref b192)]) (lenOf pd_8 rfl) rfl (by show 2 * 0 + _ ≤ _; exact Nat.le_of_eq rfl) (hb hby d17_84) (fun _ _ => ⟨rfl, e206, (by decide : 1 + 0 ≤ _), (by decide : 3 + 0 ≤ _)⟩)
        dsimp only [Pt.U, Pt.locs, Pt.cells, Pt.slots] at X207 l207 y207 z207 st207 hQ207
        subst l207 y207 z207
        obtain ⟨rfl, N207q, K207, E207, Fy207, Fm207, Fd207⟩ := hQ207
        have N207 := Fr.app N163 N207q
        have K208 : Keep h0 T207.heap [] := K201.trans K207 (allS (Or.inr z195) all0)
        have z209 := Nat.le_trans z194 K207.1
        have f210 := f197.keep K207
        have f211 := f198.keep K207 (ninS q196 nin0)
        have f212 := f199.keep K207 (ninS q196 nin0)
        have f213 := f200.keep K207 (ninS q196 nin0)
        have f214 := A192.keep K207
        rw [own_s3] at Fm207
        rw [(own_shs (by omega) (by omega))] at Fd207
        refine Goes.of (fun t k => st207.trans k) ?_
        show Goes p e below (T207.setTop (mkF m 87 #[.val (.ref a1), .val (.long q2), .second, .val (.long (((22 : Int32).toInt64) + q2)), .second, .val (.long ((31 : Int32).toInt64)), .second] [(.ref b192)])) _
        have eh : T207.heap = T207.heap := rfl
        have hmo : own_mo q2 = (3 : Int32) := by rw [own_mo, if_neg hc67_164]
        have hda : own_da q2 = ((((22 : Int32).toInt64) + q2).toInt32) := by rw [own_da, if_neg hc67_164]
        exact Goes.retA X207 hx (by rfl) Bd.returns (by rfl) hlocks (hb hby d17_87) (⟨b192, rfl, N207, by rw [eh]; exact K208, by rw [eh]; exact f214, by rw [eh]; exact Fy207, by rw [eh, hmo]; exact Fm207, by rw [eh, hda]; exact Fd207⟩) (by decide) (by decide)
    · refine Goes.of (fun t k => XS.ifNo X159.here hx rfl (hb hby d17_27) rfl ((if0 _ _).trans (flt (mt (lw_gt _ _).mp hc27_161)).2.2.1) k) ?_
      obtain ⟨T218, h218, X218, e218, E218, A218, D218, -, st218⟩ := newO X159 hx hZ hown (wd hw 71 rfl) (wd hw 72 rfl) (wd hw 25 rfl) e159 (g := (mkF m 30 #[.val (.ref a1), .val (.long q2), .second, .val (.long (((22 : Int32).toInt64) + q2)), .second, .unset, .unset] [])) rfl (hb hby d17_30) (by decide) (by decide)
      obtain ⟨b218, g218⟩ : ∃ z, z = h0.size := ⟨_, rfl⟩
      rw [← g218] at A218 D218 st218
      have g219 : n0 ≤ b218 := Nat.le_trans Z0 (Nat.le_of_eq g218.symm)
      have z220 := Nat.le_trans Z0 E218.1
      have z221 : h0.size ≤ b218 := Nat.le_trans K0.1 (Nat.le_of_eq g218.symm)
      have q222 : a1 ≠ b218 := Nat.ne_of_lt (Nat.lt_of_lt_of_le E.lt (Nat.le_of_eq g218.symm))
      have f223 := E.ext E218
      have f224 := F_year.ext E218
      have f225 := F_month.ext E218
      have f226 := F_day.ext E218
      have K227 : Keep h0 h218 [] := K0.ext E218
      have f228 : Fld Z h218 b218 "java/time/LocalDate" "year" "I" (.int (0 : Int32)) := D218 (Or.inr (wd hw 81 rfl)) (ty := .int) (by decide)
      have f229 : Fld Z h218 b218 "java/time/LocalDate" "month" "S" (.int (0 : Int32)) := D218 (Or.inr (wd hw 83 rfl)) (ty := .short) (by decide)
      have f230 : Fld Z h218 b218 "java/time/LocalDate" "day" "S" (.int (0 : Int32)) := D218 (Or.inr (wd hw 85 rfl)) (ty := .short) (by decide)
      refine Goes.of st218 ?_
      show Goes p e below (T218.setTop (mkF m 33 #[.val (.ref a1), .val (.long q2), .second, .val (.long (((22 : Int32).toInt64) + q2)), .second, .unset, .unset] [(.ref b218)])) _
      refine Goes.of (fun t k => XS.dup X218.here hx rfl (hb hby d17_33) rfl rfl k) ?_
      show Goes p e below (T218.setTop (mkF m 34 #[.val (.ref a1), .val (.long q2), .second, .val (.long (((22 : Int32).toInt64) + q2)), .second, .unset, .unset] [(.ref b218), (.ref b218)])) _
      refine Goes.of (fun t k => XS.aloadN X218.here hx rfl (hb hby d17_34) rfl rfl k) ?_
      obtain ⟨T231, X231, e231, st231⟩ := getF X218 hx hZ hown (host := "") (Or.inl (wd hw 80 rfl)) Via.refl e218 f224 (g := (mkF m 35 #[.val (.ref a1), .val (.long q2), .second, .val (.long (((22 : Int32).toInt64) + q2)), .second, .unset, .unset] [(.ref a1), (.ref b218), (.ref b218)])) rfl rfl (hb hby d17_35)
      refine Goes.of st231 ?_
      show Goes p e below (T231.setTop (mkF m 38 #[.val (.ref a1), .val (.long q2), .second, .val (.long (((22 : Int32).toInt64) + q2)), .second, .unset, .unset] [(.int p2), (.ref b218), (.ref b218)])) _
      refine Goes.of (fun t k => XS.aloadN X231.here hx rfl (hb hby d17_38) rfl rfl k) ?_
      obtain ⟨T232, X232, e232, st232⟩ := getF X231 hx hZ hown (host := "") (Or.inl (wd hw 82 rfl)) Via.refl e231 f225 (g := (mkF m 39 #[.val (.ref a1), .val (.long q2), .second, .val (.long (((22 : Int32).toInt64) + q2)), .second, .unset, .unset] [(.ref a1), (.int p2), (.ref b218), (.ref b218)])) rfl rfl (hb hby d17_39)
      refine Goes.of st232 ?_
      show Goes p e below (T232.setTop (mkF m 42 #[.val (.ref a1), .val (.long q2), .second, .val (.long (((22 : Int32).toInt64) + q2)), .second, .unset, .unset] [(.int (3 : Int32)), (.int p2), (.ref b218), (.ref b218)])) _
      refine Goes.of (fun t k => XS.lloadN X232.here hx rfl (hb hby d17_42) rfl k) ?_
      show Goes p e below (T232.setTop (mkF m 43 #[.val (.ref a1), .val (.long q2), .second, .val (.long (((22 : Int32).toInt64) + q2)), .second, .unset, .unset] [(.long (((22 : Int32).toInt64) + q2)), (.int (3 : Int32)), (.int p2), (.ref b218), (.ref b218)])) _
      refine Goes.of (fun t k => XS.l2i X232.here hx rfl (hb hby d17_43) rfl k) ?_
      obtain ⟨_, _, ⟨T233, L233, k233, n233⟩, -, X233, ⟨Lc233, hQ233, l233, y233, z233⟩, st233⟩ := X232.specialBack hx (y := (⟨"java/time/LocalDate", "<init>", "(III)V"⟩ : MethodName)) rfl hown (mvT hZ (wd hw 73 rfl)) (mvT hZ (wd hw 74 rfl)) (mvT hZ (wd hw 76 rfl)) (by decide) (backOf (W := 1) (rm10 l Z a0 hw [] b218 p2 (3 : Int32) ((((22 : Int32).toInt64) + q2).toInt32)  h218 n0 z220 A218 f228 f229 f230 g219) hZ (wd hw 76 rfl) (wd hw 25 rfl) (by decide) (by decide)) (g := (mkF m 44 #[.val (.ref a1), .val (.long q2), .second, .val (.long (((22 : Int32).toInt64) + q2)), .second, .unset, .unset] [(.int ((((22 : Int32).toInt64) + q2).toInt32)), (.int (3 : Int32)), (.int p2), (.ref b218), (.ref b218)])) rfl (by rw [hml]; rfl) (Steps.refl _) (a := b218) (argsL := [(.int p2), (.int (3 : Int32)), (.int ((((22 : Int32).toInt64) + q2).toInt32))]) (rest := [(.ref b218)]) (lenOf pd_8 rfl) rfl (by show 2 * 0 + _ ≤ _; exact Nat.le_of_eq rfl) (hb hby d17_44) (fun _ _ => ⟨rfl, e232, (by decide : 1 + 0 ≤ _), (by decide : 3 + 0 ≤ _)⟩)
      dsimp only [Pt.U, Pt.locs, Pt.cells, Pt.slots] at X233 l233 y233 z233 st233 hQ233
      subst l233 y233 z233
      obtain ⟨rfl, N233q, K233, E233, Fy233, Fm233, Fd233⟩ := hQ233
      have N233 := Fr.app N0 N233q
      have K234 : Keep h0 T233.heap [] := K227.trans K233 (allS (Or.inr z221) all0)
      have z235 := Nat.le_trans z220 K233.1
      have f236 := f223.keep K233
      have f237 := f224.keep K233 (ninS q222 nin0)
      have f238 := f225.keep K233 (ninS q222 nin0)
      have f239 := f226.keep K233 (ninS q222 nin0)
      have f240 := A218.keep K233
      rw [own_s3] at Fm233
      rw [(own_shs (by omega) (by omega))] at Fd233
      refine Goes.of (fun t k => st233.trans k) ?_
      show Goes p e below (T233.setTop (mkF m 47 #[.val (.ref a1), .val (.long q2), .second, .val (.long (((22 : Int32).toInt64) + q2)), .second, .unset, .unset] [(.ref b218)])) _
      have hn : ¬ ((31 : Int32).toInt64 < (22 : Int32).toInt64 + q2) := fun q => hc27_161 (Int64.lt_trans (by decide) q)
      have eh : T233.heap = T233.heap := rfl
      have hmo : own_mo q2 = (3 : Int32) := by rw [own_mo, if_neg hn]
      have hda : own_da q2 = ((((22 : Int32).toInt64) + q2).toInt32) := by rw [own_da, if_neg hn]
      exact Goes.retA X233 hx (by rfl) Bd.returns (by rfl) hlocks (hb hby d17_47) (⟨b218, rfl, N233, by rw [eh]; exact K234, by rw [eh]; exact f240, by rw [eh]; exact Fy233, by rw [eh, hmo]; exact Fm233, by rw [eh, hda]; exact Fd233⟩) (by decide) (by decide)
theorem ef_12 (m : MethodId) (x0 : Int32) : entryFrame m #[(.int x0)] 9 = mkF m 0 #[.val (.int x0), .unset, .unset, .unset, .unset, .unset, .unset, .unset, .unset] [] := by first | (simp [entryFrame, mkF, argsToLocals, Value.category]; done) | rfl
def Q12 (Z : State) (p1 : Int32) (aY : Addr) (rY : Addr) (aO : Addr) (rO : Addr) (aD : Addr) (rD : Addr) (aM : Addr) (h0 : Heap) (n0 : Nat) (v : Option Value) (h : Heap) (L : List Loc) : Prop := ∃ b : Addr, v = some (.ref b) ∧ Fr n0 L ∧ Keep h0 h [] ∧ Exa Z h b "java/time/LocalDate" ∧ Fld Z h b "java/time/LocalDate" "year" "I" (.int p1) ∧ Fld Z h b "java/time/LocalDate" "month" "S" (.int (own_mo (own_days p1))) ∧ Fld Z h b "java/time/LocalDate" "day" "S" (.int (own_da (own_days p1)))
set_option maxRecDepth 65536 in
set_option maxHeartbeats 40000000 in
theorem rm12 (l : Launch) (Z : State) (a0 : Array Value) (hw : ∀ d ∈ tables_1, d.before a0 Z = true) (ws : List Jvm.Cond) (p1 : Int32) (aY : Addr) (rY : Addr) (aO : Addr) (rO : Addr) (aD : Addr) (rD : Addr) (aM : Addr) (h0 : Heap) (n0 : Nat) (Z0 : n0 ≤ h0.size) (O0 : Old Z n0 h0) (SY : Sta Z Z.heap "java/time/temporal/ChronoField" "YEAR" "Ljava/time/temporal/ChronoField;" (.ref aY)) (EY : Exa Z Z.heap aY "java/time/temporal/ChronoField") (RY : Fld Z Z.heap aY "java/time/temporal/ChronoField" "range" "Ljava/time/temporal/ValueRange;" (.ref rY)) (GY : Exa Z Z.heap rY "java/time/temporal/ValueRange") (MY : Fld Z Z.heap rY "java/time/temporal/ValueRange" "minSmallest" "J" (.long (-999999999 : Int64))) (XY : Fld Z Z.heap rY "java/time/temporal/ValueRange" "maxLargest" "J" (.long (999999999 : Int64))) (SO : Sta Z Z.heap "java/time/temporal/ChronoField" "MONTH_OF_YEAR" "Ljava/time/temporal/ChronoField;" (.ref aO)) (EO : Exa Z Z.heap aO "java/time/temporal/ChronoField") (RO : Fld Z Z.heap aO "java/time/temporal/ChronoField" "range" "Ljava/time/temporal/ValueRange;" (.ref rO)) (GO : Exa Z Z.heap rO "java/time/temporal/ValueRange") (MO : Fld Z Z.heap rO "java/time/temporal/ValueRange" "minSmallest" "J" (.long (1 : Int64))) (XO : Fld Z Z.heap rO "java/time/temporal/ValueRange" "maxLargest" "J" (.long (12 : Int64))) (SD : Sta Z Z.heap "java/time/temporal/ChronoField" "DAY_OF_MONTH" "Ljava/time/temporal/ChronoField;" (.ref aD)) (ED : Exa Z Z.heap aD "java/time/temporal/ChronoField") (RD : Fld Z Z.heap aD "java/time/temporal/ChronoField" "range" "Ljava/time/temporal/ValueRange;" (.ref rD)) (GD : Exa Z Z.heap rD "java/time/temporal/ValueRange") (MD : Fld Z Z.heap rD "java/time/temporal/ValueRange" "minSmallest" "J" (.long (1 : Int64))) (XD : Fld Z Z.heap rD "java/time/temporal/ValueRange" "maxLargest" "J" (.long (31 : Int64))) (EM : Exa Z Z.heap aM "java/time/Month") (FM : Fld Z Z.heap aM "java/lang/Enum" "ordinal" "I" (.int (2 : Int32))) (SM : Sta Z Z.heap "java/time/Month" "MARCH" "Ljava/time/Month;" (.ref aM)) (y1 : 0 ≤ p1.toInt) (y2 : p1.toInt < 1000000000) :
    MetFree l (⟨"com/example/hinta/hinta/Holiday", "easterSunday", "(I)Ljava/time/LocalDate;"⟩ : MethodName) (head1 (Jvm.Cond.code (⟨"com/example/hinta/hinta/Holiday", "easterSunday", "(I)Ljava/time/LocalDate;"⟩ : MethodName) prog_9_method_7_code 9 (some (.object "java/time/LocalDate")) :: ws) ({ frames := 5, cells := 4, slots := 30, locals := 71 } : Room)) (fun a U => a = #[(.int p1)] ∧ Z.Warmed39 U.vm ∧ U.heap = h0) (fun _ _ _ _ _ => True) (fun _ U o U' => ∃ v L, o = .returned v ∧ Q12 Z p1 aY rY aO rO aD rD aM h0 n0 v U'.heap L ∧ ReturnedEndW U o U' L ({ frames := 5, cells := 4, slots := 30, locals := 71 } : Room).cells ({ frames := 5, cells := 4, slots := 30, locals := 71 } : Room).slots) := by
  refine MetFree.of_bodySF (plainFor_of_name pn_16) hisR ?_
  intro p e s m args below meth c s₁ Bd hml0 hP hK
  obtain ⟨rfl, hZ, hh⟩ := hP
  have hx := Bd.exec
  have hby := Bd.bytes
  have hml : c.maxLocals = 9 := hml0
  have hown : s.vm.findClass "com/example/hinta/hinta/Holiday" = some m.cls := findClass_of_methodNamed Bd.named
  have hnm := (name_of_methodNamed Bd.named Bd.method).1
  have hlocks : meth.locks = false := BodyLoose.notSynchronized Bd
  have X0 : Stand p l e ({ frames := 5, cells := 4, slots := 30, locals := 71 } : Room) s m #[(.int p1)] below meth c s₁ [] 0 0 := Stand.of_body Bd
  have e0 : s₁.heap = h0 := by rw [← hh, Bd.state]; rfl
  have N0 := Fr.nil n0
  show Goes p e below (s₁.setTop (entryFrame m #[(.int p1)] 9)) (FinW s (Q12 Z p1 aY rY aO rO aD rD aM h0 n0) ({ frames := 5, cells := 4, slots := 30, locals := 71 } : Room).cells ({ frames := 5, cells := 4, slots := 30, locals := 71 } : Room).slots)
  refine Goes.of (fun t k => castTop (ef_12 m p1) k) ?_
  have X0 : Stand p l e ({ frames := 5, cells := 4, slots := 30, locals := 71 } : Room) (s.setVm s.vm) m #[(.int p1)] below meth c s₁ [] 0 0 := X0
  have hS0 : s.Since s.vm 0 := (State.WarmedH.refl s).since 0
  have kS0 : 0 ≤ h0.size := Nat.zero_le _
  have hZ : Z.Warmed39 (s.setVm s.vm).vm := hZ
  have hown : (s.setVm s.vm).vm.findClass "com/example/hinta/hinta/Holiday" = some m.cls := hown
  have K0 : Keep h0 h0 [] := Keep.refl _ _
  show Goes p e below (s₁.setTop (mkF m 0 #[.val (.int p1), .unset, .unset, .unset, .unset, .unset, .unset, .unset, .unset] [])) _
  refine Goes.of (fun t k => XS.iloadN X0.here hx rfl (hb hby d12_0) rfl k) ?_
  show Goes p e below (s₁.setTop (mkF m 1 #[.val (.int p1), .unset, .unset, .unset, .unset, .unset, .unset, .unset, .unset] [(.int p1)])) _
  refine Goes.of (fun t k => XS.bipush X0.here hx rfl (hb hby d12_1) k) ?_
  show Goes p e below (s₁.setTop (mkF m 3 #[.val (.int p1), .unset, .unset, .unset, .unset, .unset, .unset, .unset, .unset] [(.int (19 : Int32)), (.int p1)])) _
  refine Goes.of (fun t k => XS.irem X0.here hx rfl (hb hby d12_3) rfl (by decide) k) ?_
  show Goes p e below (s₁.setTop (mkF m 4 #[.val (.int p1), .unset, .unset, .unset, .unset, .unset, .unset, .unset, .unset] [(.int (p1 - p1 / (19 : Int32) * (19 : Int32)))])) _
  refine Goes.of (fun t k => XS.istoreN X0.here hx rfl (hb hby d12_4) rfl (l' := #[.val (.int p1), .val (.int (p1 - p1 / (19 : Int32) * (19 : Int32))), .unset, .unset, .unset, .unset, .unset, .unset, .unset]) rfl k) ?_
  show Goes p e below (s₁.setTop (mkF m 5 #[.val (.int p1), .val (.int (p1 - p1 / (19 : Int32) * (19 : Int32))), .unset, .unset, .unset, .unset, .unset, .unset, .unset] [])) _
  show Goes p e below (s₁.setTop (mkF m 5 #[.val (.int p1), .val (.int (own_cy p1)), .unset, .unset, .unset, .unset, .unset, .unset, .unset] [])) _
  refine Goes.of (fun t k => XS.iloadN X0.here hx rfl (hb hby d12_5) rfl k) ?_
  show Goes p e below (s₁.setTop (mkF m 6 #[.val (.int p1), .val (.int (own_cy p1)), .unset, .unset, .unset, .unset, .unset, .unset, .unset] [(.int p1)])) _
  refine Goes.of (fun t k => XS.bipush X0.here hx rfl (hb hby d12_6) k) ?_
  show Goes p e below (s₁.setTop (mkF m 8 #[.val (.int p1), .val (.int (own_cy p1)), .unset, .unset, .unset, .unset, .unset, .unset, .unset] [(.int (100 : Int32)), (.int p1)])) _
  refine Goes.of (fun t k => XS.idiv X0.here hx rfl (hb hby d12_8) rfl (by decide) k) ?_
  show Goes p e below (s₁.setTop (mkF m 9 #[.val (.int p1), .val (.int (own_cy p1)), .unset, .unset, .unset, .unset, .unset, .unset, .unset] [(.int (p1 / (100 : Int32)))])) _
  refine Goes.of (fun t k => XS.istoreN X0.here hx rfl (hb hby d12_9) rfl (l' := #[.val (.int p1), .val (.int (own_cy p1)), .val (.int (p1 / (100 : Int32))), .unset, .unset, .unset, .unset, .unset, .unset]) rfl k) ?_
  show Goes p e below (s₁.setTop (mkF m 10 #[.val (.int p1), .val (.int (own_cy p1)), .val (.int (p1 / (100 : Int32))), .unset, .unset, .unset, .unset, .unset, .unset] [])) _
  show Goes p e below (s₁.setTop (mkF m 10 #[.val (.int p1), .val (.int (own_cy p1)), .val (.int (own_ce p1)), .unset, .unset, .unset, .unset, .unset, .unset] [])) _
  refine Goes.of (fun t k => XS.iloadN X0.here hx rfl (hb hby d12_10) rfl k) ?_
  show Goes p e below (s₁.setTop (mkF m 11 #[.val (.int p1), .val (.int (own_cy p1)), .val (.int (own_ce p1)), .unset, .unset, .unset, .unset, .unset, .unset] [(.int p1)])) _
  refine Goes.of (fun t k => XS.bipush X0.here hx rfl (hb hby d12_11) k) ?_
  show Goes p e below (s₁.setTop (mkF m 13 #[.val (.int p1), .val (.int (own_cy p1)), .val (.int (own_ce p1)), .unset, .unset, .unset, .unset, .unset, .unset] [(.int (100 : Int32)), (.int p1)])) _
  refine Goes.of (fun t k => XS.irem X0.here hx rfl (hb hby d12_13) rfl (by decide) k) ?_
  show Goes p e below (s₁.setTop (mkF m 14 #[.val (.int p1), .val (.int (own_cy p1)), .val (.int (own_ce p1)), .unset, .unset, .unset, .unset, .unset, .unset] [(.int (p1 - p1 / (100 : Int32) * (100 : Int32)))])) _
  refine Goes.of (fun t k => XS.istoreN X0.here hx rfl (hb hby d12_14) rfl (l' := #[.val (.int p1), .val (.int (own_cy p1)), .val (.int (own_ce p1)), .val (.int (p1 - p1 / (100 : Int32) * (100 : Int32))), .unset, .unset, .unset, .unset, .unset]) rfl k) ?_
  show Goes p e below (s₁.setTop (mkF m 15 #[.val (.int p1), .val (.int (own_cy p1)), .val (.int (own_ce p1)), .val (.int (p1 - p1 / (100 : Int32) * (100 : Int32))), .unset, .unset, .unset, .unset, .unset] [])) _
  show Goes p e below (s₁.setTop (mkF m 15 #[.val (.int p1), .val (.int (own_cy p1)), .val (.int (own_ce p1)), .val (.int (own_yc p1)), .unset, .unset, .unset, .unset, .unset] [])) _
  refine Goes.of (fun t k => XS.iloadN X0.here hx rfl (hb hby d12_15) rfl k) ?_
  show Goes p e below (s₁.setTop (mkF m 16 #[.val (.int p1), .val (.int (own_cy p1)), .val (.int (own_ce p1)), .val (.int (own_yc p1)), .unset, .unset, .unset, .unset, .unset] [(.int (own_ce p1))])) _
  refine Goes.of (fun t k => XS.iloadN X0.here hx rfl (hb hby d12_16) rfl k) ?_
  show Goes p e below (s₁.setTop (mkF m 17 #[.val (.int p1), .val (.int (own_cy p1)), .val (.int (own_ce p1)), .val (.int (own_yc p1)), .unset, .unset, .unset, .unset, .unset] [(.int (own_ce p1)), (.int (own_ce p1))])) _
  refine Goes.of (fun t k => XS.iconst X0.here hx rfl (hb hby d12_17) k) ?_
  show Goes p e below (s₁.setTop (mkF m 18 #[.val (.int p1), .val (.int (own_cy p1)), .val (.int (own_ce p1)), .val (.int (own_yc p1)), .unset, .unset, .unset, .unset, .unset] [(.int (4 : Int32)), (.int (own_ce p1)), (.int (own_ce p1))])) _
  refine Goes.of (fun t k => XS.idiv X0.here hx rfl (hb hby d12_18) rfl (by decide) k) ?_
  show Goes p e below (s₁.setTop (mkF m 19 #[.val (.int p1), .val (.int (own_cy p1)), .val (.int (own_ce p1)), .val (.int (own_yc p1)), .unset, .unset, .unset, .unset, .unset] [(.int ((own_ce p1) / (4 : Int32))), (.int (own_ce p1))])) _
  refine Goes.of (fun t k => XS.isub X0.here hx rfl (hb hby d12_19) rfl k) ?_
  show Goes p e below (s₁.setTop (mkF m 20 #[.val (.int p1), .val (.int (own_cy p1)), .val (.int (own_ce p1)), .val (.int (own_yc p1)), .unset, .unset, .unset, .unset, .unset] [(.int ((own_ce p1) - ((own_ce p1) / (4 : Int32))))])) _
  refine Goes.of (fun t k => XS.istore X0.here hx rfl (hb hby d12_20) rfl (l' := #[.val (.int p1), .val (.int (own_cy p1)), .val (.int (own_ce p1)), .val (.int (own_yc p1)), .val (.int ((own_ce p1) - ((own_ce p1) / (4 : Int32)))), .unset, .unset, .unset, .unset]) rfl k) ?_
  show Goes p e below (s₁.setTop (mkF m 22 #[.val (.int p1), .val (.int (own_cy p1)), .val (.int (own_ce p1)), .val (.int (own_yc p1)), .val (.int ((own_ce p1) - ((own_ce p1) / (4 : Int32)))), .unset, .unset, .unset, .unset] [])) _
  show Goes p e below (s₁.setTop (mkF m 22 #[.val (.int p1), .val (.int (own_cy p1)), .val (.int (own_ce p1)), .val (.int (own_yc p1)), .val (.int (own_wl p1)), .unset, .unset, .unset, .unset] [])) _
  refine Goes.of (fun t k => XS.iloadN X0.here hx rfl (hb hby d12_22) rfl k) ?_
  show Goes p e below (s₁.setTop (mkF m 23 #[.val (.int p1), .val (.int (own_cy p1)), .val (.int (own_ce p1)), .val (.int (own_yc p1)), .val (.int (own_wl p1)), .unset, .unset, .unset, .unset] [(.int (own_ce p1))])) _
  refine Goes.of (fun t k => XS.iloadN X0.here hx rfl (hb hby d12_23) rfl k) ?_
  show Goes p e below (s₁.setTop (mkF m 24 #[.val (.int p1), .val (.int (own_cy p1)), .val (.int (own_ce p1)), .val (.int (own_yc p1)), .val (.int (own_wl p1)), .unset, .unset, .unset, .unset] [(.int (own_ce p1)), (.int (own_ce p1))])) _
  refine Goes.of (fun t k => XS.bipush X0.here hx rfl (hb hby d12_24) k) ?_
  show Goes p e below (s₁.setTop (mkF m 26 #[.val (.int p1), .val (.int (own_cy p1)), .val (.int (own_ce p1)), .val (.int (own_yc p1)), .val (.int (own_wl p1)), .unset, .unset, .unset, .unset] [(.int (8 : Int32)), (.int (own_ce p1)), (.int (own_ce p1))])) _
  refine Goes.of (fun t k => XS.iadd X0.here hx rfl (hb hby d12_26) rfl k) ?_
  show Goes p e below (s₁.setTop (mkF m 27 #[.val (.int p1), .val (.int (own_cy p1)), .val (.int (own_ce p1)), .val (.int (own_yc p1)), .val (.int (own_wl p1)), .unset, .unset, .unset, .unset] [(.int ((own_ce p1) + (8 : Int32))), (.int (own_ce p1))])) _
  refine Goes.of (fun t k => XS.bipush X0.here hx rfl (hb hby d12_27) k) ?_
  show Goes p e below (s₁.setTop (mkF m 29 #[.val (.int p1), .val (.int (own_cy p1)), .val (.int (own_ce p1)), .val (.int (own_yc p1)), .val (.int (own_wl p1)), .unset, .unset, .unset, .unset] [(.int (25 : Int32)), (.int ((own_ce p1) + (8 : Int32))), (.int (own_ce p1))])) _
  refine Goes.of (fun t k => XS.idiv X0.here hx rfl (hb hby d12_29) rfl (by decide) k) ?_
  show Goes p e below (s₁.setTop (mkF m 30 #[.val (.int p1), .val (.int (own_cy p1)), .val (.int (own_ce p1)), .val (.int (own_yc p1)), .val (.int (own_wl p1)), .unset, .unset, .unset, .unset] [(.int (((own_ce p1) + (8 : Int32)) / (25 : Int32))), (.int (own_ce p1))])) _
  refine Goes.of (fun t k => XS.isub X0.here hx rfl (hb hby d12_30) rfl k) ?_
  show Goes p e below (s₁.setTop (mkF m 31 #[.val (.int p1), .val (.int (own_cy p1)), .val (.int (own_ce p1)), .val (.int (own_yc p1)), .val (.int (own_wl p1)), .unset, .unset, .unset, .unset] [(.int ((own_ce p1) - (((own_ce p1) + (8 : Int32)) / (25 : Int32))))])) _
  refine Goes.of (fun t k => XS.iconst X0.here hx rfl (hb hby d12_31) k) ?_
  show Goes p e below (s₁.setTop (mkF m 32 #[.val (.int p1), .val (.int (own_cy p1)), .val (.int (own_ce p1)), .val (.int (own_yc p1)), .val (.int (own_wl p1)), .unset, .unset, .unset, .unset] [(.int (1 : Int32)), (.int ((own_ce p1) - (((own_ce p1) + (8 : Int32)) / (25 : Int32))))])) _
  refine Goes.of (fun t k => XS.iadd X0.here hx rfl (hb hby d12_32) rfl k) ?_
  show Goes p e below (s₁.setTop (mkF m 33 #[.val (.int p1), .val (.int (own_cy p1)), .val (.int (own_ce p1)), .val (.int (own_yc p1)), .val (.int (own_wl p1)), .unset, .unset, .unset, .unset] [(.int (((own_ce p1) - (((own_ce p1) + (8 : Int32)) / (25 : Int32))) + (1 : Int32)))])) _
  refine Goes.of (fun t k => XS.iconst X0.here hx rfl (hb hby d12_33) k) ?_
  show Goes p e below (s₁.setTop (mkF m 34 #[.val (.int p1), .val (.int (own_cy p1)), .val (.int (own_ce p1)), .val (.int (own_yc p1)), .val (.int (own_wl p1)), .unset, .unset, .unset, .unset] [(.int (3 : Int32)), (.int (((own_ce p1) - (((own_ce p1) + (8 : Int32)) / (25 : Int32))) + (1 : Int32)))])) _
  refine Goes.of (fun t k => XS.idiv X0.here hx rfl (hb hby d12_34) rfl (by decide) k) ?_
  show Goes p e below (s₁.setTop (mkF m 35 #[.val (.int p1), .val (.int (own_cy p1)), .val (.int (own_ce p1)), .val (.int (own_yc p1)), .val (.int (own_wl p1)), .unset, .unset, .unset, .unset] [(.int ((((own_ce p1) - (((own_ce p1) + (8 : Int32)) / (25 : Int32))) + (1 : Int32)) / (3 : Int32)))])) _
  refine Goes.of (fun t k => XS.istore X0.here hx rfl (hb hby d12_35) rfl (l' := #[.val (.int p1), .val (.int (own_cy p1)), .val (.int (own_ce p1)), .val (.int (own_yc p1)), .val (.int (own_wl p1)), .val (.int ((((own_ce p1) - (((own_ce p1) + (8 : Int32)) / (25 : Int32))) + (1 : Int32)) / (3 : Int32))), .unset, .unset, .unset]) rfl k) ?_
  show Goes p e below (s₁.setTop (mkF m 37 #[.val (.int p1), .val (.int (own_cy p1)), .val (.int (own_ce p1)), .val (.int (own_yc p1)), .val (.int (own_wl p1)), .val (.int ((((own_ce p1) - (((own_ce p1) + (8 : Int32)) / (25 : Int32))) + (1 : Int32)) / (3 : Int32))), .unset, .unset, .unset] [])) _
  show Goes p e below (s₁.setTop (mkF m 37 #[.val (.int p1), .val (.int (own_cy p1)), .val (.int (own_ce p1)), .val (.int (own_yc p1)), .val (.int (own_wl p1)), .val (.int (own_dr p1)), .unset, .unset, .unset] [])) _
  refine Goes.of (fun t k => XS.bipush X0.here hx rfl (hb hby d12_37) k) ?_
  show Goes p e below (s₁.setTop (mkF m 39 #[.val (.int p1), .val (.int (own_cy p1)), .val (.int (own_ce p1)), .val (.int (own_yc p1)), .val (.int (own_wl p1)), .val (.int (own_dr p1)), .unset, .unset, .unset] [(.int (19 : Int32))])) _
  refine Goes.of (fun t k => XS.iloadN X0.here hx rfl (hb hby d12_39) rfl k) ?_
  show Goes p e below (s₁.setTop (mkF m 40 #[.val (.int p1), .val (.int (own_cy p1)), .val (.int (own_ce p1)), .val (.int (own_yc p1)), .val (.int (own_wl p1)), .val (.int (own_dr p1)), .unset, .unset, .unset] [(.int (own_cy p1)), (.int (19 : Int32))])) _
  refine Goes.of (fun t k => XS.imul X0.here hx rfl (hb hby d12_40) rfl k) ?_
  show Goes p e below (s₁.setTop (mkF m 41 #[.val (.int p1), .val (.int (own_cy p1)), .val (.int (own_ce p1)), .val (.int (own_yc p1)), .val (.int (own_wl p1)), .val (.int (own_dr p1)), .unset, .unset, .unset] [(.int ((19 : Int32) * (own_cy p1)))])) _
  refine Goes.of (fun t k => XS.iload X0.here hx rfl (hb hby d12_41) rfl k) ?_
  show Goes p e below (s₁.setTop (mkF m 43 #[.val (.int p1), .val (.int (own_cy p1)), .val (.int (own_ce p1)), .val (.int (own_yc p1)), .val (.int (own_wl p1)), .val (.int (own_dr p1)), .unset, .unset, .unset] [(.int (own_wl p1)), (.int ((19 : Int32) * (own_cy p1)))])) _
  refine Goes.of (fun t k => XS.iadd X0.here hx rfl (hb hby d12_43) rfl k) ?_
  show Goes p e below (s₁.setTop (mkF m 44 #[.val (.int p1), .val (.int (own_cy p1)), .val (.int (own_ce p1)), .val (.int (own_yc p1)), .val (.int (own_wl p1)), .val (.int (own_dr p1)), .unset, .unset, .unset] [(.int (((19 : Int32) * (own_cy p1)) + (own_wl p1)))])) _
  refine Goes.of (fun t k => XS.iload X0.here hx rfl (hb hby d12_44) rfl k) ?_
  show Goes p e below (s₁.setTop (mkF m 46 #[.val (.int p1), .val (.int (own_cy p1)), .val (.int (own_ce p1)), .val (.int (own_yc p1)), .val (.int (own_wl p1)), .val (.int (own_dr p1)), .unset, .unset, .unset] [(.int (own_dr p1)), (.int (((19 : Int32) * (own_cy p1)) + (own_wl p1)))])) _
  refine Goes.of (fun t k => XS.isub X0.here hx rfl (hb hby d12_46) rfl k) ?_
  show Goes p e below (s₁.setTop (mkF m 47 #[.val (.int p1), .val (.int (own_cy p1)), .val (.int (own_ce p1)), .val (.int (own_yc p1)), .val (.int (own_wl p1)), .val (.int (own_dr p1)), .unset, .unset, .unset] [(.int ((((19 : Int32) * (own_cy p1)) + (own_wl p1)) - (own_dr p1)))])) _
  refine Goes.of (fun t k => XS.bipush X0.here hx rfl (hb hby d12_47) k) ?_
  show Goes p e below (s₁.setTop (mkF m 49 #[.val (.int p1), .val (.int (own_cy p1)), .val (.int (own_ce p1)), .val (.int (own_yc p1)), .val (.int (own_wl p1)), .val (.int (own_dr p1)), .unset, .unset, .unset] [(.int (15 : Int32)), (.int ((((19 : Int32) * (own_cy p1)) + (own_wl p1)) - (own_dr p1)))])) _
  refine Goes.of (fun t k => XS.iadd X0.here hx rfl (hb hby d12_49) rfl k) ?_
  show Goes p e below (s₁.setTop (mkF m 50 #[.val (.int p1), .val (.int (own_cy p1)), .val (.int (own_ce p1)), .val (.int (own_yc p1)), .val (.int (own_wl p1)), .val (.int (own_dr p1)), .unset, .unset, .unset] [(.int (((((19 : Int32) * (own_cy p1)) + (own_wl p1)) - (own_dr p1)) + (15 : Int32)))])) _
  refine Goes.of (fun t k => XS.bipush X0.here hx rfl (hb hby d12_50) k) ?_
  show Goes p e below (s₁.setTop (mkF m 52 #[.val (.int p1), .val (.int (own_cy p1)), .val (.int (own_ce p1)), .val (.int (own_yc p1)), .val (.int (own_wl p1)), .val (.int (own_dr p1)), .unset, .unset, .unset] [(.int (30 : Int32)), (.int (((((19 : Int32) * (own_cy p1)) + (own_wl p1)) - (own_dr p1)) + (15 : Int32)))])) _
  refine Goes.of (fun t k => XS.irem X0.here hx rfl (hb hby d12_52) rfl (by decide) k) ?_
  show Goes p e below (s₁.setTop (mkF m 53 #[.val (.int p1), .val (.int (own_cy p1)), .val (.int (own_ce p1)), .val (.int (own_yc p1)), .val (.int (own_wl p1)), .val (.int (own_dr p1)), .unset, .unset, .unset] [(.int ((((((19 : Int32) * (own_cy p1)) + (own_wl p1)) - (own_dr p1)) + (15 : Int32)) - (((((19 : Int32) * (own_cy p1)) + (own_wl p1)) - (own_dr p1)) + (15 : Int32)) / (30 : Int32) * (30 : Int32)))])) _
  refine Goes.of (fun t k => XS.istore X0.here hx rfl (hb hby d12_53) rfl (l' := #[.val (.int p1), .val (.int (own_cy p1)), .val (.int (own_ce p1)), .val (.int (own_yc p1)), .val (.int (own_wl p1)), .val (.int (own_dr p1)), .val (.int ((((((19 : Int32) * (own_cy p1)) + (own_wl p1)) - (own_dr p1)) + (15 : Int32)) - (((((19 : Int32) * (own_cy p1)) + (own_wl p1)) - (own_dr p1)) + (15 : Int32)) / (30 : Int32) * (30 : Int32))), .unset, .unset]) rfl k) ?_
  show Goes p e below (s₁.setTop (mkF m 55 #[.val (.int p1), .val (.int (own_cy p1)), .val (.int (own_ce p1)), .val (.int (own_yc p1)), .val (.int (own_wl p1)), .val (.int (own_dr p1)), .val (.int ((((((19 : Int32) * (own_cy p1)) + (own_wl p1)) - (own_dr p1)) + (15 : Int32)) - (((((19 : Int32) * (own_cy p1)) + (own_wl p1)) - (own_dr p1)) + (15 : Int32)) / (30 : Int32) * (30 : Int32))), .unset, .unset] [])) _
  show Goes p e below (s₁.setTop (mkF m 55 #[.val (.int p1), .val (.int (own_cy p1)), .val (.int (own_ce p1)), .val (.int (own_yc p1)), .val (.int (own_wl p1)), .val (.int (own_dr p1)), .val (.int (own_fm p1)), .unset, .unset] [])) _
  refine Goes.of (fun t k => XS.bipush X0.here hx rfl (hb hby d12_55) k) ?_
  show Goes p e below (s₁.setTop (mkF m 57 #[.val (.int p1), .val (.int (own_cy p1)), .val (.int (own_ce p1)), .val (.int (own_yc p1)), .val (.int (own_wl p1)), .val (.int (own_dr p1)), .val (.int (own_fm p1)), .unset, .unset] [(.int (32 : Int32))])) _
  refine Goes.of (fun t k => XS.iconst X0.here hx rfl (hb hby d12_57) k) ?_
  show Goes p e below (s₁.setTop (mkF m 58 #[.val (.int p1), .val (.int (own_cy p1)), .val (.int (own_ce p1)), .val (.int (own_yc p1)), .val (.int (own_wl p1)), .val (.int (own_dr p1)), .val (.int (own_fm p1)), .unset, .unset] [(.int (2 : Int32)), (.int (32 : Int32))])) _
  refine Goes.of (fun t k => XS.iloadN X0.here hx rfl (hb hby d12_58) rfl k) ?_
  show Goes p e below (s₁.setTop (mkF m 59 #[.val (.int p1), .val (.int (own_cy p1)), .val (.int (own_ce p1)), .val (.int (own_yc p1)), .val (.int (own_wl p1)), .val (.int (own_dr p1)), .val (.int (own_fm p1)), .unset, .unset] [(.int (own_ce p1)), (.int (2 : Int32)), (.int (32 : Int32))])) _
  refine Goes.of (fun t k => XS.iconst X0.here hx rfl (hb hby d12_59) k) ?_
  show Goes p e below (s₁.setTop (mkF m 60 #[.val (.int p1), .val (.int (own_cy p1)), .val (.int (own_ce p1)), .val (.int (own_yc p1)), .val (.int (own_wl p1)), .val (.int (own_dr p1)), .val (.int (own_fm p1)), .unset, .unset] [(.int (4 : Int32)), (.int (own_ce p1)), (.int (2 : Int32)), (.int (32 : Int32))])) _
  refine Goes.of (fun t k => XS.irem X0.here hx rfl (hb hby d12_60) rfl (by decide) k) ?_
  show Goes p e below (s₁.setTop (mkF m 61 #[.val (.int p1), .val (.int (own_cy p1)), .val (.int (own_ce p1)), .val (.int (own_yc p1)), .val (.int (own_wl p1)), .val (.int (own_dr p1)), .val (.int (own_fm p1)), .unset, .unset] [(.int ((own_ce p1) - (own_ce p1) / (4 : Int32) * (4 : Int32))), (.int (2 : Int32)), (.int (32 : Int32))])) _
  refine Goes.of (fun t k => XS.imul X0.here hx rfl (hb hby d12_61) rfl k) ?_
  show Goes p e below (s₁.setTop (mkF m 62 #[.val (.int p1), .val (.int (own_cy p1)), .val (.int (own_ce p1)), .val (.int (own_yc p1)), .val (.int (own_wl p1)), .val (.int (own_dr p1)), .val (.int (own_fm p1)), .unset, .unset] [(.int ((2 : Int32) * ((own_ce p1) - (own_ce p1) / (4 : Int32) * (4 : Int32)))), (.int (32 : Int32))])) _
  refine Goes.of (fun t k => XS.iadd X0.here hx rfl (hb hby d12_62) rfl k) ?_
  show Goes p e below (s₁.setTop (mkF m 63 #[.val (.int p1), .val (.int (own_cy p1)), .val (.int (own_ce p1)), .val (.int (own_yc p1)), .val (.int (own_wl p1)), .val (.int (own_dr p1)), .val (.int (own_fm p1)), .unset, .unset] [(.int ((32 : Int32) + ((2 : Int32) * ((own_ce p1) - (own_ce p1) / (4 : Int32) * (4 : Int32)))))])) _
  refine Goes.of (fun t k => XS.iconst X0.here hx rfl (hb hby d12_63) k) ?_
  show Goes p e below (s₁.setTop (mkF m 64 #[.val (.int p1), .val (.int (own_cy p1)), .val (.int (own_ce p1)), .val (.int (own_yc p1)), .val (.int (own_wl p1)), .val (.int (own_dr p1)), .val (.int (own_fm p1)), .unset, .unset] [(.int (2 : Int32)), (.int ((32 : Int32) + ((2 : Int32) * ((own_ce p1) - (own_ce p1) / (4 : Int32) * (4 : Int32)))))])) _
  refine Goes.of (fun t k => XS.iloadN X0.here hx rfl (hb hby d12_64) rfl k) ?_
  show Goes p e below (s₁.setTop (mkF m 65 #[.val (.int p1), .val (.int (own_cy p1)), .val (.int (own_ce p1)), .val (.int (own_yc p1)), .val (.int (own_wl p1)), .val (.int (own_dr p1)), .val (.int (own_fm p1)), .unset, .unset] [(.int (own_yc p1)), (.int (2 : Int32)), (.int ((32 : Int32) + ((2 : Int32) * ((own_ce p1) - (own_ce p1) / (4 : Int32) * (4 : Int32)))))])) _
  refine Goes.of (fun t k => XS.iconst X0.here hx rfl (hb hby d12_65) k) ?_
  show Goes p e below (s₁.setTop (mkF m 66 #[.val (.int p1), .val (.int (own_cy p1)), .val (.int (own_ce p1)), .val (.int (own_yc p1)), .val (.int (own_wl p1)), .val (.int (own_dr p1)), .val (.int (own_fm p1)), .unset, .unset] [(.int (4 : Int32)), (.int (own_yc p1)), (.int (2 : Int32)), (.int ((32 : Int32) + ((2 : Int32) * ((own_ce p1) - (own_ce p1) / (4 : Int32) * (4 : Int32)))))])) _
  refine Goes.of (fun t k => XS.idiv X0.here hx rfl (hb hby d12_66) rfl (by decide) k) ?_
  show Goes p e below (s₁.setTop (mkF m 67 #[.val (.int p1), .val (.int (own_cy p1)), .val (.int (own_ce p1)), .val (.int (own_yc p1)), .val (.int (own_wl p1)), .val (.int (own_dr p1)), .val (.int (own_fm p1)), .unset, .unset] [(.int ((own_yc p1) / (4 : Int32))), (.int (2 : Int32)), (.int ((32 : Int32) + ((2 : Int32) * ((own_ce p1) - (own_ce p1) / (4 : Int32) * (4 : Int32)))))])) _
  refine Goes.of (fun t k => XS.imul X0.here hx rfl (hb hby d12_67) rfl k) ?_
  show Goes p e below (s₁.setTop (mkF m 68 #[.val (.int p1), .val (.int (own_cy p1)), .val (.int (own_ce p1)), .val (.int (own_yc p1)), .val (.int (own_wl p1)), .val (.int (own_dr p1)), .val (.int (own_fm p1)), .unset, .unset] [(.int ((2 : Int32) * ((own_yc p1) / (4 : Int32)))), (.int ((32 : Int32) + ((2 : Int32) * ((own_ce p1) - (own_ce p1) / (4 : Int32) * (4 : Int32)))))])) _
  refine Goes.of (fun t k => XS.iadd X0.here hx rfl (hb hby d12_68) rfl k) ?_
  show Goes p e below (s₁.setTop (mkF m 69 #[.val (.int p1), .val (.int (own_cy p1)), .val (.int (own_ce p1)), .val (.int (own_yc p1)), .val (.int (own_wl p1)), .val (.int (own_dr p1)), .val (.int (own_fm p1)), .unset, .unset] [(.int (((32 : Int32) + ((2 : Int32) * ((own_ce p1) - (own_ce p1) / (4 : Int32) * (4 : Int32)))) + ((2 : Int32) * ((own_yc p1) / (4 : Int32)))))])) _
  refine Goes.of (fun t k => XS.iload X0.here hx rfl (hb hby d12_69) rfl k) ?_
  show Goes p e below (s₁.setTop (mkF m 71 #[.val (.int p1), .val (.int (own_cy p1)), .val (.int (own_ce p1)), .val (.int (own_yc p1)), .val (.int (own_wl p1)), .val (.int (own_dr p1)), .val (.int (own_fm p1)), .unset, .unset] [(.int (own_fm p1)), (.int (((32 : Int32) + ((2 : Int32) * ((own_ce p1) - (own_ce p1) / (4 : Int32) * (4 : Int32)))) + ((2 : Int32) * ((own_yc p1) / (4 : Int32)))))])) _
  refine Goes.of (fun t k => XS.isub X0.here hx rfl (hb hby d12_71) rfl k) ?_
  show Goes p e below (s₁.setTop (mkF m 72 #[.val (.int p1), .val (.int (own_cy p1)), .val (.int (own_ce p1)), .val (.int (own_yc p1)), .val (.int (own_wl p1)), .val (.int (own_dr p1)), .val (.int (own_fm p1)), .unset, .unset] [(.int ((((32 : Int32) + ((2 : Int32) * ((own_ce p1) - (own_ce p1) / (4 : Int32) * (4 : Int32)))) + ((2 : Int32) * ((own_yc p1) / (4 : Int32)))) - (own_fm p1)))])) _
  refine Goes.of (fun t k => XS.iloadN X0.here hx rfl (hb hby d12_72) rfl k) ?_
  show Goes p e below (s₁.setTop (mkF m 73 #[.val (.int p1), .val (.int (own_cy p1)), .val (.int (own_ce p1)), .val (.int (own_yc p1)), .val (.int (own_wl p1)), .val (.int (own_dr p1)), .val (.int (own_fm p1)), .unset, .unset] [(.int (own_yc p1)), (.int ((((32 : Int32) + ((2 : Int32) * ((own_ce p1) - (own_ce p1) / (4 : Int32) * (4 : Int32)))) + ((2 : Int32) * ((own_yc p1) / (4 : Int32)))) - (own_fm p1)))])) _
  refine Goes.of (fun t k => XS.iconst X0.here hx rfl (hb hby d12_73) k) ?_
  show Goes p e below (s₁.setTop (mkF m 74 #[.val (.int p1), .val (.int (own_cy p1)), .val (.int (own_ce p1)), .val (.int (own_yc p1)), .val (.int (own_wl p1)), .val (.int (own_dr p1)), .val (.int (own_fm p1)), .unset, .unset] [(.int (4 : Int32)), (.int (own_yc p1)), (.int ((((32 : Int32) + ((2 : Int32) * ((own_ce p1) - (own_ce p1) / (4 : Int32) * (4 : Int32)))) + ((2 : Int32) * ((own_yc p1) / (4 : Int32)))) - (own_fm p1)))])) _
  refine Goes.of (fun t k => XS.irem X0.here hx rfl (hb hby d12_74) rfl (by decide) k) ?_
  show Goes p e below (s₁.setTop (mkF m 75 #[.val (.int p1), .val (.int (own_cy p1)), .val (.int (own_ce p1)), .val (.int (own_yc p1)), .val (.int (own_wl p1)), .val (.int (own_dr p1)), .val (.int (own_fm p1)), .unset, .unset] [(.int ((own_yc p1) - (own_yc p1) / (4 : Int32) * (4 : Int32))), (.int ((((32 : Int32) + ((2 : Int32) * ((own_ce p1) - (own_ce p1) / (4 : Int32) * (4 : Int32)))) + ((2 : Int32) * ((own_yc p1) / (4 : Int32)))) - (own_fm p1)))])) _
  refine Goes.of (fun t k => XS.isub X0.here hx rfl (hb hby d12_75) rfl k) ?_
  show Goes p e below (s₁.setTop (mkF m 76 #[.val (.int p1), .val (.int (own_cy p1)), .val (.int (own_ce p1)), .val (.int (own_yc p1)), .val (.int (own_wl p1)), .val (.int (own_dr p1)), .val (.int (own_fm p1)), .unset, .unset] [(.int (((((32 : Int32) + ((2 : Int32) * ((own_ce p1) - (own_ce p1) / (4 : Int32) * (4 : Int32)))) + ((2 : Int32) * ((own_yc p1) / (4 : Int32)))) - (own_fm p1)) - ((own_yc p1) - (own_yc p1) / (4 : Int32) * (4 : Int32))))])) _
  refine Goes.of (fun t k => XS.bipush X0.here hx rfl (hb hby d12_76) k) ?_
  show Goes p e below (s₁.setTop (mkF m 78 #[.val (.int p1), .val (.int (own_cy p1)), .val (.int (own_ce p1)), .val (.int (own_yc p1)), .val (.int (own_wl p1)), .val (.int (own_dr p1)), .val (.int (own_fm p1)), .unset, .unset] [(.int (7 : Int32)), (.int (((((32 : Int32) + ((2 : Int32) * ((own_ce p1) - (own_ce p1) / (4 : Int32) * (4 : Int32)))) + ((2 : Int32) * ((own_yc p1) / (4 : Int32)))) - (own_fm p1)) - ((own_yc p1) - (own_yc p1) / (4 : Int32) * (4 : Int32))))])) _
  refine Goes.of (fun t k => XS.irem X0.here hx rfl (hb hby d12_78) rfl (by decide) k) ?_
  show Goes p e below (s₁.setTop (mkF m 79 #[.val (.int p1), .val (.int (own_cy p1)), .val (.int (own_ce p1)), .val (.int (own_yc p1)), .val (.int (own_wl p1)), .val (.int (own_dr p1)), .val (.int (own_fm p1)), .unset, .unset] [(.int ((((((32 : Int32) + ((2 : Int32) * ((own_ce p1) - (own_ce p1) / (4 : Int32) * (4 : Int32)))) + ((2 : Int32) * ((own_yc p1) / (4 : Int32)))) - (own_fm p1)) - ((own_yc p1) - (own_yc p1) / (4 : Int32) * (4 : Int32))) - (((((32 : Int32) + ((2 : Int32) * ((own_ce p1) - (own_ce p1) / (4 : Int32) * (4 : Int32)))) + ((2 : Int32) * ((own_yc p1) / (4 : Int32)))) - (own_fm p1)) - ((own_yc p1) - (own_yc p1) / (4 : Int32) * (4 : Int32))) / (7 : Int32) * (7 : Int32)))])) _
  refine Goes.of (fun t k => XS.istore X0.here hx rfl (hb hby d12_79) rfl (l' := #[.val (.int p1), .val (.int (own_cy p1)), .val (.int (own_ce p1)), .val (.int (own_yc p1)), .val (.int (own_wl p1)), .val (.int (own_dr p1)), .val (.int (own_fm p1)), .val (.int ((((((32 : Int32) + ((2 : Int32) * ((own_ce p1) - (own_ce p1) / (4 : Int32) * (4 : Int32)))) + ((2 : Int32) * ((own_yc p1) / (4 : Int32)))) - (own_fm p1)) - ((own_yc p1) - (own_yc p1) / (4 : Int32) * (4 : Int32))) - (((((32 : Int32) + ((2 : Int32) * ((own_ce p1) - (own_ce p1) / (4 : Int32) * (4 : Int32)))) + ((2 : Int32) * ((own_yc p1) / (4 : Int32)))) - (own_fm p1)) - ((own_yc p1) - (own_yc p1) / (4 : Int32) * (4 : Int32))) / (7 : Int32) * (7 : Int32))), .unset]) rfl k) ?_
  show Goes p e below (s₁.setTop (mkF m 81 #[.val (.int p1), .val (.int (own_cy p1)), .val (.int (own_ce p1)), .val (.int (own_yc p1)), .val (.int (own_wl p1)), .val (.int (own_dr p1)), .val (.int (own_fm p1)), .val (.int ((((((32 : Int32) + ((2 : Int32) * ((own_ce p1) - (own_ce p1) / (4 : Int32) * (4 : Int32)))) + ((2 : Int32) * ((own_yc p1) / (4 : Int32)))) - (own_fm p1)) - ((own_yc p1) - (own_yc p1) / (4 : Int32) * (4 : Int32))) - (((((32 : Int32) + ((2 : Int32) * ((own_ce p1) - (own_ce p1) / (4 : Int32) * (4 : Int32)))) + ((2 : Int32) * ((own_yc p1) / (4 : Int32)))) - (own_fm p1)) - ((own_yc p1) - (own_yc p1) / (4 : Int32) * (4 : Int32))) / (7 : Int32) * (7 : Int32))), .unset] [])) _
  show Goes p e below (s₁.setTop (mkF m 81 #[.val (.int p1), .val (.int (own_cy p1)), .val (.int (own_ce p1)), .val (.int (own_yc p1)), .val (.int (own_wl p1)), .val (.int (own_dr p1)), .val (.int (own_fm p1)), .val (.int (own_ts p1)), .unset] [])) _
  refine Goes.of (fun t k => XS.iloadN X0.here hx rfl (hb hby d12_81) rfl k) ?_
  show Goes p e below (s₁.setTop (mkF m 82 #[.val (.int p1), .val (.int (own_cy p1)), .val (.int (own_ce p1)), .val (.int (own_yc p1)), .val (.int (own_wl p1)), .val (.int (own_dr p1)), .val (.int (own_fm p1)), .val (.int (own_ts p1)), .unset] [(.int (own_cy p1))])) _
  refine Goes.of (fun t k => XS.bipush X0.here hx rfl (hb hby d12_82) k) ?_
  show Goes p e below (s₁.setTop (mkF m 84 #[.val (.int p1), .val (.int (own_cy p1)), .val (.int (own_ce p1)), .val (.int (own_yc p1)), .val (.int (own_wl p1)), .val (.int (own_dr p1)), .val (.int (own_fm p1)), .val (.int (own_ts p1)), .unset] [(.int (11 : Int32)), (.int (own_cy p1))])) _
  refine Goes.of (fun t k => XS.iload X0.here hx rfl (hb hby d12_84) rfl k) ?_
  show Goes p e below (s₁.setTop (mkF m 86 #[.val (.int p1), .val (.int (own_cy p1)), .val (.int (own_ce p1)), .val (.int (own_yc p1)), .val (.int (own_wl p1)), .val (.int (own_dr p1)), .val (.int (own_fm p1)), .val (.int (own_ts p1)), .unset] [(.int (own_fm p1)), (.int (11 : Int32)), (.int (own_cy p1))])) _
  refine Goes.of (fun t k => XS.imul X0.here hx rfl (hb hby d12_86) rfl k) ?_
  show Goes p e below (s₁.setTop (mkF m 87 #[.val (.int p1), .val (.int (own_cy p1)), .val (.int (own_ce p1)), .val (.int (own_yc p1)), .val (.int (own_wl p1)), .val (.int (own_dr p1)), .val (.int (own_fm p1)), .val (.int (own_ts p1)), .unset] [(.int ((11 : Int32) * (own_fm p1))), (.int (own_cy p1))])) _
  refine Goes.of (fun t k => XS.iadd X0.here hx rfl (hb hby d12_87) rfl k) ?_
  show Goes p e below (s₁.setTop (mkF m 88 #[.val (.int p1), .val (.int (own_cy p1)), .val (.int (own_ce p1)), .val (.int (own_yc p1)), .val (.int (own_wl p1)), .val (.int (own_dr p1)), .val (.int (own_fm p1)), .val (.int (own_ts p1)), .unset] [(.int ((own_cy p1) + ((11 : Int32) * (own_fm p1))))])) _
  refine Goes.of (fun t k => XS.bipush X0.here hx rfl (hb hby d12_88) k) ?_
  show Goes p e below (s₁.setTop (mkF m 90 #[.val (.int p1), .val (.int (own_cy p1)), .val (.int (own_ce p1)), .val (.int (own_yc p1)), .val (.int (own_wl p1)), .val (.int (own_dr p1)), .val (.int (own_fm p1)), .val (.int (own_ts p1)), .unset] [(.int (22 : Int32)), (.int ((own_cy p1) + ((11 : Int32) * (own_fm p1))))])) _
  refine Goes.of (fun t k => XS.iload X0.here hx rfl (hb hby d12_90) rfl k) ?_
  show Goes p e below (s₁.setTop (mkF m 92 #[.val (.int p1), .val (.int (own_cy p1)), .val (.int (own_ce p1)), .val (.int (own_yc p1)), .val (.int (own_wl p1)), .val (.int (own_dr p1)), .val (.int (own_fm p1)), .val (.int (own_ts p1)), .unset] [(.int (own_ts p1)), (.int (22 : Int32)), (.int ((own_cy p1) + ((11 : Int32) * (own_fm p1))))])) _
  refine Goes.of (fun t k => XS.imul X0.here hx rfl (hb hby d12_92) rfl k) ?_
  show Goes p e below (s₁.setTop (mkF m 93 #[.val (.int p1), .val (.int (own_cy p1)), .val (.int (own_ce p1)), .val (.int (own_yc p1)), .val (.int (own_wl p1)), .val (.int (own_dr p1)), .val (.int (own_fm p1)), .val (.int (own_ts p1)), .unset] [(.int ((22 : Int32) * (own_ts p1))), (.int ((own_cy p1) + ((11 : Int32) * (own_fm p1))))])) _
  refine Goes.of (fun t k => XS.iadd X0.here hx rfl (hb hby d12_93) rfl k) ?_
  show Goes p e below (s₁.setTop (mkF m 94 #[.val (.int p1), .val (.int (own_cy p1)), .val (.int (own_ce p1)), .val (.int (own_yc p1)), .val (.int (own_wl p1)), .val (.int (own_dr p1)), .val (.int (own_fm p1)), .val (.int (own_ts p1)), .unset] [(.int (((own_cy p1) + ((11 : Int32) * (own_fm p1))) + ((22 : Int32) * (own_ts p1))))])) _
  refine Goes.of (fun t k => XS.sipush X0.here hx rfl (hb hby d12_94) k) ?_
  show Goes p e below (s₁.setTop (mkF m 97 #[.val (.int p1), .val (.int (own_cy p1)), .val (.int (own_ce p1)), .val (.int (own_yc p1)), .val (.int (own_wl p1)), .val (.int (own_dr p1)), .val (.int (own_fm p1)), .val (.int (own_ts p1)), .unset] [(.int (451 : Int32)), (.int (((own_cy p1) + ((11 : Int32) * (own_fm p1))) + ((22 : Int32) * (own_ts p1))))])) _
  refine Goes.of (fun t k => XS.idiv X0.here hx rfl (hb hby d12_97) rfl (by decide) k) ?_
  show Goes p e below (s₁.setTop (mkF m 98 #[.val (.int p1), .val (.int (own_cy p1)), .val (.int (own_ce p1)), .val (.int (own_yc p1)), .val (.int (own_wl p1)), .val (.int (own_dr p1)), .val (.int (own_fm p1)), .val (.int (own_ts p1)), .unset] [(.int ((((own_cy p1) + ((11 : Int32) * (own_fm p1))) + ((22 : Int32) * (own_ts p1))) / (451 : Int32)))])) _
  refine Goes.of (fun t k => XS.istore X0.here hx rfl (hb hby d12_98) rfl (l' := #[.val (.int p1), .val (.int (own_cy p1)), .val (.int (own_ce p1)), .val (.int (own_yc p1)), .val (.int (own_wl p1)), .val (.int (own_dr p1)), .val (.int (own_fm p1)), .val (.int (own_ts p1)), .val (.int ((((own_cy p1) + ((11 : Int32) * (own_fm p1))) + ((22 : Int32) * (own_ts p1))) / (451 : Int32)))]) rfl k) ?_
  show Goes p e below (s₁.setTop (mkF m 100 #[.val (.int p1), .val (.int (own_cy p1)), .val (.int (own_ce p1)), .val (.int (own_yc p1)), .val (.int (own_wl p1)), .val (.int (own_dr p1)), .val (.int (own_fm p1)), .val (.int (own_ts p1)), .val (.int ((((own_cy p1) + ((11 : Int32) * (own_fm p1))) + ((22 : Int32) * (own_ts p1))) / (451 : Int32)))] [])) _
  show Goes p e below (s₁.setTop (mkF m 100 #[.val (.int p1), .val (.int (own_cy p1)), .val (.int (own_ce p1)), .val (.int (own_yc p1)), .val (.int (own_wl p1)), .val (.int (own_dr p1)), .val (.int (own_fm p1)), .val (.int (own_ts p1)), .val (.int (own_we p1))] [])) _
  refine Goes.of (fun t k => XS.iloadN X0.here hx rfl (hb hby d12_100) rfl k) ?_
  obtain ⟨T244, X244, e244, st244⟩ := getS2 X0 hx hZ hown (host := "") (Or.inl (wd hw 90 rfl)) Via.refl e0 (SM.ext O0.2) (g := (mkF m 101 #[.val (.int p1), .val (.int (own_cy p1)), .val (.int (own_ce p1)), .val (.int (own_yc p1)), .val (.int (own_wl p1)), .val (.int (own_dr p1)), .val (.int (own_fm p1)), .val (.int (own_ts p1)), .val (.int (own_we p1))] [(.int p1)])) rfl (hb hby d12_101)
  refine Goes.of st244 ?_
  show Goes p e below (T244.setTop (mkF m 104 #[.val (.int p1), .val (.int (own_cy p1)), .val (.int (own_ce p1)), .val (.int (own_yc p1)), .val (.int (own_wl p1)), .val (.int (own_dr p1)), .val (.int (own_fm p1)), .val (.int (own_ts p1)), .val (.int (own_we p1))] [(.ref aM), (.int p1)])) _
  refine Goes.of (fun t k => XS.bipush X244.here hx rfl (hb hby d12_104) k) ?_
  obtain ⟨_, _, ⟨T245, L245, k245, n245⟩, -, X245, hS245, kS245, ⟨Lc245, hQ245, l245, y245, z245⟩, st245⟩ := callSS X244 hx (y := (⟨"java/time/LocalDate", "of", "(ILjava/time/Month;I)Ljava/time/LocalDate;"⟩ : MethodName)) hown (mvT hZ (wd hw 92 rfl)) (mvT hZ (wd hw 93 rfl)) (mvT hZ (wd hw 25 rfl)) (mvT hZ (wd hw 94 rfl)) (by decide) (backOfS (W := 0) (rm13 l Z a0 hw [] p1 aM aY rY aO rO aD rD h0 n0 Z0 O0 SY EY RY GY MY XY SO EO RO GO MO XO SD ED RD GD MD XD EM FM y1 y2) hZ (wd hw 94 rfl) (wd hw 25 rfl) (by decide) (by decide)) (g := (mkF m 106 #[.val (.int p1), .val (.int (own_cy p1)), .val (.int (own_ce p1)), .val (.int (own_yc p1)), .val (.int (own_wl p1)), .val (.int (own_dr p1)), .val (.int (own_fm p1)), .val (.int (own_ts p1)), .val (.int (own_we p1))] [(.int (22 : Int32)), (.ref aM), (.int p1)])) rfl (by rw [hml]; rfl) (argsL := [(.int p1), (.ref aM), (.int (22 : Int32))]) (rest := []) (lenOf pd_17 rfl) rfl (by show 2 * 0 + _ ≤ _; exact Nat.le_of_eq rfl) (hb hby d12_106) (fun _ _ => ⟨rfl, e244, (by decide : 0 + 3 ≤ _), (by decide : 0 + 27 ≤ _)⟩)
  dsimp only [Pt.U, Pt.locs, Pt.cells, Pt.slots] at X245 l245 y245 z245 st245 hQ245 hS245 kS245
  subst l245 y245 z245
  obtain ⟨X245, hS245, hZ, hown⟩ := rebS hS0 (by rw [e244]; exact kS0) X245 hS245 kS245 hZ hown
  obtain ⟨b245, rfl, N245q, K245, z245b, E245, F245_year, F245_month, F245_day⟩ := hQ245
  have N245 := Fr.app N0 N245q
  have q246 : aY ≠ b245 := Nat.ne_of_lt (Nat.lt_of_lt_of_le (EY.ext O0.2).lt z245b)
  have q247 : aO ≠ b245 := Nat.ne_of_lt (Nat.lt_of_lt_of_le (EO.ext O0.2).lt z245b)
  have q248 : aD ≠ b245 := Nat.ne_of_lt (Nat.lt_of_lt_of_le (ED.ext O0.2).lt z245b)
  have q249 : aM ≠ b245 := Nat.ne_of_lt (Nat.lt_of_lt_of_le (EM.ext O0.2).lt z245b)
  have g250 : n0 ≤ b245 := Nat.le_trans Z0 z245b
  have z251 : h0.size ≤ b245 := Nat.le_trans K0.1 z245b
  have K252 : Keep h0 T245.heap [] := K0.trans K245 all0
  have z253 := Nat.le_trans Z0 K245.1
  have z254 := Nat.le_trans kS0 K245.1
  have f255 := O0.keep K245 all0
  have kR245 : T245.heap.size ≤ T245.heap.size := Nat.le_refl _
  refine Goes.of (fun t k => st245.trans k) ?_
  show Goes p e below (T245.setTop (mkF m 109 #[.val (.int p1), .val (.int (own_cy p1)), .val (.int (own_ce p1)), .val (.int (own_yc p1)), .val (.int (own_wl p1)), .val (.int (own_dr p1)), .val (.int (own_fm p1)), .val (.int (own_ts p1)), .val (.int (own_we p1))] [(.ref b245)])) _
  refine Goes.of (fun t k => XS.iload X245.here hx rfl (hb hby d12_109) rfl k) ?_
  show Goes p e below (T245.setTop (mkF m 111 #[.val (.int p1), .val (.int (own_cy p1)), .val (.int (own_ce p1)), .val (.int (own_yc p1)), .val (.int (own_wl p1)), .val (.int (own_dr p1)), .val (.int (own_fm p1)), .val (.int (own_ts p1)), .val (.int (own_we p1))] [(.int (own_fm p1)), (.ref b245)])) _
  refine Goes.of (fun t k => XS.iload X245.here hx rfl (hb hby d12_111) rfl k) ?_
  show Goes p e below (T245.setTop (mkF m 113 #[.val (.int p1), .val (.int (own_cy p1)), .val (.int (own_ce p1)), .val (.int (own_yc p1)), .val (.int (own_wl p1)), .val (.int (own_dr p1)), .val (.int (own_fm p1)), .val (.int (own_ts p1)), .val (.int (own_we p1))] [(.int (own_ts p1)), (.int (own_fm p1)), (.ref b245)])) _
  refine Goes.of (fun t k => XS.iadd X245.here hx rfl (hb hby d12_113) rfl k) ?_
  show Goes p e below (T245.setTop (mkF m 114 #[.val (.int p1), .val (.int (own_cy p1)), .val (.int (own_ce p1)), .val (.int (own_yc p1)), .val (.int (own_wl p1)), .val (.int (own_dr p1)), .val (.int (own_fm p1)), .val (.int (own_ts p1)), .val (.int (own_we p1))] [(.int ((own_fm p1) + (own_ts p1))), (.ref b245)])) _
  refine Goes.of (fun t k => XS.i2l X245.here hx rfl (hb hby d12_114) rfl k) ?_
  show Goes p e below (T245.setTop (mkF m 115 #[.val (.int p1), .val (.int (own_cy p1)), .val (.int (own_ce p1)), .val (.int (own_yc p1)), .val (.int (own_wl p1)), .val (.int (own_dr p1)), .val (.int (own_fm p1)), .val (.int (own_ts p1)), .val (.int (own_we p1))] [(.long (((own_fm p1) + (own_ts p1)).toInt64)), (.ref b245)])) _
  refine Goes.of (fun t k => X245.ldc2Long hx hown (mvT hZ (wd hw 121 rfl)) (g := (mkF m 115 #[.val (.int p1), .val (.int (own_cy p1)), .val (.int (own_ce p1)), .val (.int (own_yc p1)), .val (.int (own_wl p1)), .val (.int (own_dr p1)), .val (.int (own_fm p1)), .val (.int (own_ts p1)), .val (.int (own_we p1))] [(.long (((own_fm p1) + (own_ts p1)).toInt64)), (.ref b245)])) rfl (hb hby d12_115) _ k) ?_
  show Goes p e below (T245.setTop (mkF m 118 #[.val (.int p1), .val (.int (own_cy p1)), .val (.int (own_ce p1)), .val (.int (own_yc p1)), .val (.int (own_wl p1)), .val (.int (own_dr p1)), .val (.int (own_fm p1)), .val (.int (own_ts p1)), .val (.int (own_we p1))] [(.long (7 : Int64)), (.long (((own_fm p1) + (own_ts p1)).toInt64)), (.ref b245)])) _
  refine Goes.of (fun t k => XS.iload X245.here hx rfl (hb hby d12_118) rfl k) ?_
  show Goes p e below (T245.setTop (mkF m 120 #[.val (.int p1), .val (.int (own_cy p1)), .val (.int (own_ce p1)), .val (.int (own_yc p1)), .val (.int (own_wl p1)), .val (.int (own_dr p1)), .val (.int (own_fm p1)), .val (.int (own_ts p1)), .val (.int (own_we p1))] [(.int (own_we p1)), (.long (7 : Int64)), (.long (((own_fm p1) + (own_ts p1)).toInt64)), (.ref b245)])) _
  refine Goes.of (fun t k => XS.i2l X245.here hx rfl (hb hby d12_120) rfl k) ?_
  show Goes p e below (T245.setTop (mkF m 121 #[.val (.int p1), .val (.int (own_cy p1)), .val (.int (own_ce p1)), .val (.int (own_yc p1)), .val (.int (own_wl p1)), .val (.int (own_dr p1)), .val (.int (own_fm p1)), .val (.int (own_ts p1)), .val (.int (own_we p1))] [(.long ((own_we p1).toInt64)), (.long (7 : Int64)), (.long (((own_fm p1) + (own_ts p1)).toInt64)), (.ref b245)])) _
  refine Goes.of (fun t k => XS.lmul X245.here hx rfl (hb hby d12_121) rfl k) ?_
  show Goes p e below (T245.setTop (mkF m 122 #[.val (.int p1), .val (.int (own_cy p1)), .val (.int (own_ce p1)), .val (.int (own_yc p1)), .val (.int (own_wl p1)), .val (.int (own_dr p1)), .val (.int (own_fm p1)), .val (.int (own_ts p1)), .val (.int (own_we p1))] [(.long ((7 : Int64) * ((own_we p1).toInt64))), (.long (((own_fm p1) + (own_ts p1)).toInt64)), (.ref b245)])) _
  refine Goes.of (fun t k => XS.lsub X245.here hx rfl (hb hby d12_122) rfl k) ?_
  show Goes p e below (T245.setTop (mkF m 123 #[.val (.int p1), .val (.int (own_cy p1)), .val (.int (own_ce p1)), .val (.int (own_yc p1)), .val (.int (own_wl p1)), .val (.int (own_dr p1)), .val (.int (own_fm p1)), .val (.int (own_ts p1)), .val (.int (own_we p1))] [(.long (own_days p1)), (.ref b245)])) _
  have eas := own_easter p1 y1 y2
  obtain ⟨cq256, kq256, q256a, q256b, q256c⟩ := isOf hZ rfl E245
  obtain ⟨_, _, ⟨T256, L256, k256, n256⟩, -, X256, ⟨Lc256, hQ256, l256, y256, z256⟩, st256⟩ := X245.virtualBack hx (y := (⟨"java/time/LocalDate", "plusDays", "(J)Ljava/time/LocalDate;"⟩ : MethodName)) (z := (⟨"java/time/LocalDate", "plusDays", "(J)Ljava/time/LocalDate;"⟩ : MethodName)) hown (mvT hZ (wd hw 122 rfl)) (mvT hZ (wd hw 123 rfl)) (notFace_of_selects (args := #[]) (mvT hZ (wd hw 125 rfl))) (mvT hZ (wd hw 125 rfl)) (mvT hZ (wd hw 124 rfl)) (by decide) (backOf (W := 0) (rm17 l Z a0 hw [] b245 (own_days p1) p1 T245.heap n0 z253 E245 F245_year F245_month F245_day (by omega) (by omega)) hZ (wd hw 126 rfl) (wd hw 25 rfl) (by decide) (by decide)) q256a q256c (g := (mkF m 123 #[.val (.int p1), .val (.int (own_cy p1)), .val (.int (own_ce p1)), .val (.int (own_yc p1)), .val (.int (own_wl p1)), .val (.int (own_dr p1)), .val (.int (own_fm p1)), .val (.int (own_ts p1)), .val (.int (own_we p1))] [(.long (own_days p1)), (.ref b245)])) rfl (by rw [hml]; rfl) (Steps.refl _) (argsL := [(.long (own_days p1))]) (rest := []) (lenOf pd_18 rfl) rfl (by show 2 * 0 + _ ≤ _; exact Nat.le_of_eq rfl) (hb hby d12_123) (fun _ _ => ⟨rfl, rfl, (by decide : 3 + 1 ≤ _), (by decide : 27 + 3 ≤ _)⟩)
  dsimp only [Pt.U, Pt.locs, Pt.cells, Pt.slots] at X256 l256 y256 z256 st256 hQ256
  subst l256 y256 z256
  obtain ⟨c256, rfl, N256q, K256, E256, F256_year, F256_month, F256_day⟩ := hQ256
  have N256 := Fr.app N245 N256q
  have K257 : Keep h0 T256.heap [] := K252.trans K256 all0
  have z258 := Nat.le_trans z253 K256.1
  have z259 := Nat.le_trans kR245 K256.1
  have f260 := f255.keep K256 all0
  have f261 := E245.keep K256
  have f262 := F245_year.keep K256 nin0
  have f263 := F245_month.keep K256 nin0
  have f264 := F245_day.keep K256 nin0
  refine Goes.of (fun t k => st256.trans k) ?_
  show Goes p e below (T256.setTop (mkF m 126 #[.val (.int p1), .val (.int (own_cy p1)), .val (.int (own_ce p1)), .val (.int (own_yc p1)), .val (.int (own_wl p1)), .val (.int (own_dr p1)), .val (.int (own_fm p1)), .val (.int (own_ts p1)), .val (.int (own_we p1))] [(.ref c256)])) _
  have eh : T256.heap = T256.heap := rfl
  exact Goes.retAW X256 hS245 z259 hx (by rfl) Bd.returns (by rfl) hlocks (hb hby d12_126) (⟨c256, rfl, N256, by rw [eh]; exact K257, by rw [eh]; exact E256, by rw [eh]; exact F256_year, by rw [eh]; exact F256_month, by rw [eh]; exact F256_day⟩) (by decide) (by decide)
theorem ef_20 (m : MethodId) (x0 : Addr) (x1 : Addr) : entryFrame m #[(.ref x0), (.ref x1)] 3 = mkF m 0 #[.val (.ref x0), .val (.ref x1), .unset] [] := by first | (simp [entryFrame, mkF, argsToLocals, Value.category]; done) | rfl
def Q20 (Z : State) (a1 : Addr) (a2 : Addr) (y : Int32) (mo : Int32) (da : Int32) (h0 : Heap) (n0 : Nat) (v : Option Value) (h : Heap) (L : List Loc) : Prop := v = some (.int 0) ∧ Fr n0 L ∧ h = h0
set_option maxRecDepth 65536 in
set_option maxHeartbeats 40000000 in
theorem rm20 (l : Launch) (Z : State) (a0 : Array Value) (hw : ∀ d ∈ tables_1, d.before a0 Z = true) (ws : List Jvm.Cond) (a1 : Addr) (a2 : Addr) (y : Int32) (mo : Int32) (da : Int32) (h0 : Heap) (n0 : Nat) (Z0 : n0 ≤ h0.size) (E : Exa Z h0 a1 "java/time/LocalDate") (F_year : Fld Z h0 a1 "java/time/LocalDate" "year" "I" (.int y)) (F_month : Fld Z h0 a1 "java/time/LocalDate" "month" "S" (.int mo)) (F_day : Fld Z h0 a1 "java/time/LocalDate" "day" "S" (.int da)) (E2 : Exa Z h0 a2 "java/time/LocalDate") (F_year2 : Fld Z h0 a2 "java/time/LocalDate" "year" "I" (.int y)) (F_month2 : Fld Z h0 a2 "java/time/LocalDate" "month" "S" (.int mo)) (F_day2 : Fld Z h0 a2 "java/time/LocalDate" "day" "S" (.int da)) :
    MetFree l (⟨"java/time/LocalDate", "compareTo0", "(Ljava/time/LocalDate;)I"⟩ : MethodName) (head1 (Jvm.Cond.code (⟨"java/time/LocalDate", "compareTo0", "(Ljava/time/LocalDate;)I"⟩ : MethodName) jdk_2323_method_70_code 3 (some .int) :: ws) ({ frames := 0, cells := 0, slots := 0, locals := 0 } : Room)) (fun a U => a = #[(.ref a1), (.ref a2)] ∧ Z.Warmed39 U.vm ∧ U.heap = h0) (fun _ _ _ _ _ => True) (fun _ U o U' => ∃ v L, o = .returned v ∧ Q20 Z a1 a2 y mo da h0 n0 v U'.heap L ∧ FrameEnd U o U' L ({ frames := 0, cells := 0, slots := 0, locals := 0 } : Room).cells ({ frames := 0, cells := 0, slots := 0, locals := 0 } : Room).slots) := by
  refine MetFree.of_bodySF (plainFor_of_name pn_7) hisR ?_
  intro p e s m args below meth c s₁ Bd hml0 hP hK
  obtain ⟨rfl, hZ, hh⟩ := hP
  have hx := Bd.exec
  have hby := Bd.bytes
  have hml : c.maxLocals = 3 := hml0
  have hown : s.vm.findClass "java/time/LocalDate" = some m.cls := findClass_of_methodNamed Bd.named
  have hnm := (name_of_methodNamed Bd.named Bd.method).1
  have hlocks : meth.locks = false := BodyLoose.notSynchronized Bd
  have X0 : Stand p l e ({ frames := 0, cells := 0, slots := 0, locals := 0 } : Room) s m #[(.ref a1), (.ref a2)] below meth c s₁ [] 0 0 := Stand.of_body Bd
  have e0 : s₁.heap = h0 := by rw [← hh, Bd.state]; rfl
  have N0 := Fr.nil n0
  show Goes p e below (s₁.setTop (entryFrame m #[(.ref a1), (.ref a2)] 3)) (Fin s (Q20 Z a1 a2 y mo da h0 n0) ({ frames := 0, cells := 0, slots := 0, locals := 0 } : Room).cells ({ frames := 0, cells := 0, slots := 0, locals := 0 } : Room).slots)
  refine Goes.of (fun t k => castTop (ef_20 m a1 a2) k) ?_
  show Goes p e below (s₁.setTop (mkF m 0 #[.val (.ref a1), .val (.ref a2), .unset] [])) _
  refine Goes.of (fun t k => XS.aloadN X0.here hx rfl (hb hby d20_0) rfl rfl k) ?_
  obtain ⟨T265, X265, e265, st265⟩ := getF X0 hx hZ hown (host := "") (Or.inl (wd hw 80 rfl)) Via.refl e0 F_year (g := (mkF m 1 #[.val (.ref a1), .val (.ref a2), .unset] [(.ref a1)])) rfl rfl (hb hby d20_1)
  refine Goes.of st265 ?_
  show Goes p e below (T265.setTop (mkF m 4 #[.val (.ref a1), .val (.ref a2), .unset] [(.int y)])) _
  refine Goes.of (fun t k => XS.aloadN X265.here hx rfl (hb hby d20_4) rfl rfl k) ?_
  obtain ⟨T266, X266, e266, st266⟩ := getF X265 hx hZ hown (host := "") (Or.inl (wd hw 80 rfl)) Via.refl e265 F_year2 (g := (mkF m 5 #[.val (.ref a1), .val (.ref a2), .unset] [(.ref a2), (.int y)])) rfl rfl (hb hby d20_5)
  refine Goes.of st266 ?_
  show Goes p e below (T266.setTop (mkF m 8 #[.val (.ref a1), .val (.ref a2), .unset] [(.int y), (.int y)])) _
  refine Goes.of (fun t k => XS.isub X266.here hx rfl (hb hby d20_8) rfl k) ?_
  show Goes p e below (T266.setTop (mkF m 9 #[.val (.ref a1), .val (.ref a2), .unset] [(.int (y - y))])) _
  refine Goes.of (fun t k => XS.istoreN X266.here hx rfl (hb hby d20_9) rfl (l' := #[.val (.ref a1), .val (.ref a2), .val (.int (y - y))]) rfl k) ?_
  show Goes p e below (T266.setTop (mkF m 10 #[.val (.ref a1), .val (.ref a2), .val (.int (y - y))] [])) _
  refine Goes.of (fun t k => XS.iloadN X266.here hx rfl (hb hby d20_10) rfl k) ?_
  show Goes p e below (T266.setTop (mkF m 11 #[.val (.ref a1), .val (.ref a2), .val (.int (y - y))] [(.int (y - y))])) _
  have hd11_267 : (y - y) = (0 : Int32) := Int32.sub_self _
  refine Goes.of (fun t k => XS.ifNo X266.here hx rfl (hb hby d20_11) rfl ((if0 _ _).trans (teq hd11_267).2) k) ?_
  show Goes p e below (T266.setTop (mkF m 14 #[.val (.ref a1), .val (.ref a2), .val (.int (y - y))] [])) _
  refine Goes.of (fun t k => XS.aloadN X266.here hx rfl (hb hby d20_14) rfl rfl k) ?_
  obtain ⟨T268, X268, e268, st268⟩ := getF X266 hx hZ hown (host := "") (Or.inl (wd hw 82 rfl)) Via.refl e266 F_month (g := (mkF m 15 #[.val (.ref a1), .val (.ref a2), .val (.int (y - y))] [(.ref a1)])) rfl rfl (hb hby d20_15)
  refine Goes.of st268 ?_
  show Goes p e below (T268.setTop (mkF m 18 #[.val (.ref a1), .val (.ref a2), .val (.int (y - y))] [(.int mo)])) _
  refine Goes.of (fun t k => XS.aloadN X268.here hx rfl (hb hby d20_18) rfl rfl k) ?_
  obtain ⟨T269, X269, e269, st269⟩ := getF X268 hx hZ hown (host := "") (Or.inl (wd hw 82 rfl)) Via.refl e268 F_month2 (g := (mkF m 19 #[.val (.ref a1), .val (.ref a2), .val (.int (y - y))] [(.ref a2), (.int mo)])) rfl rfl (hb hby d20_19)
  refine Goes.of st269 ?_
  show Goes p e below (T269.setTop (mkF m 22 #[.val (.ref a1), .val (.ref a2), .val (.int (y - y))] [(.int mo), (.int mo)])) _
  refine Goes.of (fun t k => XS.isub X269.here hx rfl (hb hby d20_22) rfl k) ?_
  show Goes p e below (T269.setTop (mkF m 23 #[.val (.ref a1), .val (.ref a2), .val (.int (y - y))] [(.int (mo - mo))])) _
  refine Goes.of (fun t k => XS.istoreN X269.here hx rfl (hb hby d20_23) rfl (l' := #[.val (.ref a1), .val (.ref a2), .val (.int (mo - mo))]) rfl k) ?_
  show Goes p e below (T269.setTop (mkF m 24 #[.val (.ref a1), .val (.ref a2), .val (.int (mo - mo))] [])) _
  refine Goes.of (fun t k => XS.iloadN X269.here hx rfl (hb hby d20_24) rfl k) ?_
  show Goes p e below (T269.setTop (mkF m 25 #[.val (.ref a1), .val (.ref a2), .val (.int (mo - mo))] [(.int (mo - mo))])) _
  have hd25_270 : (mo - mo) = (0 : Int32) := Int32.sub_self _
  refine Goes.of (fun t k => XS.ifNo X269.here hx rfl (hb hby d20_25) rfl ((if0 _ _).trans (teq hd25_270).2) k) ?_
  show Goes p e below (T269.setTop (mkF m 28 #[.val (.ref a1), .val (.ref a2), .val (.int (mo - mo))] [])) _
  refine Goes.of (fun t k => XS.aloadN X269.here hx rfl (hb hby d20_28) rfl rfl k) ?_
  obtain ⟨T271, X271, e271, st271⟩ := getF X269 hx hZ hown (host := "") (Or.inl (wd hw 84 rfl)) Via.refl e269 F_day (g := (mkF m 29 #[.val (.ref a1), .val (.ref a2), .val (.int (mo - mo))] [(.ref a1)])) rfl rfl (hb hby d20_29)
  refine Goes.of st271 ?_
  show Goes p e below (T271.setTop (mkF m 32 #[.val (.ref a1), .val (.ref a2), .val (.int (mo - mo))] [(.int da)])) _
  refine Goes.of (fun t k => XS.aloadN X271.here hx rfl (hb hby d20_32) rfl rfl k) ?_
  obtain ⟨T272, X272, e272, st272⟩ := getF X271 hx hZ hown (host := "") (Or.inl (wd hw 84 rfl)) Via.refl e271 F_day2 (g := (mkF m 33 #[.val (.ref a1), .val (.ref a2), .val (.int (mo - mo))] [(.ref a2), (.int da)])) rfl rfl (hb hby d20_33)
  refine Goes.of st272 ?_
  show Goes p e below (T272.setTop (mkF m 36 #[.val (.ref a1), .val (.ref a2), .val (.int (mo - mo))] [(.int da), (.int da)])) _
  refine Goes.of (fun t k => XS.isub X272.here hx rfl (hb hby d20_36) rfl k) ?_
  show Goes p e below (T272.setTop (mkF m 37 #[.val (.ref a1), .val (.ref a2), .val (.int (mo - mo))] [(.int (da - da))])) _
  refine Goes.of (fun t k => XS.istoreN X272.here hx rfl (hb hby d20_37) rfl (l' := #[.val (.ref a1), .val (.ref a2), .val (.int (da - da))]) rfl k) ?_
  show Goes p e below (T272.setTop (mkF m 38 #[.val (.ref a1), .val (.ref a2), .val (.int (da - da))] [])) _
  refine Goes.of (fun t k => XS.iloadN X272.here hx rfl (hb hby d20_38) rfl k) ?_
  show Goes p e below (T272.setTop (mkF m 39 #[.val (.ref a1), .val (.ref a2), .val (.int (da - da))] [(.int (da - da))])) _
  exact Goes.retI X272 hx Bd.returns hlocks (hb hby d20_39) (⟨by rw [Int32.sub_self], N0, e272⟩) (by decide) (by decide)
theorem ef_19 (m : MethodId) (x0 : Addr) (x1 : Addr) : entryFrame m #[(.ref x0), (.ref x1)] 2 = mkF m 0 #[.val (.ref x0), .val (.ref x1)] [] := by first | (simp [entryFrame, mkF, argsToLocals, Value.category]; done) | rfl
def Q19 (Z : State) (a1 : Addr) (a2 : Addr) (y : Int32) (mo : Int32) (da : Int32) (h0 : Heap) (n0 : Nat) (v : Option Value) (h : Heap) (L : List Loc) : Prop := v = some (.int 1) ∧ Fr n0 L ∧ h = h0
set_option maxRecDepth 65536 in
set_option maxHeartbeats 40000000 in
theorem rm19 (l : Launch) (Z : State) (a0 : Array Value) (hw : ∀ d ∈ tables_1, d.before a0 Z = true) (ws : List Jvm.Cond) (a1 : Addr) (a2 : Addr) (y : Int32) (mo : Int32) (da : Int32) (h0 : Heap) (n0 : Nat) (Z0 : n0 ≤ h0.size) (E : Exa Z h0 a1 "java/time/LocalDate") (F_year : Fld Z h0 a1 "java/time/LocalDate" "year" "I" (.int y)) (F_month : Fld Z h0 a1 "java/time/LocalDate" "month" "S" (.int mo)) (F_day : Fld Z h0 a1 "java/time/LocalDate" "day" "S" (.int da)) (E2 : Exa Z h0 a2 "java/time/LocalDate") (F_year2 : Fld Z h0 a2 "java/time/LocalDate" "year" "I" (.int y)) (F_month2 : Fld Z h0 a2 "java/time/LocalDate" "month" "S" (.int mo)) (F_day2 : Fld Z h0 a2 "java/time/LocalDate" "day" "S" (.int da)) :
    MetFree l (⟨"java/time/LocalDate", "equals", "(Ljava/lang/Object;)Z"⟩ : MethodName) (head1 (Jvm.Cond.code (⟨"java/time/LocalDate", "equals", "(Ljava/lang/Object;)Z"⟩ : MethodName) jdk_2323_method_74_code 2 (some .boolean) :: ws) ({ frames := 1, cells := 0, slots := 0, locals := 14 } : Room)) (fun a U => a = #[(.ref a1), (.ref a2)] ∧ Z.Warmed39 U.vm ∧ U.heap = h0) (fun _ _ _ _ _ => True) (fun _ U o U' => ∃ v L, o = .returned v ∧ Q19 Z a1 a2 y mo da h0 n0 v U'.heap L ∧ FrameEnd U o U' L ({ frames := 1, cells := 0, slots := 0, locals := 14 } : Room).cells ({ frames := 1, cells := 0, slots := 0, locals := 14 } : Room).slots) := by
  refine MetFree.of_bodySF (plainFor_of_name pn_7) hisR ?_
  intro p e s m args below meth c s₁ Bd hml0 hP hK
  obtain ⟨rfl, hZ, hh⟩ := hP
  have hx := Bd.exec
  have hby := Bd.bytes
  have hml : c.maxLocals = 2 := hml0
  have hown : s.vm.findClass "java/time/LocalDate" = some m.cls := findClass_of_methodNamed Bd.named
  have hnm := (name_of_methodNamed Bd.named Bd.method).1
  have hlocks : meth.locks = false := BodyLoose.notSynchronized Bd
  have X0 : Stand p l e ({ frames := 1, cells := 0, slots := 0, locals := 14 } : Room) s m #[(.ref a1), (.ref a2)] below meth c s₁ [] 0 0 := Stand.of_body Bd
  have e0 : s₁.heap = h0 := by rw [← hh, Bd.state]; rfl
  have N0 := Fr.nil n0
  show Goes p e below (s₁.setTop (entryFrame m #[(.ref a1), (.ref a2)] 2)) (Fin s (Q19 Z a1 a2 y mo da h0 n0) ({ frames := 1, cells := 0, slots := 0, locals := 14 } : Room).cells ({ frames := 1, cells := 0, slots := 0, locals := 14 } : Room).slots)
  refine Goes.of (fun t k => castTop (ef_19 m a1 a2) k) ?_
  show Goes p e below (s₁.setTop (mkF m 0 #[.val (.ref a1), .val (.ref a2)] [])) _
  refine Goes.of (fun t k => XS.aloadN X0.here hx rfl (hb hby d19_0) rfl rfl k) ?_
  show Goes p e below (s₁.setTop (mkF m 1 #[.val (.ref a1), .val (.ref a2)] [(.ref a1)])) _
  refine Goes.of (fun t k => XS.aloadN X0.here hx rfl (hb hby d19_1) rfl rfl k) ?_
  show Goes p e below (s₁.setTop (mkF m 2 #[.val (.ref a1), .val (.ref a2)] [(.ref a2), (.ref a1)])) _
  by_cases hc2_273 : a1 = a2
  · refine Goes.of (fun t k => Jvm.RoadKit.acmp (g := (mkF m 2 #[.val (.ref a1), .val (.ref a2)] [(.ref a2), (.ref a1)])) X0 hx rfl rfl rfl (pc0 := 2) (pc' := 5) (same := true) rfl (hb hby d19_2) rfl (decide_eq_true (congrArg Value.ref hc2_273)) (by decide) (by decide) k) ?_
    show Goes p e below (s₁.setTop (mkF m 5 #[.val (.ref a1), .val (.ref a2)] [])) _
    refine Goes.of (fun t k => XS.iconst X0.here hx rfl (hb hby d19_5) k) ?_
    show Goes p e below (s₁.setTop (mkF m 6 #[.val (.ref a1), .val (.ref a2)] [(.int (1 : Int32))])) _
    exact Goes.retN (t := .boolean) X0 hx Bd.returns (by simp) hlocks (hb hby d19_6) (⟨rfl, N0, e0⟩) (by decide) (by decide)
  · refine Goes.of (fun t k => Jvm.RoadKit.acmp (g := (mkF m 2 #[.val (.ref a1), .val (.ref a2)] [(.ref a2), (.ref a1)])) X0 hx rfl rfl rfl (pc0 := 2) (pc' := 7) (same := false) rfl (hb hby d19_2) rfl (decide_eq_false (fun q => hc2_273 (Value.ref.inj q))) (by decide) (by decide) k) ?_
    show Goes p e below (s₁.setTop (mkF m 7 #[.val (.ref a1), .val (.ref a2)] [])) _
    refine Goes.of (fun t k => XS.aloadN X0.here hx rfl (hb hby d19_7) rfl rfl k) ?_
    show Goes p e below (s₁.setTop (mkF m 8 #[.val (.ref a1), .val (.ref a2)] [(.ref a2)])) _
    obtain ⟨T274, X274, e274, st274⟩ := instY X0 hx hZ hown (wd hw 71 rfl) e0 (Ins.self E2) (g := (mkF m 8 #[.val (.ref a1), .val (.ref a2)] [(.ref a2)])) rfl rfl (hb hby d19_8)
    refine Goes.of st274 ?_
    show Goes p e below (T274.setTop (mkF m 11 #[.val (.ref a1), .val (.ref a2)] [(.int (1 : Int32))])) _
    refine Goes.of (fun t k => XS.ifNo X274.here hx rfl (hb hby d19_11) rfl ((if0 _ _).trans (feq (by decide)).1) k) ?_
    show Goes p e below (T274.setTop (mkF m 14 #[.val (.ref a1), .val (.ref a2)] [])) _
    refine Goes.of (fun t k => XS.aloadN X274.here hx rfl (hb hby d19_14) rfl rfl k) ?_
    show Goes p e below (T274.setTop (mkF m 15 #[.val (.ref a1), .val (.ref a2)] [(.ref a1)])) _
    refine Goes.of (fun t k => XS.aloadN X274.here hx rfl (hb hby d19_15) rfl rfl k) ?_
    show Goes p e below (T274.setTop (mkF m 16 #[.val (.ref a1), .val (.ref a2)] [(.ref a2), (.ref a1)])) _
    obtain ⟨T275, X275, e275, st275⟩ := castY X274 hx hZ hown (wd hw 71 rfl) e274 (Ins.self E2) (g := (mkF m 16 #[.val (.ref a1), .val (.ref a2)] [(.ref a2), (.ref a1)])) rfl rfl (hb hby d19_16)
    refine Goes.of st275 ?_
    obtain ⟨cq276, kq276, q276a, q276b, q276c⟩ := isOf hZ e275 E
    obtain ⟨_, _, ⟨T276, L276, k276, n276⟩, -, X276, ⟨Lc276, hQ276, l276, y276, z276⟩, st276⟩ := X275.virtualBack hx (y := (⟨"java/time/LocalDate", "compareTo0", "(Ljava/time/LocalDate;)I"⟩ : MethodName)) (z := (⟨"java/time/LocalDate", "compareTo0", "(Ljava/time/LocalDate;)I"⟩ : MethodName)) hown (mvT hZ (wd hw 139 rfl)) (mvT hZ (wd hw 140 rfl)) (notFace_of_selects (args := #[]) (mvT hZ (wd hw 142 rfl))) (mvT hZ (wd hw 142 rfl)) (mvT hZ (wd hw 141 rfl)) (by decide) (backOf (W := 0) (rm20 l Z a0 hw [] a1 a2 y mo da h0 n0 Z0 E F_year F_month F_day E2 F_year2 F_month2 F_day2) hZ (wd hw 143 rfl) (wd hw 25 rfl) (by decide) (by decide)) q276a q276c (g := (mkF m 19 #[.val (.ref a1), .val (.ref a2)] [(.ref a2), (.ref a1)])) rfl (by rw [hml]; rfl) (Steps.refl _) (argsL := [(.ref a2)]) (rest := []) (lenOf pd_19 rfl) rfl (by show 2 * 0 + _ ≤ _; exact Nat.le_of_eq rfl) (hb hby d19_19) (fun _ _ => ⟨rfl, e275, (by decide : 0 + 0 ≤ _), (by decide : 0 + 0 ≤ _)⟩)
    dsimp only [Pt.U, Pt.locs, Pt.cells, Pt.slots] at X276 l276 y276 z276 st276 hQ276
    subst l276 y276 z276
    obtain ⟨rfl, N276q, e276⟩ := hQ276
    have N276 := Fr.app N0 N276q
    refine Goes.of (fun t k => st276.trans k) ?_
    show Goes p e below (T276.setTop (mkF m 22 #[.val (.ref a1), .val (.ref a2)] [(.int (0 : Int32))])) _
    refine Goes.of (fun t k => XS.ifNo X276.here hx rfl (hb hby d19_22) rfl ((if0 _ _).trans (teq (by decide)).2) k) ?_
    show Goes p e below (T276.setTop (mkF m 25 #[.val (.ref a1), .val (.ref a2)] [])) _
    refine Goes.of (fun t k => XS.iconst X276.here hx rfl (hb hby d19_25) k) ?_
    show Goes p e below (T276.setTop (mkF m 26 #[.val (.ref a1), .val (.ref a2)] [(.int (1 : Int32))])) _
    refine Goes.of (fun t k => XS.goto X276.here hx rfl (pc0 := 26) (pc' := 30) rfl (hb hby d19_26) (by decide) (by decide) k) ?_
    show Goes p e below (T276.setTop (mkF m 30 #[.val (.ref a1), .val (.ref a2)] [(.int (1 : Int32))])) _
    exact Goes.retN (t := .boolean) X276 hx Bd.returns (by simp) hlocks (hb hby d19_30) (⟨rfl, N276, e276⟩) (by decide) (by decide)
def own_yr (p : Int32) : Int32 := (p &&& (2147483647 : Int32)) - (p &&& (2147483647 : Int32)) / (1000000000 : Int32) * (1000000000 : Int32)
theorem own_yrb (p : Int32) : 0 ≤ (own_yr p).toInt ∧ (own_yr p).toInt < 1000000000 := by
  have e1 : (p &&& 2147483647).toInt = p.toInt % 2 ^ 31 := Jvm.Kit.i32_mask p 2147483647 (k := 31) (by decide) (by decide)
  have e3 : (1000000000 : Int32).toInt = 1000000000 := by decide
  unfold own_yr
  rw [own_rem32n (by omega), e3]; omega
theorem own_fin4 {q n : Int64} (h : n.toInt = 22 + q.toInt) (h0 : 0 ≤ q.toInt) (h1 : q.toInt ≤ 35) (hn : (31 : Int64) < n) : own_mo q = 4 ∧ own_da q = (n - 31).toInt32 ∧ 1 ≤ (n - 31).toInt32.toInt ∧ (n - 31).toInt32.toInt ≤ 30 := by
  have e31 : (31 : Int64).toInt = 31 := by decide
  have f31 : (31 : Int32).toInt64 = 31 := by decide
  have d := (own_dom q h0 h1).1
  have en : (22 : Int32).toInt64 + q = n := Int64.toInt_inj.mp (by rw [d, h])
  have l := Int64.lt_iff_toInt_lt.mp hn
  rw [e31] at l
  have e : (n - 31).toInt = n.toInt - 31 := by rw [Jvm.Kit.i64_sub (by omega) (by omega), e31]
  have e2 : (n - 31).toInt32.toInt = n.toInt - 31 := by rw [Jvm.Kit.i32_of_i64 (by omega) (by omega), e]
  refine ⟨by rw [own_mo, en, f31, if_pos hn], by rw [own_da, en, f31, if_pos hn], by omega, by omega⟩
theorem own_fin3 {q n : Int64} (h : n.toInt = 22 + q.toInt) (h0 : 0 ≤ q.toInt) (h1 : q.toInt ≤ 35) (hn : ¬ ((31 : Int64) < n)) : own_mo q = 3 ∧ own_da q = n.toInt32 ∧ 1 ≤ n.toInt32.toInt ∧ n.toInt32.toInt ≤ 31 := by
  have e31 : (31 : Int64).toInt = 31 := by decide
  have f31 : (31 : Int32).toInt64 = 31 := by decide
  have d := (own_dom q h0 h1).1
  have en : (22 : Int32).toInt64 + q = n := Int64.toInt_inj.mp (by rw [d, h])
  have l : ¬ (31 < n.toInt) := fun z => hn (Int64.lt_iff_toInt_lt.mpr (by rw [e31]; exact z))
  have e2 : n.toInt32.toInt = n.toInt := Jvm.Kit.i32_of_i64 (by omega) (by omega)
  refine ⟨by rw [own_mo, en, f31, if_neg hn], by rw [own_da, en, f31, if_neg hn], by omega, by omega⟩
theorem ef_0 (m : MethodId) (x0 : Int32) : entryFrame m #[(.int x0)] maxLocals = mkF m 0 #[.val (.int x0), .unset, .unset, .unset, .unset, .unset, .unset, .unset, .unset, .unset, .unset, .unset, .unset, .unset, .unset, .unset, .unset, .unset, .unset] [] := by first | (simp [entryFrame, mkF, argsToLocals, Value.category, maxLocals]; done) | rfl
def Q0 (Z : State) (p1 : Int32) (aY : Addr) (rY : Addr) (aO : Addr) (rO : Addr) (aD : Addr) (rD : Addr) (aM : Addr) (h0 : Heap) (n0 : Nat) (v : Option Value) (h : Heap) (L : List Loc) : Prop := v = some (.int 1) ∧ Fr n0 L
set_option maxRecDepth 65536 in
set_option maxHeartbeats 40000000 in
theorem rm0 (l : Launch) (Z : State) (a0 : Array Value) (hw : ∀ d ∈ tables_1, d.before a0 Z = true) (ws : List Jvm.Cond) (p1 : Int32) (aY : Addr) (rY : Addr) (aO : Addr) (rO : Addr) (aD : Addr) (rD : Addr) (aM : Addr) (h0 : Heap) (n0 : Nat) (Z0 : n0 ≤ h0.size) (O0 : Old Z n0 h0) (SY : Sta Z Z.heap "java/time/temporal/ChronoField" "YEAR" "Ljava/time/temporal/ChronoField;" (.ref aY)) (EY : Exa Z Z.heap aY "java/time/temporal/ChronoField") (RY : Fld Z Z.heap aY "java/time/temporal/ChronoField" "range" "Ljava/time/temporal/ValueRange;" (.ref rY)) (GY : Exa Z Z.heap rY "java/time/temporal/ValueRange") (MY : Fld Z Z.heap rY "java/time/temporal/ValueRange" "minSmallest" "J" (.long (-999999999 : Int64))) (XY : Fld Z Z.heap rY "java/time/temporal/ValueRange" "maxLargest" "J" (.long (999999999 : Int64))) (SO : Sta Z Z.heap "java/time/temporal/ChronoField" "MONTH_OF_YEAR" "Ljava/time/temporal/ChronoField;" (.ref aO)) (EO : Exa Z Z.heap aO "java/time/temporal/ChronoField") (RO : Fld Z Z.heap aO "java/time/temporal/ChronoField" "range" "Ljava/time/temporal/ValueRange;" (.ref rO)) (GO : Exa Z Z.heap rO "java/time/temporal/ValueRange") (MO : Fld Z Z.heap rO "java/time/temporal/ValueRange" "minSmallest" "J" (.long (1 : Int64))) (XO : Fld Z Z.heap rO "java/time/temporal/ValueRange" "maxLargest" "J" (.long (12 : Int64))) (SD : Sta Z Z.heap "java/time/temporal/ChronoField" "DAY_OF_MONTH" "Ljava/time/temporal/ChronoField;" (.ref aD)) (ED : Exa Z Z.heap aD "java/time/temporal/ChronoField") (RD : Fld Z Z.heap aD "java/time/temporal/ChronoField" "range" "Ljava/time/temporal/ValueRange;" (.ref rD)) (GD : Exa Z Z.heap rD "java/time/temporal/ValueRange") (MD : Fld Z Z.heap rD "java/time/temporal/ValueRange" "minSmallest" "J" (.long (1 : Int64))) (XD : Fld Z Z.heap rD "java/time/temporal/ValueRange" "maxLargest" "J" (.long (31 : Int64))) (EM : Exa Z Z.heap aM "java/time/Month") (FM : Fld Z Z.heap aM "java/lang/Enum" "ordinal" "I" (.int (2 : Int32))) (SM : Sta Z Z.heap "java/time/Month" "MARCH" "Ljava/time/Month;" (.ref aM)) :
    MetFree l x (head1 (Jvm.Cond.code x code maxLocals ret :: ws) room_1) (fun a U => a = #[(.int p1)] ∧ Z.Warmed39 U.vm ∧ U.heap = h0) (fun _ _ _ _ _ => True) (fun _ U o U' => ∃ v L, o = .returned v ∧ Q0 Z p1 aY rY aO rO aD rD aM h0 n0 v U'.heap L ∧ ReturnedEndW U o U' L room_1.cells room_1.slots) := by
  refine MetFree.of_bodySF (plainFor_of_name pn_0) hisR ?_
  intro p e s m args below meth c s₁ Bd hml0 hP hK
  obtain ⟨rfl, hZ, hh⟩ := hP
  have hx := Bd.exec
  have hby := Bd.bytes
  have hml : c.maxLocals = 19 := hml0
  have hown : s.vm.findClass "com/example/hinta/hinta/HolidayEasterSundayPinLaw" = some m.cls := findClass_of_methodNamed Bd.named
  have hnm := (name_of_methodNamed Bd.named Bd.method).1
  have hlocks : meth.locks = false := BodyLoose.notSynchronized Bd
  have X0 : Stand p l e room_1 s m #[(.int p1)] below meth c s₁ [] 0 0 := Stand.of_body Bd
  have e0 : s₁.heap = h0 := by rw [← hh, Bd.state]; rfl
  have N0 := Fr.nil n0
  show Goes p e below (s₁.setTop (entryFrame m #[(.int p1)] maxLocals)) (FinW s (Q0 Z p1 aY rY aO rO aD rD aM h0 n0) room_1.cells room_1.slots)
  refine Goes.of (fun t k => castTop (ef_0 m p1) k) ?_
  have X0 : Stand p l e room_1 (s.setVm s.vm) m #[(.int p1)] below meth c s₁ [] 0 0 := X0
  have hS0 : s.Since s.vm 0 := (State.WarmedH.refl s).since 0
  have kS0 : 0 ≤ h0.size := Nat.zero_le _
  have hZ : Z.Warmed39 (s.setVm s.vm).vm := hZ
  have hown : (s.setVm s.vm).vm.findClass "com/example/hinta/hinta/HolidayEasterSundayPinLaw" = some m.cls := hown
  show Goes p e below (s₁.setTop (mkF m 0 #[.val (.int p1), .unset, .unset, .unset, .unset, .unset, .unset, .unset, .unset, .unset, .unset, .unset, .unset, .unset, .unset, .unset, .unset, .unset, .unset] [])) _
  refine Goes.of (fun t k => XS.iloadN X0.here hx rfl (hb hby at_0) rfl k) ?_
  show Goes p e below (s₁.setTop (mkF m 1 #[.val (.int p1), .unset, .unset, .unset, .unset, .unset, .unset, .unset, .unset, .unset, .unset, .unset, .unset, .unset, .unset, .unset, .unset, .unset, .unset] [(.int p1)])) _
  refine Goes.of (fun t k => X0.ldcInt hx hown (mvT hZ (wd hw 0 rfl)) (g := (mkF m 1 #[.val (.int p1), .unset, .unset, .unset, .unset, .unset, .unset, .unset, .unset, .unset, .unset, .unset, .unset, .unset, .unset, .unset, .unset, .unset, .unset] [(.int p1)])) rfl (hb hby at_1) _ k) ?_
  show Goes p e below (s₁.setTop (mkF m 3 #[.val (.int p1), .unset, .unset, .unset, .unset, .unset, .unset, .unset, .unset, .unset, .unset, .unset, .unset, .unset, .unset, .unset, .unset, .unset, .unset] [(.int (2147483647 : Int32)), (.int p1)])) _
  refine Goes.of (fun t k => XS.iand X0.here hx rfl (hb hby at_3) rfl k) ?_
  show Goes p e below (s₁.setTop (mkF m 4 #[.val (.int p1), .unset, .unset, .unset, .unset, .unset, .unset, .unset, .unset, .unset, .unset, .unset, .unset, .unset, .unset, .unset, .unset, .unset, .unset] [(.int (p1 &&& (2147483647 : Int32)))])) _
  refine Goes.of (fun t k => X0.ldcInt hx hown (mvT hZ (wd hw 1 rfl)) (g := (mkF m 4 #[.val (.int p1), .unset, .unset, .unset, .unset, .unset, .unset, .unset, .unset, .unset, .unset, .unset, .unset, .unset, .unset, .unset, .unset, .unset, .unset] [(.int (p1 &&& (2147483647 : Int32)))])) rfl (hb hby at_4) _ k) ?_
  show Goes p e below (s₁.setTop (mkF m 6 #[.val (.int p1), .unset, .unset, .unset, .unset, .unset, .unset, .unset, .unset, .unset, .unset, .unset, .unset, .unset, .unset, .unset, .unset, .unset, .unset] [(.int (1000000000 : Int32)), (.int (p1 &&& (2147483647 : Int32)))])) _
  refine Goes.of (fun t k => XS.irem X0.here hx rfl (hb hby at_6) rfl (by decide) k) ?_
  show Goes p e below (s₁.setTop (mkF m 7 #[.val (.int p1), .unset, .unset, .unset, .unset, .unset, .unset, .unset, .unset, .unset, .unset, .unset, .unset, .unset, .unset, .unset, .unset, .unset, .unset] [(.int ((p1 &&& (2147483647 : Int32)) - (p1 &&& (2147483647 : Int32)) / (1000000000 : Int32) * (1000000000 : Int32)))])) _
  refine Goes.of (fun t k => XS.istoreN X0.here hx rfl (hb hby at_7) rfl (l' := #[.val (.int p1), .val (.int ((p1 &&& (2147483647 : Int32)) - (p1 &&& (2147483647 : Int32)) / (1000000000 : Int32) * (1000000000 : Int32))), .unset, .unset, .unset, .unset, .unset, .unset, .unset, .unset, .unset, .unset, .unset, .unset, .unset, .unset, .unset, .unset, .unset]) rfl k) ?_
  show Goes p e below (s₁.setTop (mkF m 8 #[.val (.int p1), .val (.int ((p1 &&& (2147483647 : Int32)) - (p1 &&& (2147483647 : Int32)) / (1000000000 : Int32) * (1000000000 : Int32))), .unset, .unset, .unset, .unset, .unset, .unset, .unset, .unset, .unset, .unset, .unset, .unset, .unset, .unset, .unset, .unset, .unset] [])) _
  show Goes p e below (s₁.setTop (mkF m 8 #[.val (.int p1), .val (.int (own_yr p1)), .unset, .unset, .unset, .unset, .unset, .unset, .unset, .unset, .unset, .unset, .unset, .unset, .unset, .unset, .unset, .unset, .unset] [])) _
  refine Goes.of (fun t k => XS.iloadN X0.here hx rfl (hb hby at_8) rfl k) ?_
  show Goes p e below (s₁.setTop (mkF m 9 #[.val (.int p1), .val (.int (own_yr p1)), .unset, .unset, .unset, .unset, .unset, .unset, .unset, .unset, .unset, .unset, .unset, .unset, .unset, .unset, .unset, .unset, .unset] [(.int (own_yr p1))])) _
  refine Goes.of (fun t k => XS.i2l X0.here hx rfl (hb hby at_9) rfl k) ?_
  show Goes p e below (s₁.setTop (mkF m 10 #[.val (.int p1), .val (.int (own_yr p1)), .unset, .unset, .unset, .unset, .unset, .unset, .unset, .unset, .unset, .unset, .unset, .unset, .unset, .unset, .unset, .unset, .unset] [(.long ((own_yr p1).toInt64))])) _
  refine Goes.of (fun t k => XS.lstoreN X0.here hx rfl (hb hby at_10) rfl (l' := #[.val (.int p1), .val (.int (own_yr p1)), .val (.long ((own_yr p1).toInt64)), .second, .unset, .unset, .unset, .unset, .unset, .unset, .unset, .unset, .unset, .unset, .unset, .unset, .unset, .unset, .unset]) rfl k) ?_
  show Goes p e below (s₁.setTop (mkF m 11 #[.val (.int p1), .val (.int (own_yr p1)), .val (.long ((own_yr p1).toInt64)), .second, .unset, .unset, .unset, .unset, .unset, .unset, .unset, .unset, .unset, .unset, .unset, .unset, .unset, .unset, .unset] [])) _
  refine Goes.of (fun t k => XS.lloadN X0.here hx rfl (hb hby at_11) rfl k) ?_
  show Goes p e below (s₁.setTop (mkF m 12 #[.val (.int p1), .val (.int (own_yr p1)), .val (.long ((own_yr p1).toInt64)), .second, .unset, .unset, .unset, .unset, .unset, .unset, .unset, .unset, .unset, .unset, .unset, .unset, .unset, .unset, .unset] [(.long ((own_yr p1).toInt64))])) _
  refine Goes.of (fun t k => X0.ldc2Long hx hown (mvT hZ (wd hw 2 rfl)) (g := (mkF m 12 #[.val (.int p1), .val (.int (own_yr p1)), .val (.long ((own_yr p1).toInt64)), .second, .unset, .unset, .unset, .unset, .unset, .unset, .unset, .unset, .unset, .unset, .unset, .unset, .unset, .unset, .unset] [(.long ((own_yr p1).toInt64))])) rfl (hb hby at_12) _ k) ?_
  show Goes p e below (s₁.setTop (mkF m 15 #[.val (.int p1), .val (.int (own_yr p1)), .val (.long ((own_yr p1).toInt64)), .second, .unset, .unset, .unset, .unset, .unset, .unset, .unset, .unset, .unset, .unset, .unset, .unset, .unset, .unset, .unset] [(.long (19 : Int64)), (.long ((own_yr p1).toInt64))])) _
  refine Goes.of (fun t k => XS.lrem X0.here hx rfl (hb hby at_15) rfl (by decide) k) ?_
  show Goes p e below (s₁.setTop (mkF m 16 #[.val (.int p1), .val (.int (own_yr p1)), .val (.long ((own_yr p1).toInt64)), .second, .unset, .unset, .unset, .unset, .unset, .unset, .unset, .unset, .unset, .unset, .unset, .unset, .unset, .unset, .unset] [(.long (((own_yr p1).toInt64) - ((own_yr p1).toInt64) / (19 : Int64) * (19 : Int64)))])) _
  refine Goes.of (fun t k => XS.lconst X0.here hx rfl (hb hby at_16) k) ?_
  show Goes p e below (s₁.setTop (mkF m 17 #[.val (.int p1), .val (.int (own_yr p1)), .val (.long ((own_yr p1).toInt64)), .second, .unset, .unset, .unset, .unset, .unset, .unset, .unset, .unset, .unset, .unset, .unset, .unset, .unset, .unset, .unset] [(.long (1 : Int64)), (.long (((own_yr p1).toInt64) - ((own_yr p1).toInt64) / (19 : Int64) * (19 : Int64)))])) _
  refine Goes.of (fun t k => XS.ladd X0.here hx rfl (hb hby at_17) rfl k) ?_
  show Goes p e below (s₁.setTop (mkF m 18 #[.val (.int p1), .val (.int (own_yr p1)), .val (.long ((own_yr p1).toInt64)), .second, .unset, .unset, .unset, .unset, .unset, .unset, .unset, .unset, .unset, .unset, .unset, .unset, .unset, .unset, .unset] [(.long ((((own_yr p1).toInt64) - ((own_yr p1).toInt64) / (19 : Int64) * (19 : Int64)) + (1 : Int64)))])) _
  refine Goes.of (fun t k => XS.lstore X0.here hx rfl (hb hby at_18) rfl (l' := #[.val (.int p1), .val (.int (own_yr p1)), .val (.long ((own_yr p1).toInt64)), .second, .val (.long ((((own_yr p1).toInt64) - ((own_yr p1).toInt64) / (19 : Int64) * (19 : Int64)) + (1 : Int64))), .second, .unset, .unset, .unset, .unset, .unset, .unset, .unset, .unset, .unset, .unset, .unset, .unset, .unset]) rfl k) ?_
  show Goes p e below (s₁.setTop (mkF m 20 #[.val (.int p1), .val (.int (own_yr p1)), .val (.long ((own_yr p1).toInt64)), .second, .val (.long ((((own_yr p1).toInt64) - ((own_yr p1).toInt64) / (19 : Int64) * (19 : Int64)) + (1 : Int64))), .second, .unset, .unset, .unset, .unset, .unset, .unset, .unset, .unset, .unset, .unset, .unset, .unset, .unset] [])) _
  show Goes p e below (s₁.setTop (mkF m 20 #[.val (.int p1), .val (.int (own_yr p1)), .val (.long ((own_yr p1).toInt64)), .second, .val (.long (own_lg ((own_yr p1).toInt64))), .second, .unset, .unset, .unset, .unset, .unset, .unset, .unset, .unset, .unset, .unset, .unset, .unset, .unset] [])) _
  refine Goes.of (fun t k => XS.lloadN X0.here hx rfl (hb hby at_20) rfl k) ?_
  show Goes p e below (s₁.setTop (mkF m 21 #[.val (.int p1), .val (.int (own_yr p1)), .val (.long ((own_yr p1).toInt64)), .second, .val (.long (own_lg ((own_yr p1).toInt64))), .second, .unset, .unset, .unset, .unset, .unset, .unset, .unset, .unset, .unset, .unset, .unset, .unset, .unset] [(.long ((own_yr p1).toInt64))])) _
  refine Goes.of (fun t k => X0.ldc2Long hx hown (mvT hZ (wd hw 3 rfl)) (g := (mkF m 21 #[.val (.int p1), .val (.int (own_yr p1)), .val (.long ((own_yr p1).toInt64)), .second, .val (.long (own_lg ((own_yr p1).toInt64))), .second, .unset, .unset, .unset, .unset, .unset, .unset, .unset, .unset, .unset, .unset, .unset, .unset, .unset] [(.long ((own_yr p1).toInt64))])) rfl (hb hby at_21) _ k) ?_
  show Goes p e below (s₁.setTop (mkF m 24 #[.val (.int p1), .val (.int (own_yr p1)), .val (.long ((own_yr p1).toInt64)), .second, .val (.long (own_lg ((own_yr p1).toInt64))), .second, .unset, .unset, .unset, .unset, .unset, .unset, .unset, .unset, .unset, .unset, .unset, .unset, .unset] [(.long (100 : Int64)), (.long ((own_yr p1).toInt64))])) _
  refine Goes.of (fun t k => XS.ldiv X0.here hx rfl (hb hby at_24) rfl (by decide) k) ?_
  show Goes p e below (s₁.setTop (mkF m 25 #[.val (.int p1), .val (.int (own_yr p1)), .val (.long ((own_yr p1).toInt64)), .second, .val (.long (own_lg ((own_yr p1).toInt64))), .second, .unset, .unset, .unset, .unset, .unset, .unset, .unset, .unset, .unset, .unset, .unset, .unset, .unset] [(.long (((own_yr p1).toInt64) / (100 : Int64)))])) _
  refine Goes.of (fun t k => XS.lconst X0.here hx rfl (hb hby at_25) k) ?_
  show Goes p e below (s₁.setTop (mkF m 26 #[.val (.int p1), .val (.int (own_yr p1)), .val (.long ((own_yr p1).toInt64)), .second, .val (.long (own_lg ((own_yr p1).toInt64))), .second, .unset, .unset, .unset, .unset, .unset, .unset, .unset, .unset, .unset, .unset, .unset, .unset, .unset] [(.long (1 : Int64)), (.long (((own_yr p1).toInt64) / (100 : Int64)))])) _
  refine Goes.of (fun t k => XS.ladd X0.here hx rfl (hb hby at_26) rfl k) ?_
  show Goes p e below (s₁.setTop (mkF m 27 #[.val (.int p1), .val (.int (own_yr p1)), .val (.long ((own_yr p1).toInt64)), .second, .val (.long (own_lg ((own_yr p1).toInt64))), .second, .unset, .unset, .unset, .unset, .unset, .unset, .unset, .unset, .unset, .unset, .unset, .unset, .unset] [(.long ((((own_yr p1).toInt64) / (100 : Int64)) + (1 : Int64)))])) _
  refine Goes.of (fun t k => XS.lstore X0.here hx rfl (hb hby at_27) rfl (l' := #[.val (.int p1), .val (.int (own_yr p1)), .val (.long ((own_yr p1).toInt64)), .second, .val (.long (own_lg ((own_yr p1).toInt64))), .second, .val (.long ((((own_yr p1).toInt64) / (100 : Int64)) + (1 : Int64))), .second, .unset, .unset, .unset, .unset, .unset, .unset, .unset, .unset, .unset, .unset, .unset]) rfl k) ?_
  show Goes p e below (s₁.setTop (mkF m 29 #[.val (.int p1), .val (.int (own_yr p1)), .val (.long ((own_yr p1).toInt64)), .second, .val (.long (own_lg ((own_yr p1).toInt64))), .second, .val (.long ((((own_yr p1).toInt64) / (100 : Int64)) + (1 : Int64))), .second, .unset, .unset, .unset, .unset, .unset, .unset, .unset, .unset, .unset, .unset, .unset] [])) _
  show Goes p e below (s₁.setTop (mkF m 29 #[.val (.int p1), .val (.int (own_yr p1)), .val (.long ((own_yr p1).toInt64)), .second, .val (.long (own_lg ((own_yr p1).toInt64))), .second, .val (.long (own_lc ((own_yr p1).toInt64))), .second, .unset, .unset, .unset, .unset, .unset, .unset, .unset, .unset, .unset, .unset, .unset] [])) _
  refine Goes.of (fun t k => X0.ldc2Long hx hown (mvT hZ (wd hw 4 rfl)) (g := (mkF m 29 #[.val (.int p1), .val (.int (own_yr p1)), .val (.long ((own_yr p1).toInt64)), .second, .val (.long (own_lg ((own_yr p1).toInt64))), .second, .val (.long (own_lc ((own_yr p1).toInt64))), .second, .unset, .unset, .unset, .unset, .unset, .unset, .unset, .unset, .unset, .unset, .unset] [])) rfl (hb hby at_29) _ k) ?_
  show Goes p e below (s₁.setTop (mkF m 32 #[.val (.int p1), .val (.int (own_yr p1)), .val (.long ((own_yr p1).toInt64)), .second, .val (.long (own_lg ((own_yr p1).toInt64))), .second, .val (.long (own_lc ((own_yr p1).toInt64))), .second, .unset, .unset, .unset, .unset, .unset, .unset, .unset, .unset, .unset, .unset, .unset] [(.long (3 : Int64))])) _
  refine Goes.of (fun t k => XS.lload X0.here hx rfl (hb hby at_32) rfl k) ?_
  show Goes p e below (s₁.setTop (mkF m 34 #[.val (.int p1), .val (.int (own_yr p1)), .val (.long ((own_yr p1).toInt64)), .second, .val (.long (own_lg ((own_yr p1).toInt64))), .second, .val (.long (own_lc ((own_yr p1).toInt64))), .second, .unset, .unset, .unset, .unset, .unset, .unset, .unset, .unset, .unset, .unset, .unset] [(.long (own_lc ((own_yr p1).toInt64))), (.long (3 : Int64))])) _
  refine Goes.of (fun t k => XS.lmul X0.here hx rfl (hb hby at_34) rfl k) ?_
  show Goes p e below (s₁.setTop (mkF m 35 #[.val (.int p1), .val (.int (own_yr p1)), .val (.long ((own_yr p1).toInt64)), .second, .val (.long (own_lg ((own_yr p1).toInt64))), .second, .val (.long (own_lc ((own_yr p1).toInt64))), .second, .unset, .unset, .unset, .unset, .unset, .unset, .unset, .unset, .unset, .unset, .unset] [(.long ((3 : Int64) * (own_lc ((own_yr p1).toInt64))))])) _
  refine Goes.of (fun t k => X0.ldc2Long hx hown (mvT hZ (wd hw 5 rfl)) (g := (mkF m 35 #[.val (.int p1), .val (.int (own_yr p1)), .val (.long ((own_yr p1).toInt64)), .second, .val (.long (own_lg ((own_yr p1).toInt64))), .second, .val (.long (own_lc ((own_yr p1).toInt64))), .second, .unset, .unset, .unset, .unset, .unset, .unset, .unset, .unset, .unset, .unset, .unset] [(.long ((3 : Int64) * (own_lc ((own_yr p1).toInt64))))])) rfl (hb hby at_35) _ k) ?_
  show Goes p e below (s₁.setTop (mkF m 38 #[.val (.int p1), .val (.int (own_yr p1)), .val (.long ((own_yr p1).toInt64)), .second, .val (.long (own_lg ((own_yr p1).toInt64))), .second, .val (.long (own_lc ((own_yr p1).toInt64))), .second, .unset, .unset, .unset, .unset, .unset, .unset, .unset, .unset, .unset, .unset, .unset] [(.long (4 : Int64)), (.long ((3 : Int64) * (own_lc ((own_yr p1).toInt64))))])) _
  refine Goes.of (fun t k => XS.ldiv X0.here hx rfl (hb hby at_38) rfl (by decide) k) ?_
  show Goes p e below (s₁.setTop (mkF m 39 #[.val (.int p1), .val (.int (own_yr p1)), .val (.long ((own_yr p1).toInt64)), .second, .val (.long (own_lg ((own_yr p1).toInt64))), .second, .val (.long (own_lc ((own_yr p1).toInt64))), .second, .unset, .unset, .unset, .unset, .unset, .unset, .unset, .unset, .unset, .unset, .unset] [(.long (((3 : Int64) * (own_lc ((own_yr p1).toInt64))) / (4 : Int64)))])) _
  refine Goes.of (fun t k => X0.ldc2Long hx hown (mvT hZ (wd hw 6 rfl)) (g := (mkF m 39 #[.val (.int p1), .val (.int (own_yr p1)), .val (.long ((own_yr p1).toInt64)), .second, .val (.long (own_lg ((own_yr p1).toInt64))), .second, .val (.long (own_lc ((own_yr p1).toInt64))), .second, .unset, .unset, .unset, .unset, .unset, .unset, .unset, .unset, .unset, .unset, .unset] [(.long (((3 : Int64) * (own_lc ((own_yr p1).toInt64))) / (4 : Int64)))])) rfl (hb hby at_39) _ k) ?_
  show Goes p e below (s₁.setTop (mkF m 42 #[.val (.int p1), .val (.int (own_yr p1)), .val (.long ((own_yr p1).toInt64)), .second, .val (.long (own_lg ((own_yr p1).toInt64))), .second, .val (.long (own_lc ((own_yr p1).toInt64))), .second, .unset, .unset, .unset, .unset, .unset, .unset, .unset, .unset, .unset, .unset, .unset] [(.long (12 : Int64)), (.long (((3 : Int64) * (own_lc ((own_yr p1).toInt64))) / (4 : Int64)))])) _
  refine Goes.of (fun t k => XS.lsub X0.here hx rfl (hb hby at_42) rfl k) ?_
  show Goes p e below (s₁.setTop (mkF m 43 #[.val (.int p1), .val (.int (own_yr p1)), .val (.long ((own_yr p1).toInt64)), .second, .val (.long (own_lg ((own_yr p1).toInt64))), .second, .val (.long (own_lc ((own_yr p1).toInt64))), .second, .unset, .unset, .unset, .unset, .unset, .unset, .unset, .unset, .unset, .unset, .unset] [(.long ((((3 : Int64) * (own_lc ((own_yr p1).toInt64))) / (4 : Int64)) - (12 : Int64)))])) _
  refine Goes.of (fun t k => XS.lstore X0.here hx rfl (hb hby at_43) rfl (l' := #[.val (.int p1), .val (.int (own_yr p1)), .val (.long ((own_yr p1).toInt64)), .second, .val (.long (own_lg ((own_yr p1).toInt64))), .second, .val (.long (own_lc ((own_yr p1).toInt64))), .second, .val (.long ((((3 : Int64) * (own_lc ((own_yr p1).toInt64))) / (4 : Int64)) - (12 : Int64))), .second, .unset, .unset, .unset, .unset, .unset, .unset, .unset, .unset, .unset]) rfl k) ?_
  show Goes p e below (s₁.setTop (mkF m 45 #[.val (.int p1), .val (.int (own_yr p1)), .val (.long ((own_yr p1).toInt64)), .second, .val (.long (own_lg ((own_yr p1).toInt64))), .second, .val (.long (own_lc ((own_yr p1).toInt64))), .second, .val (.long ((((3 : Int64) * (own_lc ((own_yr p1).toInt64))) / (4 : Int64)) - (12 : Int64))), .second, .unset, .unset, .unset, .unset, .unset, .unset, .unset, .unset, .unset] [])) _
  show Goes p e below (s₁.setTop (mkF m 45 #[.val (.int p1), .val (.int (own_yr p1)), .val (.long ((own_yr p1).toInt64)), .second, .val (.long (own_lg ((own_yr p1).toInt64))), .second, .val (.long (own_lc ((own_yr p1).toInt64))), .second, .val (.long (own_lx ((own_yr p1).toInt64))), .second, .unset, .unset, .unset, .unset, .unset, .unset, .unset, .unset, .unset] [])) _
  refine Goes.of (fun t k => X0.ldc2Long hx hown (mvT hZ (wd hw 7 rfl)) (g := (mkF m 45 #[.val (.int p1), .val (.int (own_yr p1)), .val (.long ((own_yr p1).toInt64)), .second, .val (.long (own_lg ((own_yr p1).toInt64))), .second, .val (.long (own_lc ((own_yr p1).toInt64))), .second, .val (.long (own_lx ((own_yr p1).toInt64))), .second, .unset, .unset, .unset, .unset, .unset, .unset, .unset, .unset, .unset] [])) rfl (hb hby at_45) _ k) ?_
  show Goes p e below (s₁.setTop (mkF m 48 #[.val (.int p1), .val (.int (own_yr p1)), .val (.long ((own_yr p1).toInt64)), .second, .val (.long (own_lg ((own_yr p1).toInt64))), .second, .val (.long (own_lc ((own_yr p1).toInt64))), .second, .val (.long (own_lx ((own_yr p1).toInt64))), .second, .unset, .unset, .unset, .unset, .unset, .unset, .unset, .unset, .unset] [(.long (8 : Int64))])) _
  refine Goes.of (fun t k => XS.lload X0.here hx rfl (hb hby at_48) rfl k) ?_
  show Goes p e below (s₁.setTop (mkF m 50 #[.val (.int p1), .val (.int (own_yr p1)), .val (.long ((own_yr p1).toInt64)), .second, .val (.long (own_lg ((own_yr p1).toInt64))), .second, .val (.long (own_lc ((own_yr p1).toInt64))), .second, .val (.long (own_lx ((own_yr p1).toInt64))), .second, .unset, .unset, .unset, .unset, .unset, .unset, .unset, .unset, .unset] [(.long (own_lc ((own_yr p1).toInt64))), (.long (8 : Int64))])) _
  refine Goes.of (fun t k => XS.lmul X0.here hx rfl (hb hby at_50) rfl k) ?_
  show Goes p e below (s₁.setTop (mkF m 51 #[.val (.int p1), .val (.int (own_yr p1)), .val (.long ((own_yr p1).toInt64)), .second, .val (.long (own_lg ((own_yr p1).toInt64))), .second, .val (.long (own_lc ((own_yr p1).toInt64))), .second, .val (.long (own_lx ((own_yr p1).toInt64))), .second, .unset, .unset, .unset, .unset, .unset, .unset, .unset, .unset, .unset] [(.long ((8 : Int64) * (own_lc ((own_yr p1).toInt64))))])) _
  refine Goes.of (fun t k => X0.ldc2Long hx hown (mvT hZ (wd hw 8 rfl)) (g := (mkF m 51 #[.val (.int p1), .val (.int (own_yr p1)), .val (.long ((own_yr p1).toInt64)), .second, .val (.long (own_lg ((own_yr p1).toInt64))), .second, .val (.long (own_lc ((own_yr p1).toInt64))), .second, .val (.long (own_lx ((own_yr p1).toInt64))), .second, .unset, .unset, .unset, .unset, .unset, .unset, .unset, .unset, .unset] [(.long ((8 : Int64) * (own_lc ((own_yr p1).toInt64))))])) rfl (hb hby at_51) _ k) ?_
  show Goes p e below (s₁.setTop (mkF m 54 #[.val (.int p1), .val (.int (own_yr p1)), .val (.long ((own_yr p1).toInt64)), .second, .val (.long (own_lg ((own_yr p1).toInt64))), .second, .val (.long (own_lc ((own_yr p1).toInt64))), .second, .val (.long (own_lx ((own_yr p1).toInt64))), .second, .unset, .unset, .unset, .unset, .unset, .unset, .unset, .unset, .unset] [(.long (5 : Int64)), (.long ((8 : Int64) * (own_lc ((own_yr p1).toInt64))))])) _
  refine Goes.of (fun t k => XS.ladd X0.here hx rfl (hb hby at_54) rfl k) ?_
  show Goes p e below (s₁.setTop (mkF m 55 #[.val (.int p1), .val (.int (own_yr p1)), .val (.long ((own_yr p1).toInt64)), .second, .val (.long (own_lg ((own_yr p1).toInt64))), .second, .val (.long (own_lc ((own_yr p1).toInt64))), .second, .val (.long (own_lx ((own_yr p1).toInt64))), .second, .unset, .unset, .unset, .unset, .unset, .unset, .unset, .unset, .unset] [(.long (((8 : Int64) * (own_lc ((own_yr p1).toInt64))) + (5 : Int64)))])) _
  refine Goes.of (fun t k => X0.ldc2Long hx hown (mvT hZ (wd hw 9 rfl)) (g := (mkF m 55 #[.val (.int p1), .val (.int (own_yr p1)), .val (.long ((own_yr p1).toInt64)), .second, .val (.long (own_lg ((own_yr p1).toInt64))), .second, .val (.long (own_lc ((own_yr p1).toInt64))), .second, .val (.long (own_lx ((own_yr p1).toInt64))), .second, .unset, .unset, .unset, .unset, .unset, .unset, .unset, .unset, .unset] [(.long (((8 : Int64) * (own_lc ((own_yr p1).toInt64))) + (5 : Int64)))])) rfl (hb hby at_55) _ k) ?_
  show Goes p e below (s₁.setTop (mkF m 58 #[.val (.int p1), .val (.int (own_yr p1)), .val (.long ((own_yr p1).toInt64)), .second, .val (.long (own_lg ((own_yr p1).toInt64))), .second, .val (.long (own_lc ((own_yr p1).toInt64))), .second, .val (.long (own_lx ((own_yr p1).toInt64))), .second, .unset, .unset, .unset, .unset, .unset, .unset, .unset, .unset, .unset] [(.long (25 : Int64)), (.long (((8 : Int64) * (own_lc ((own_yr p1).toInt64))) + (5 : Int64)))])) _
  refine Goes.of (fun t k => XS.ldiv X0.here hx rfl (hb hby at_58) rfl (by decide) k) ?_
  show Goes p e below (s₁.setTop (mkF m 59 #[.val (.int p1), .val (.int (own_yr p1)), .val (.long ((own_yr p1).toInt64)), .second, .val (.long (own_lg ((own_yr p1).toInt64))), .second, .val (.long (own_lc ((own_yr p1).toInt64))), .second, .val (.long (own_lx ((own_yr p1).toInt64))), .second, .unset, .unset, .unset, .unset, .unset, .unset, .unset, .unset, .unset] [(.long ((((8 : Int64) * (own_lc ((own_yr p1).toInt64))) + (5 : Int64)) / (25 : Int64)))])) _
  refine Goes.of (fun t k => X0.ldc2Long hx hown (mvT hZ (wd hw 8 rfl)) (g := (mkF m 59 #[.val (.int p1), .val (.int (own_yr p1)), .val (.long ((own_yr p1).toInt64)), .second, .val (.long (own_lg ((own_yr p1).toInt64))), .second, .val (.long (own_lc ((own_yr p1).toInt64))), .second, .val (.long (own_lx ((own_yr p1).toInt64))), .second, .unset, .unset, .unset, .unset, .unset, .unset, .unset, .unset, .unset] [(.long ((((8 : Int64) * (own_lc ((own_yr p1).toInt64))) + (5 : Int64)) / (25 : Int64)))])) rfl (hb hby at_59) _ k) ?_
  show Goes p e below (s₁.setTop (mkF m 62 #[.val (.int p1), .val (.int (own_yr p1)), .val (.long ((own_yr p1).toInt64)), .second, .val (.long (own_lg ((own_yr p1).toInt64))), .second, .val (.long (own_lc ((own_yr p1).toInt64))), .second, .val (.long (own_lx ((own_yr p1).toInt64))), .second, .unset, .unset, .unset, .unset, .unset, .unset, .unset, .unset, .unset] [(.long (5 : Int64)), (.long ((((8 : Int64) * (own_lc ((own_yr p1).toInt64))) + (5 : Int64)) / (25 : Int64)))])) _
  refine Goes.of (fun t k => XS.lsub X0.here hx rfl (hb hby at_62) rfl k) ?_
  show Goes p e below (s₁.setTop (mkF m 63 #[.val (.int p1), .val (.int (own_yr p1)), .val (.long ((own_yr p1).toInt64)), .second, .val (.long (own_lg ((own_yr p1).toInt64))), .second, .val (.long (own_lc ((own_yr p1).toInt64))), .second, .val (.long (own_lx ((own_yr p1).toInt64))), .second, .unset, .unset, .unset, .unset, .unset, .unset, .unset, .unset, .unset] [(.long (((((8 : Int64) * (own_lc ((own_yr p1).toInt64))) + (5 : Int64)) / (25 : Int64)) - (5 : Int64)))])) _
  refine Goes.of (fun t k => XS.lstore X0.here hx rfl (hb hby at_63) rfl (l' := #[.val (.int p1), .val (.int (own_yr p1)), .val (.long ((own_yr p1).toInt64)), .second, .val (.long (own_lg ((own_yr p1).toInt64))), .second, .val (.long (own_lc ((own_yr p1).toInt64))), .second, .val (.long (own_lx ((own_yr p1).toInt64))), .second, .val (.long (((((8 : Int64) * (own_lc ((own_yr p1).toInt64))) + (5 : Int64)) / (25 : Int64)) - (5 : Int64))), .second, .unset, .unset, .unset, .unset, .unset, .unset, .unset]) rfl k) ?_
  show Goes p e below (s₁.setTop (mkF m 65 #[.val (.int p1), .val (.int (own_yr p1)), .val (.long ((own_yr p1).toInt64)), .second, .val (.long (own_lg ((own_yr p1).toInt64))), .second, .val (.long (own_lc ((own_yr p1).toInt64))), .second, .val (.long (own_lx ((own_yr p1).toInt64))), .second, .val (.long (((((8 : Int64) * (own_lc ((own_yr p1).toInt64))) + (5 : Int64)) / (25 : Int64)) - (5 : Int64))), .second, .unset, .unset, .unset, .unset, .unset, .unset, .unset] [])) _
  show Goes p e below (s₁.setTop (mkF m 65 #[.val (.int p1), .val (.int (own_yr p1)), .val (.long ((own_yr p1).toInt64)), .second, .val (.long (own_lg ((own_yr p1).toInt64))), .second, .val (.long (own_lc ((own_yr p1).toInt64))), .second, .val (.long (own_lx ((own_yr p1).toInt64))), .second, .val (.long (own_lz ((own_yr p1).toInt64))), .second, .unset, .unset, .unset, .unset, .unset, .unset, .unset] [])) _
  refine Goes.of (fun t k => X0.ldc2Long hx hown (mvT hZ (wd hw 8 rfl)) (g := (mkF m 65 #[.val (.int p1), .val (.int (own_yr p1)), .val (.long ((own_yr p1).toInt64)), .second, .val (.long (own_lg ((own_yr p1).toInt64))), .second, .val (.long (own_lc ((own_yr p1).toInt64))), .second, .val (.long (own_lx ((own_yr p1).toInt64))), .second, .val (.long (own_lz ((own_yr p1).toInt64))), .second, .unset, .unset, .unset, .unset, .unset, .unset, .unset] [])) rfl (hb hby at_65) _ k) ?_
  show Goes p e below (s₁.setTop (mkF m 68 #[.val (.int p1), .val (.int (own_yr p1)), .val (.long ((own_yr p1).toInt64)), .second, .val (.long (own_lg ((own_yr p1).toInt64))), .second, .val (.long (own_lc ((own_yr p1).toInt64))), .second, .val (.long (own_lx ((own_yr p1).toInt64))), .second, .val (.long (own_lz ((own_yr p1).toInt64))), .second, .unset, .unset, .unset, .unset, .unset, .unset, .unset] [(.long (5 : Int64))])) _
  refine Goes.of (fun t k => XS.lloadN X0.here hx rfl (hb hby at_68) rfl k) ?_
  show Goes p e below (s₁.setTop (mkF m 69 #[.val (.int p1), .val (.int (own_yr p1)), .val (.long ((own_yr p1).toInt64)), .second, .val (.long (own_lg ((own_yr p1).toInt64))), .second, .val (.long (own_lc ((own_yr p1).toInt64))), .second, .val (.long (own_lx ((own_yr p1).toInt64))), .second, .val (.long (own_lz ((own_yr p1).toInt64))), .second, .unset, .unset, .unset, .unset, .unset, .unset, .unset] [(.long ((own_yr p1).toInt64)), (.long (5 : Int64))])) _
  refine Goes.of (fun t k => XS.lmul X0.here hx rfl (hb hby at_69) rfl k) ?_
  show Goes p e below (s₁.setTop (mkF m 70 #[.val (.int p1), .val (.int (own_yr p1)), .val (.long ((own_yr p1).toInt64)), .second, .val (.long (own_lg ((own_yr p1).toInt64))), .second, .val (.long (own_lc ((own_yr p1).toInt64))), .second, .val (.long (own_lx ((own_yr p1).toInt64))), .second, .val (.long (own_lz ((own_yr p1).toInt64))), .second, .unset, .unset, .unset, .unset, .unset, .unset, .unset] [(.long ((5 : Int64) * ((own_yr p1).toInt64)))])) _
  refine Goes.of (fun t k => X0.ldc2Long hx hown (mvT hZ (wd hw 5 rfl)) (g := (mkF m 70 #[.val (.int p1), .val (.int (own_yr p1)), .val (.long ((own_yr p1).toInt64)), .second, .val (.long (own_lg ((own_yr p1).toInt64))), .second, .val (.long (own_lc ((own_yr p1).toInt64))), .second, .val (.long (own_lx ((own_yr p1).toInt64))), .second, .val (.long (own_lz ((own_yr p1).toInt64))), .second, .unset, .unset, .unset, .unset, .unset, .unset, .unset] [(.long ((5 : Int64) * ((own_yr p1).toInt64)))])) rfl (hb hby at_70) _ k) ?_
  show Goes p e below (s₁.setTop (mkF m 73 #[.val (.int p1), .val (.int (own_yr p1)), .val (.long ((own_yr p1).toInt64)), .second, .val (.long (own_lg ((own_yr p1).toInt64))), .second, .val (.long (own_lc ((own_yr p1).toInt64))), .second, .val (.long (own_lx ((own_yr p1).toInt64))), .second, .val (.long (own_lz ((own_yr p1).toInt64))), .second, .unset, .unset, .unset, .unset, .unset, .unset, .unset] [(.long (4 : Int64)), (.long ((5 : Int64) * ((own_yr p1).toInt64)))])) _
  refine Goes.of (fun t k => XS.ldiv X0.here hx rfl (hb hby at_73) rfl (by decide) k) ?_
  show Goes p e below (s₁.setTop (mkF m 74 #[.val (.int p1), .val (.int (own_yr p1)), .val (.long ((own_yr p1).toInt64)), .second, .val (.long (own_lg ((own_yr p1).toInt64))), .second, .val (.long (own_lc ((own_yr p1).toInt64))), .second, .val (.long (own_lx ((own_yr p1).toInt64))), .second, .val (.long (own_lz ((own_yr p1).toInt64))), .second, .unset, .unset, .unset, .unset, .unset, .unset, .unset] [(.long (((5 : Int64) * ((own_yr p1).toInt64)) / (4 : Int64)))])) _
  refine Goes.of (fun t k => XS.lload X0.here hx rfl (hb hby at_74) rfl k) ?_
  show Goes p e below (s₁.setTop (mkF m 76 #[.val (.int p1), .val (.int (own_yr p1)), .val (.long ((own_yr p1).toInt64)), .second, .val (.long (own_lg ((own_yr p1).toInt64))), .second, .val (.long (own_lc ((own_yr p1).toInt64))), .second, .val (.long (own_lx ((own_yr p1).toInt64))), .second, .val (.long (own_lz ((own_yr p1).toInt64))), .second, .unset, .unset, .unset, .unset, .unset, .unset, .unset] [(.long (own_lx ((own_yr p1).toInt64))), (.long (((5 : Int64) * ((own_yr p1).toInt64)) / (4 : Int64)))])) _
  refine Goes.of (fun t k => XS.lsub X0.here hx rfl (hb hby at_76) rfl k) ?_
  show Goes p e below (s₁.setTop (mkF m 77 #[.val (.int p1), .val (.int (own_yr p1)), .val (.long ((own_yr p1).toInt64)), .second, .val (.long (own_lg ((own_yr p1).toInt64))), .second, .val (.long (own_lc ((own_yr p1).toInt64))), .second, .val (.long (own_lx ((own_yr p1).toInt64))), .second, .val (.long (own_lz ((own_yr p1).toInt64))), .second, .unset, .unset, .unset, .unset, .unset, .unset, .unset] [(.long ((((5 : Int64) * ((own_yr p1).toInt64)) / (4 : Int64)) - (own_lx ((own_yr p1).toInt64))))])) _
  refine Goes.of (fun t k => X0.ldc2Long hx hown (mvT hZ (wd hw 10 rfl)) (g := (mkF m 77 #[.val (.int p1), .val (.int (own_yr p1)), .val (.long ((own_yr p1).toInt64)), .second, .val (.long (own_lg ((own_yr p1).toInt64))), .second, .val (.long (own_lc ((own_yr p1).toInt64))), .second, .val (.long (own_lx ((own_yr p1).toInt64))), .second, .val (.long (own_lz ((own_yr p1).toInt64))), .second, .unset, .unset, .unset, .unset, .unset, .unset, .unset] [(.long ((((5 : Int64) * ((own_yr p1).toInt64)) / (4 : Int64)) - (own_lx ((own_yr p1).toInt64))))])) rfl (hb hby at_77) _ k) ?_
  show Goes p e below (s₁.setTop (mkF m 80 #[.val (.int p1), .val (.int (own_yr p1)), .val (.long ((own_yr p1).toInt64)), .second, .val (.long (own_lg ((own_yr p1).toInt64))), .second, .val (.long (own_lc ((own_yr p1).toInt64))), .second, .val (.long (own_lx ((own_yr p1).toInt64))), .second, .val (.long (own_lz ((own_yr p1).toInt64))), .second, .unset, .unset, .unset, .unset, .unset, .unset, .unset] [(.long (10 : Int64)), (.long ((((5 : Int64) * ((own_yr p1).toInt64)) / (4 : Int64)) - (own_lx ((own_yr p1).toInt64))))])) _
  refine Goes.of (fun t k => XS.lsub X0.here hx rfl (hb hby at_80) rfl k) ?_
  show Goes p e below (s₁.setTop (mkF m 81 #[.val (.int p1), .val (.int (own_yr p1)), .val (.long ((own_yr p1).toInt64)), .second, .val (.long (own_lg ((own_yr p1).toInt64))), .second, .val (.long (own_lc ((own_yr p1).toInt64))), .second, .val (.long (own_lx ((own_yr p1).toInt64))), .second, .val (.long (own_lz ((own_yr p1).toInt64))), .second, .unset, .unset, .unset, .unset, .unset, .unset, .unset] [(.long (((((5 : Int64) * ((own_yr p1).toInt64)) / (4 : Int64)) - (own_lx ((own_yr p1).toInt64))) - (10 : Int64)))])) _
  refine Goes.of (fun t k => XS.lstore X0.here hx rfl (hb hby at_81) rfl (l' := #[.val (.int p1), .val (.int (own_yr p1)), .val (.long ((own_yr p1).toInt64)), .second, .val (.long (own_lg ((own_yr p1).toInt64))), .second, .val (.long (own_lc ((own_yr p1).toInt64))), .second, .val (.long (own_lx ((own_yr p1).toInt64))), .second, .val (.long (own_lz ((own_yr p1).toInt64))), .second, .val (.long (((((5 : Int64) * ((own_yr p1).toInt64)) / (4 : Int64)) - (own_lx ((own_yr p1).toInt64))) - (10 : Int64))), .second, .unset, .unset, .unset, .unset, .unset]) rfl k) ?_
  show Goes p e below (s₁.setTop (mkF m 83 #[.val (.int p1), .val (.int (own_yr p1)), .val (.long ((own_yr p1).toInt64)), .second, .val (.long (own_lg ((own_yr p1).toInt64))), .second, .val (.long (own_lc ((own_yr p1).toInt64))), .second, .val (.long (own_lx ((own_yr p1).toInt64))), .second, .val (.long (own_lz ((own_yr p1).toInt64))), .second, .val (.long (((((5 : Int64) * ((own_yr p1).toInt64)) / (4 : Int64)) - (own_lx ((own_yr p1).toInt64))) - (10 : Int64))), .second, .unset, .unset, .unset, .unset, .unset] [])) _
  show Goes p e below (s₁.setTop (mkF m 83 #[.val (.int p1), .val (.int (own_yr p1)), .val (.long ((own_yr p1).toInt64)), .second, .val (.long (own_lg ((own_yr p1).toInt64))), .second, .val (.long (own_lc ((own_yr p1).toInt64))), .second, .val (.long (own_lx ((own_yr p1).toInt64))), .second, .val (.long (own_lz ((own_yr p1).toInt64))), .second, .val (.long (own_ld ((own_yr p1).toInt64))), .second, .unset, .unset, .unset, .unset, .unset] [])) _
  refine Goes.of (fun t k => X0.ldc2Long hx hown (mvT hZ (wd hw 11 rfl)) (g := (mkF m 83 #[.val (.int p1), .val (.int (own_yr p1)), .val (.long ((own_yr p1).toInt64)), .second, .val (.long (own_lg ((own_yr p1).toInt64))), .second, .val (.long (own_lc ((own_yr p1).toInt64))), .second, .val (.long (own_lx ((own_yr p1).toInt64))), .second, .val (.long (own_lz ((own_yr p1).toInt64))), .second, .val (.long (own_ld ((own_yr p1).toInt64))), .second, .unset, .unset, .unset, .unset, .unset] [])) rfl (hb hby at_83) _ k) ?_
  show Goes p e below (s₁.setTop (mkF m 86 #[.val (.int p1), .val (.int (own_yr p1)), .val (.long ((own_yr p1).toInt64)), .second, .val (.long (own_lg ((own_yr p1).toInt64))), .second, .val (.long (own_lc ((own_yr p1).toInt64))), .second, .val (.long (own_lx ((own_yr p1).toInt64))), .second, .val (.long (own_lz ((own_yr p1).toInt64))), .second, .val (.long (own_ld ((own_yr p1).toInt64))), .second, .unset, .unset, .unset, .unset, .unset] [(.long (11 : Int64))])) _
  refine Goes.of (fun t k => XS.lload X0.here hx rfl (hb hby at_86) rfl k) ?_
  show Goes p e below (s₁.setTop (mkF m 88 #[.val (.int p1), .val (.int (own_yr p1)), .val (.long ((own_yr p1).toInt64)), .second, .val (.long (own_lg ((own_yr p1).toInt64))), .second, .val (.long (own_lc ((own_yr p1).toInt64))), .second, .val (.long (own_lx ((own_yr p1).toInt64))), .second, .val (.long (own_lz ((own_yr p1).toInt64))), .second, .val (.long (own_ld ((own_yr p1).toInt64))), .second, .unset, .unset, .unset, .unset, .unset] [(.long (own_lg ((own_yr p1).toInt64))), (.long (11 : Int64))])) _
  refine Goes.of (fun t k => XS.lmul X0.here hx rfl (hb hby at_88) rfl k) ?_
  show Goes p e below (s₁.setTop (mkF m 89 #[.val (.int p1), .val (.int (own_yr p1)), .val (.long ((own_yr p1).toInt64)), .second, .val (.long (own_lg ((own_yr p1).toInt64))), .second, .val (.long (own_lc ((own_yr p1).toInt64))), .second, .val (.long (own_lx ((own_yr p1).toInt64))), .second, .val (.long (own_lz ((own_yr p1).toInt64))), .second, .val (.long (own_ld ((own_yr p1).toInt64))), .second, .unset, .unset, .unset, .unset, .unset] [(.long ((11 : Int64) * (own_lg ((own_yr p1).toInt64))))])) _
  refine Goes.of (fun t k => X0.ldc2Long hx hown (mvT hZ (wd hw 12 rfl)) (g := (mkF m 89 #[.val (.int p1), .val (.int (own_yr p1)), .val (.long ((own_yr p1).toInt64)), .second, .val (.long (own_lg ((own_yr p1).toInt64))), .second, .val (.long (own_lc ((own_yr p1).toInt64))), .second, .val (.long (own_lx ((own_yr p1).toInt64))), .second, .val (.long (own_lz ((own_yr p1).toInt64))), .second, .val (.long (own_ld ((own_yr p1).toInt64))), .second, .unset, .unset, .unset, .unset, .unset] [(.long ((11 : Int64) * (own_lg ((own_yr p1).toInt64))))])) rfl (hb hby at_89) _ k) ?_
  show Goes p e below (s₁.setTop (mkF m 92 #[.val (.int p1), .val (.int (own_yr p1)), .val (.long ((own_yr p1).toInt64)), .second, .val (.long (own_lg ((own_yr p1).toInt64))), .second, .val (.long (own_lc ((own_yr p1).toInt64))), .second, .val (.long (own_lx ((own_yr p1).toInt64))), .second, .val (.long (own_lz ((own_yr p1).toInt64))), .second, .val (.long (own_ld ((own_yr p1).toInt64))), .second, .unset, .unset, .unset, .unset, .unset] [(.long (20 : Int64)), (.long ((11 : Int64) * (own_lg ((own_yr p1).toInt64))))])) _
  refine Goes.of (fun t k => XS.ladd X0.here hx rfl (hb hby at_92) rfl k) ?_
  show Goes p e below (s₁.setTop (mkF m 93 #[.val (.int p1), .val (.int (own_yr p1)), .val (.long ((own_yr p1).toInt64)), .second, .val (.long (own_lg ((own_yr p1).toInt64))), .second, .val (.long (own_lc ((own_yr p1).toInt64))), .second, .val (.long (own_lx ((own_yr p1).toInt64))), .second, .val (.long (own_lz ((own_yr p1).toInt64))), .second, .val (.long (own_ld ((own_yr p1).toInt64))), .second, .unset, .unset, .unset, .unset, .unset] [(.long (((11 : Int64) * (own_lg ((own_yr p1).toInt64))) + (20 : Int64)))])) _
  refine Goes.of (fun t k => XS.lload X0.here hx rfl (hb hby at_93) rfl k) ?_
  show Goes p e below (s₁.setTop (mkF m 95 #[.val (.int p1), .val (.int (own_yr p1)), .val (.long ((own_yr p1).toInt64)), .second, .val (.long (own_lg ((own_yr p1).toInt64))), .second, .val (.long (own_lc ((own_yr p1).toInt64))), .second, .val (.long (own_lx ((own_yr p1).toInt64))), .second, .val (.long (own_lz ((own_yr p1).toInt64))), .second, .val (.long (own_ld ((own_yr p1).toInt64))), .second, .unset, .unset, .unset, .unset, .unset] [(.long (own_lz ((own_yr p1).toInt64))), (.long (((11 : Int64) * (own_lg ((own_yr p1).toInt64))) + (20 : Int64)))])) _
  refine Goes.of (fun t k => XS.ladd X0.here hx rfl (hb hby at_95) rfl k) ?_
  show Goes p e below (s₁.setTop (mkF m 96 #[.val (.int p1), .val (.int (own_yr p1)), .val (.long ((own_yr p1).toInt64)), .second, .val (.long (own_lg ((own_yr p1).toInt64))), .second, .val (.long (own_lc ((own_yr p1).toInt64))), .second, .val (.long (own_lx ((own_yr p1).toInt64))), .second, .val (.long (own_lz ((own_yr p1).toInt64))), .second, .val (.long (own_ld ((own_yr p1).toInt64))), .second, .unset, .unset, .unset, .unset, .unset] [(.long ((((11 : Int64) * (own_lg ((own_yr p1).toInt64))) + (20 : Int64)) + (own_lz ((own_yr p1).toInt64))))])) _
  refine Goes.of (fun t k => XS.lload X0.here hx rfl (hb hby at_96) rfl k) ?_
  show Goes p e below (s₁.setTop (mkF m 98 #[.val (.int p1), .val (.int (own_yr p1)), .val (.long ((own_yr p1).toInt64)), .second, .val (.long (own_lg ((own_yr p1).toInt64))), .second, .val (.long (own_lc ((own_yr p1).toInt64))), .second, .val (.long (own_lx ((own_yr p1).toInt64))), .second, .val (.long (own_lz ((own_yr p1).toInt64))), .second, .val (.long (own_ld ((own_yr p1).toInt64))), .second, .unset, .unset, .unset, .unset, .unset] [(.long (own_lx ((own_yr p1).toInt64))), (.long ((((11 : Int64) * (own_lg ((own_yr p1).toInt64))) + (20 : Int64)) + (own_lz ((own_yr p1).toInt64))))])) _
  refine Goes.of (fun t k => XS.lsub X0.here hx rfl (hb hby at_98) rfl k) ?_
  show Goes p e below (s₁.setTop (mkF m 99 #[.val (.int p1), .val (.int (own_yr p1)), .val (.long ((own_yr p1).toInt64)), .second, .val (.long (own_lg ((own_yr p1).toInt64))), .second, .val (.long (own_lc ((own_yr p1).toInt64))), .second, .val (.long (own_lx ((own_yr p1).toInt64))), .second, .val (.long (own_lz ((own_yr p1).toInt64))), .second, .val (.long (own_ld ((own_yr p1).toInt64))), .second, .unset, .unset, .unset, .unset, .unset] [(.long (((((11 : Int64) * (own_lg ((own_yr p1).toInt64))) + (20 : Int64)) + (own_lz ((own_yr p1).toInt64))) - (own_lx ((own_yr p1).toInt64))))])) _
  refine Goes.of (fun t k => X0.ldc2Long hx hown (mvT hZ (wd hw 13 rfl)) (g := (mkF m 99 #[.val (.int p1), .val (.int (own_yr p1)), .val (.long ((own_yr p1).toInt64)), .second, .val (.long (own_lg ((own_yr p1).toInt64))), .second, .val (.long (own_lc ((own_yr p1).toInt64))), .second, .val (.long (own_lx ((own_yr p1).toInt64))), .second, .val (.long (own_lz ((own_yr p1).toInt64))), .second, .val (.long (own_ld ((own_yr p1).toInt64))), .second, .unset, .unset, .unset, .unset, .unset] [(.long (((((11 : Int64) * (own_lg ((own_yr p1).toInt64))) + (20 : Int64)) + (own_lz ((own_yr p1).toInt64))) - (own_lx ((own_yr p1).toInt64))))])) rfl (hb hby at_99) _ k) ?_
  obtain ⟨_, _, ⟨T277, L277, k277, n277⟩, -, X277, ⟨Lc277, hQ277, l277, y277, z277⟩, st277⟩ := Jvm.LawKit.callS X0 hx (y := (⟨"com/example/hinta/hinta/HolidayEasterSundayPinLaw", "mod", "(JJ)J"⟩ : MethodName)) hown (mvT hZ (wd hw 14 rfl)) (mvT hZ (wd hw 15 rfl)) (mvT hZ (wd hw 16 rfl)) (mvT hZ (wd hw 17 rfl)) (by decide) (backOf (W := 0) (rm1 l Z a0 hw [] (((((11 : Int64) * (own_lg ((own_yr p1).toInt64))) + (20 : Int64)) + (own_lz ((own_yr p1).toInt64))) - (own_lx ((own_yr p1).toInt64))) (30 : Int64)  h0 n0 Z0 (by decide)) hZ (wd hw 17 rfl) (wd hw 16 rfl) (by decide) (by decide)) (g := (mkF m 102 #[.val (.int p1), .val (.int (own_yr p1)), .val (.long ((own_yr p1).toInt64)), .second, .val (.long (own_lg ((own_yr p1).toInt64))), .second, .val (.long (own_lc ((own_yr p1).toInt64))), .second, .val (.long (own_lx ((own_yr p1).toInt64))), .second, .val (.long (own_lz ((own_yr p1).toInt64))), .second, .val (.long (own_ld ((own_yr p1).toInt64))), .second, .unset, .unset, .unset, .unset, .unset] [(.long (30 : Int64)), (.long (((((11 : Int64) * (own_lg ((own_yr p1).toInt64))) + (20 : Int64)) + (own_lz ((own_yr p1).toInt64))) - (own_lx ((own_yr p1).toInt64))))])) rfl (by rw [hml]; rfl) (argsL := [(.long (((((11 : Int64) * (own_lg ((own_yr p1).toInt64))) + (20 : Int64)) + (own_lz ((own_yr p1).toInt64))) - (own_lx ((own_yr p1).toInt64)))), (.long (30 : Int64))]) (rest := []) (lenOf pd_20 rfl) rfl (by show 2 * 0 + _ ≤ _; exact Nat.le_of_eq rfl) (hb hby at_102) (fun _ _ => ⟨rfl, e0, (by decide : 0 + 0 ≤ _), (by decide : 0 + 0 ≤ _)⟩)
  dsimp only [Pt.U, Pt.locs, Pt.cells, Pt.slots] at X277 l277 y277 z277 st277 hQ277
  subst l277 y277 z277
  obtain ⟨rfl, N277q, e277⟩ := hQ277
  have N277 := Fr.app N0 N277q
  refine Goes.of st277 ?_
  show Goes p e below (T277.setTop (mkF m 105 #[.val (.int p1), .val (.int (own_yr p1)), .val (.long ((own_yr p1).toInt64)), .second, .val (.long (own_lg ((own_yr p1).toInt64))), .second, .val (.long (own_lc ((own_yr p1).toInt64))), .second, .val (.long (own_lx ((own_yr p1).toInt64))), .second, .val (.long (own_lz ((own_yr p1).toInt64))), .second, .val (.long (own_ld ((own_yr p1).toInt64))), .second, .unset, .unset, .unset, .unset, .unset] [(.long (own_le0 ((own_yr p1).toInt64)))])) _
  refine Goes.of (fun t k => XS.lstore X277.here hx rfl (hb hby at_105) rfl (l' := #[.val (.int p1), .val (.int (own_yr p1)), .val (.long ((own_yr p1).toInt64)), .second, .val (.long (own_lg ((own_yr p1).toInt64))), .second, .val (.long (own_lc ((own_yr p1).toInt64))), .second, .val (.long (own_lx ((own_yr p1).toInt64))), .second, .val (.long (own_lz ((own_yr p1).toInt64))), .second, .val (.long (own_ld ((own_yr p1).toInt64))), .second, .val (.long (own_le0 ((own_yr p1).toInt64))), .second, .unset, .unset, .unset]) rfl k) ?_
  show Goes p e below (T277.setTop (mkF m 107 #[.val (.int p1), .val (.int (own_yr p1)), .val (.long ((own_yr p1).toInt64)), .second, .val (.long (own_lg ((own_yr p1).toInt64))), .second, .val (.long (own_lc ((own_yr p1).toInt64))), .second, .val (.long (own_lx ((own_yr p1).toInt64))), .second, .val (.long (own_lz ((own_yr p1).toInt64))), .second, .val (.long (own_ld ((own_yr p1).toInt64))), .second, .val (.long (own_le0 ((own_yr p1).toInt64))), .second, .unset, .unset, .unset] [])) _
  refine Goes.of (fun t k => XS.lload X277.here hx rfl (hb hby at_107) rfl k) ?_
  show Goes p e below (T277.setTop (mkF m 109 #[.val (.int p1), .val (.int (own_yr p1)), .val (.long ((own_yr p1).toInt64)), .second, .val (.long (own_lg ((own_yr p1).toInt64))), .second, .val (.long (own_lc ((own_yr p1).toInt64))), .second, .val (.long (own_lx ((own_yr p1).toInt64))), .second, .val (.long (own_lz ((own_yr p1).toInt64))), .second, .val (.long (own_ld ((own_yr p1).toInt64))), .second, .val (.long (own_le0 ((own_yr p1).toInt64))), .second, .unset, .unset, .unset] [(.long (own_le0 ((own_yr p1).toInt64)))])) _
  refine Goes.of (fun t k => X277.ldc2Long hx hown (mvT hZ (wd hw 18 rfl)) (g := (mkF m 109 #[.val (.int p1), .val (.int (own_yr p1)), .val (.long ((own_yr p1).toInt64)), .second, .val (.long (own_lg ((own_yr p1).toInt64))), .second, .val (.long (own_lc ((own_yr p1).toInt64))), .second, .val (.long (own_lx ((own_yr p1).toInt64))), .second, .val (.long (own_lz ((own_yr p1).toInt64))), .second, .val (.long (own_ld ((own_yr p1).toInt64))), .second, .val (.long (own_le0 ((own_yr p1).toInt64))), .second, .unset, .unset, .unset] [(.long (own_le0 ((own_yr p1).toInt64)))])) rfl (hb hby at_109) _ k) ?_
  show Goes p e below (T277.setTop (mkF m 112 #[.val (.int p1), .val (.int (own_yr p1)), .val (.long ((own_yr p1).toInt64)), .second, .val (.long (own_lg ((own_yr p1).toInt64))), .second, .val (.long (own_lc ((own_yr p1).toInt64))), .second, .val (.long (own_lx ((own_yr p1).toInt64))), .second, .val (.long (own_lz ((own_yr p1).toInt64))), .second, .val (.long (own_ld ((own_yr p1).toInt64))), .second, .val (.long (own_le0 ((own_yr p1).toInt64))), .second, .unset, .unset, .unset] [(.long (24 : Int64)), (.long (own_le0 ((own_yr p1).toInt64)))])) _
  refine Goes.of (fun t k => XS.lcmp X277.here hx rfl (hb hby at_112) rfl k) ?_
  show Goes p e below (T277.setTop (mkF m 113 #[.val (.int p1), .val (.int (own_yr p1)), .val (.long ((own_yr p1).toInt64)), .second, .val (.long (own_lg ((own_yr p1).toInt64))), .second, .val (.long (own_lc ((own_yr p1).toInt64))), .second, .val (.long (own_lx ((own_yr p1).toInt64))), .second, .val (.long (own_lz ((own_yr p1).toInt64))), .second, .val (.long (own_ld ((own_yr p1).toInt64))), .second, .val (.long (own_le0 ((own_yr p1).toInt64))), .second, .unset, .unset, .unset] [(.int (lcmpW (own_le0 ((own_yr p1).toInt64)) (24 : Int64)))])) _
  obtain ⟨v278, hv278⟩ : ∃ z : Int64, z = (if (own_le0 ((own_yr p1).toInt64)) = (24 : Int64) then ((own_le0 ((own_yr p1).toInt64)) + (1 : Int64)) else (if (own_le0 ((own_yr p1).toInt64)) = (25 : Int64) then (if (11 : Int64) < (own_lg ((own_yr p1).toInt64)) then ((own_le0 ((own_yr p1).toInt64)) + (1 : Int64)) else (own_le0 ((own_yr p1).toInt64))) else (own_le0 ((own_yr p1).toInt64)))) := ⟨_, rfl⟩
  refine Goes.of (S' := T277.setTop (mkF m 140 #[.val (.int p1), .val (.int (own_yr p1)), .val (.long ((own_yr p1).toInt64)), .second, .val (.long (own_lg ((own_yr p1).toInt64))), .second, .val (.long (own_lc ((own_yr p1).toInt64))), .second, .val (.long (own_lx ((own_yr p1).toInt64))), .second, .val (.long (own_lz ((own_yr p1).toInt64))), .second, .val (.long (own_ld ((own_yr p1).toInt64))), .second, .val (.long v278), .second, .unset, .unset, .unset] [])) (fun t k => ?_) ?_
  · by_cases hb279 : (own_le0 ((own_yr p1).toInt64)) = (24 : Int64)
    · refine XS.ifYes X277.here hx rfl (pc0 := 113) (pc' := 134) rfl (hb hby at_113) rfl ((if0 _ _).trans (teq ((lw_eq _ _).mpr hb279)).1) (by decide) (by decide) ?_
      show Steps p.tables e below (T277.setTop (mkF m 134 #[.val (.int p1), .val (.int (own_yr p1)), .val (.long ((own_yr p1).toInt64)), .second, .val (.long (own_lg ((own_yr p1).toInt64))), .second, .val (.long (own_lc ((own_yr p1).toInt64))), .second, .val (.long (own_lx ((own_yr p1).toInt64))), .second, .val (.long (own_lz ((own_yr p1).toInt64))), .second, .val (.long (own_ld ((own_yr p1).toInt64))), .second, .val (.long (own_le0 ((own_yr p1).toInt64))), .second, .unset, .unset, .unset] [])) _
      refine XS.lload X277.here hx rfl (hb hby at_134) rfl ?_
      show Steps p.tables e below (T277.setTop (mkF m 136 #[.val (.int p1), .val (.int (own_yr p1)), .val (.long ((own_yr p1).toInt64)), .second, .val (.long (own_lg ((own_yr p1).toInt64))), .second, .val (.long (own_lc ((own_yr p1).toInt64))), .second, .val (.long (own_lx ((own_yr p1).toInt64))), .second, .val (.long (own_lz ((own_yr p1).toInt64))), .second, .val (.long (own_ld ((own_yr p1).toInt64))), .second, .val (.long (own_le0 ((own_yr p1).toInt64))), .second, .unset, .unset, .unset] [(.long (own_le0 ((own_yr p1).toInt64)))])) _
      refine XS.lconst X277.here hx rfl (hb hby at_136) ?_
      show Steps p.tables e below (T277.setTop (mkF m 137 #[.val (.int p1), .val (.int (own_yr p1)), .val (.long ((own_yr p1).toInt64)), .second, .val (.long (own_lg ((own_yr p1).toInt64))), .second, .val (.long (own_lc ((own_yr p1).toInt64))), .second, .val (.long (own_lx ((own_yr p1).toInt64))), .second, .val (.long (own_lz ((own_yr p1).toInt64))), .second, .val (.long (own_ld ((own_yr p1).toInt64))), .second, .val (.long (own_le0 ((own_yr p1).toInt64))), .second, .unset, .unset, .unset] [(.long (1 : Int64)), (.long (own_le0 ((own_yr p1).toInt64)))])) _
      refine XS.ladd X277.here hx rfl (hb hby at_137) rfl ?_
      show Steps p.tables e below (T277.setTop (mkF m 138 #[.val (.int p1), .val (.int (own_yr p1)), .val (.long ((own_yr p1).toInt64)), .second, .val (.long (own_lg ((own_yr p1).toInt64))), .second, .val (.long (own_lc ((own_yr p1).toInt64))), .second, .val (.long (own_lx ((own_yr p1).toInt64))), .second, .val (.long (own_lz ((own_yr p1).toInt64))), .second, .val (.long (own_ld ((own_yr p1).toInt64))), .second, .val (.long (own_le0 ((own_yr p1).toInt64))), .second, .unset, .unset, .unset] [(.long ((own_le0 ((own_yr p1).toInt64)) + (1 : Int64)))])) _
      refine XS.lstore X277.here hx rfl (hb hby at_138) rfl (l' := #[.val (.int p1), .val (.int (own_yr p1)), .val (.long ((own_yr p1).toInt64)), .second, .val (.long (own_lg ((own_yr p1).toInt64))), .second, .val (.long (own_lc ((own_yr p1).toInt64))), .second, .val (.long (own_lx ((own_yr p1).toInt64))), .second, .val (.long (own_lz ((own_yr p1).toInt64))), .second, .val (.long (own_ld ((own_yr p1).toInt64))), .second, .val (.long ((own_le0 ((own_yr p1).toInt64)) + (1 : Int64))), .second, .unset, .unset, .unset]) rfl ?_
      show Steps p.tables e below (T277.setTop (mkF m 140 #[.val (.int p1), .val (.int (own_yr p1)), .val (.long ((own_yr p1).toInt64)), .second, .val (.long (own_lg ((own_yr p1).toInt64))), .second, .val (.long (own_lc ((own_yr p1).toInt64))), .second, .val (.long (own_lx ((own_yr p1).toInt64))), .second, .val (.long (own_lz ((own_yr p1).toInt64))), .second, .val (.long (own_ld ((own_yr p1).toInt64))), .second, .val (.long ((own_le0 ((own_yr p1).toInt64)) + (1 : Int64))), .second, .unset, .unset, .unset] [])) _
      simp only [if_pos hb279] at hv278; subst hv278
      exact k
    · refine XS.ifNo X277.here hx rfl (hb hby at_113) rfl ((if0 _ _).trans (feq (mt (lw_eq _ _).mp hb279)).1) ?_
      show Steps p.tables e below (T277.setTop (mkF m 116 #[.val (.int p1), .val (.int (own_yr p1)), .val (.long ((own_yr p1).toInt64)), .second, .val (.long (own_lg ((own_yr p1).toInt64))), .second, .val (.long (own_lc ((own_yr p1).toInt64))), .second, .val (.long (own_lx ((own_yr p1).toInt64))), .second, .val (.long (own_lz ((own_yr p1).toInt64))), .second, .val (.long (own_ld ((own_yr p1).toInt64))), .second, .val (.long (own_le0 ((own_yr p1).toInt64))), .second, .unset, .unset, .unset] [])) _
      refine XS.lload X277.here hx rfl (hb hby at_116) rfl ?_
      show Steps p.tables e below (T277.setTop (mkF m 118 #[.val (.int p1), .val (.int (own_yr p1)), .val (.long ((own_yr p1).toInt64)), .second, .val (.long (own_lg ((own_yr p1).toInt64))), .second, .val (.long (own_lc ((own_yr p1).toInt64))), .second, .val (.long (own_lx ((own_yr p1).toInt64))), .second, .val (.long (own_lz ((own_yr p1).toInt64))), .second, .val (.long (own_ld ((own_yr p1).toInt64))), .second, .val (.long (own_le0 ((own_yr p1).toInt64))), .second, .unset, .unset, .unset] [(.long (own_le0 ((own_yr p1).toInt64)))])) _
      refine X277.ldc2Long hx hown (mvT hZ (wd hw 9 rfl)) (g := (mkF m 118 #[.val (.int p1), .val (.int (own_yr p1)), .val (.long ((own_yr p1).toInt64)), .second, .val (.long (own_lg ((own_yr p1).toInt64))), .second, .val (.long (own_lc ((own_yr p1).toInt64))), .second, .val (.long (own_lx ((own_yr p1).toInt64))), .second, .val (.long (own_lz ((own_yr p1).toInt64))), .second, .val (.long (own_ld ((own_yr p1).toInt64))), .second, .val (.long (own_le0 ((own_yr p1).toInt64))), .second, .unset, .unset, .unset] [(.long (own_le0 ((own_yr p1).toInt64)))])) rfl (hb hby at_118) _ ?_
      show Steps p.tables e below (T277.setTop (mkF m 121 #[.val (.int p1), .val (.int (own_yr p1)), .val (.long ((own_yr p1).toInt64)), .second, .val (.long (own_lg ((own_yr p1).toInt64))), .second, .val (.long (own_lc ((own_yr p1).toInt64))), .second, .val (.long (own_lx ((own_yr p1).toInt64))), .second, .val (.long (own_lz ((own_yr p1).toInt64))), .second, .val (.long (own_ld ((own_yr p1).toInt64))), .second, .val (.long (own_le0 ((own_yr p1).toInt64))), .second, .unset, .unset, .unset] [(.long (25 : Int64)), (.long (own_le0 ((own_yr p1).toInt64)))])) _
      refine XS.lcmp X277.here hx rfl (hb hby at_121) rfl ?_
      show Steps p.tables e below (T277.setTop (mkF m 122 #[.val (.int p1), .val (.int (own_yr p1)), .val (.long ((own_yr p1).toInt64)), .second, .val (.long (own_lg ((own_yr p1).toInt64))), .second, .val (.long (own_lc ((own_yr p1).toInt64))), .second, .val (.long (own_lx ((own_yr p1).toInt64))), .second, .val (.long (own_lz ((own_yr p1).toInt64))), .second, .val (.long (own_ld ((own_yr p1).toInt64))), .second, .val (.long (own_le0 ((own_yr p1).toInt64))), .second, .unset, .unset, .unset] [(.int (lcmpW (own_le0 ((own_yr p1).toInt64)) (25 : Int64)))])) _
      by_cases hb280 : (own_le0 ((own_yr p1).toInt64)) = (25 : Int64)
      · refine XS.ifNo X277.here hx rfl (hb hby at_122) rfl ((if0 _ _).trans (teq ((lw_eq _ _).mpr hb280)).2) ?_
        show Steps p.tables e below (T277.setTop (mkF m 125 #[.val (.int p1), .val (.int (own_yr p1)), .val (.long ((own_yr p1).toInt64)), .second, .val (.long (own_lg ((own_yr p1).toInt64))), .second, .val (.long (own_lc ((own_yr p1).toInt64))), .second, .val (.long (own_lx ((own_yr p1).toInt64))), .second, .val (.long (own_lz ((own_yr p1).toInt64))), .second, .val (.long (own_ld ((own_yr p1).toInt64))), .second, .val (.long (own_le0 ((own_yr p1).toInt64))), .second, .unset, .unset, .unset] [])) _
        refine XS.lload X277.here hx rfl (hb hby at_125) rfl ?_
        show Steps p.tables e below (T277.setTop (mkF m 127 #[.val (.int p1), .val (.int (own_yr p1)), .val (.long ((own_yr p1).toInt64)), .second, .val (.long (own_lg ((own_yr p1).toInt64))), .second, .val (.long (own_lc ((own_yr p1).toInt64))), .second, .val (.long (own_lx ((own_yr p1).toInt64))), .second, .val (.long (own_lz ((own_yr p1).toInt64))), .second, .val (.long (own_ld ((own_yr p1).toInt64))), .second, .val (.long (own_le0 ((own_yr p1).toInt64))), .second, .unset, .unset, .unset] [(.long (own_lg ((own_yr p1).toInt64)))])) _
        refine X277.ldc2Long hx hown (mvT hZ (wd hw 11 rfl)) (g := (mkF m 127 #[.val (.int p1), .val (.int (own_yr p1)), .val (.long ((own_yr p1).toInt64)), .second, .val (.long (own_lg ((own_yr p1).toInt64))), .second, .val (.long (own_lc ((own_yr p1).toInt64))), .second, .val (.long (own_lx ((own_yr p1).toInt64))), .second, .val (.long (own_lz ((own_yr p1).toInt64))), .second, .val (.long (own_ld ((own_yr p1).toInt64))), .second, .val (.long (own_le0 ((own_yr p1).toInt64))), .second, .unset, .unset, .unset] [(.long (own_lg ((own_yr p1).toInt64)))])) rfl (hb hby at_127) _ ?_
        show Steps p.tables e below (T277.setTop (mkF m 130 #[.val (.int p1), .val (.int (own_yr p1)), .val (.long ((own_yr p1).toInt64)), .second, .val (.long (own_lg ((own_yr p1).toInt64))), .second, .val (.long (own_lc ((own_yr p1).toInt64))), .second, .val (.long (own_lx ((own_yr p1).toInt64))), .second, .val (.long (own_lz ((own_yr p1).toInt64))), .second, .val (.long (own_ld ((own_yr p1).toInt64))), .second, .val (.long (own_le0 ((own_yr p1).toInt64))), .second, .unset, .unset, .unset] [(.long (11 : Int64)), (.long (own_lg ((own_yr p1).toInt64)))])) _
        refine XS.lcmp X277.here hx rfl (hb hby at_130) rfl ?_
        show Steps p.tables e below (T277.setTop (mkF m 131 #[.val (.int p1), .val (.int (own_yr p1)), .val (.long ((own_yr p1).toInt64)), .second, .val (.long (own_lg ((own_yr p1).toInt64))), .second, .val (.long (own_lc ((own_yr p1).toInt64))), .second, .val (.long (own_lx ((own_yr p1).toInt64))), .second, .val (.long (own_lz ((own_yr p1).toInt64))), .second, .val (.long (own_ld ((own_yr p1).toInt64))), .second, .val (.long (own_le0 ((own_yr p1).toInt64))), .second, .unset, .unset, .unset] [(.int (lcmpW (own_lg ((own_yr p1).toInt64)) (11 : Int64)))])) _
        by_cases hb281 : (11 : Int64) < (own_lg ((own_yr p1).toInt64))
        · refine XS.ifNo X277.here hx rfl (hb hby at_131) rfl ((if0 _ _).trans (tlt ((lw_gt _ _).mpr hb281)).2.2.2) ?_
          show Steps p.tables e below (T277.setTop (mkF m 134 #[.val (.int p1), .val (.int (own_yr p1)), .val (.long ((own_yr p1).toInt64)), .second, .val (.long (own_lg ((own_yr p1).toInt64))), .second, .val (.long (own_lc ((own_yr p1).toInt64))), .second, .val (.long (own_lx ((own_yr p1).toInt64))), .second, .val (.long (own_lz ((own_yr p1).toInt64))), .second, .val (.long (own_ld ((own_yr p1).toInt64))), .second, .val (.long (own_le0 ((own_yr p1).toInt64))), .second, .unset, .unset, .unset] [])) _
          refine XS.lload X277.here hx rfl (hb hby at_134) rfl ?_
          show Steps p.tables e below (T277.setTop (mkF m 136 #[.val (.int p1), .val (.int (own_yr p1)), .val (.long ((own_yr p1).toInt64)), .second, .val (.long (own_lg ((own_yr p1).toInt64))), .second, .val (.long (own_lc ((own_yr p1).toInt64))), .second, .val (.long (own_lx ((own_yr p1).toInt64))), .second, .val (.long (own_lz ((own_yr p1).toInt64))), .second, .val (.long (own_ld ((own_yr p1).toInt64))), .second, .val (.long (own_le0 ((own_yr p1).toInt64))), .second, .unset, .unset, .unset] [(.long (own_le0 ((own_yr p1).toInt64)))])) _
          refine XS.lconst X277.here hx rfl (hb hby at_136) ?_
          show Steps p.tables e below (T277.setTop (mkF m 137 #[.val (.int p1), .val (.int (own_yr p1)), .val (.long ((own_yr p1).toInt64)), .second, .val (.long (own_lg ((own_yr p1).toInt64))), .second, .val (.long (own_lc ((own_yr p1).toInt64))), .second, .val (.long (own_lx ((own_yr p1).toInt64))), .second, .val (.long (own_lz ((own_yr p1).toInt64))), .second, .val (.long (own_ld ((own_yr p1).toInt64))), .second, .val (.long (own_le0 ((own_yr p1).toInt64))), .second, .unset, .unset, .unset] [(.long (1 : Int64)), (.long (own_le0 ((own_yr p1).toInt64)))])) _
          refine XS.ladd X277.here hx rfl (hb hby at_137) rfl ?_
          show Steps p.tables e below (T277.setTop (mkF m 138 #[.val (.int p1), .val (.int (own_yr p1)), .val (.long ((own_yr p1).toInt64)), .second, .val (.long (own_lg ((own_yr p1).toInt64))), .second, .val (.long (own_lc ((own_yr p1).toInt64))), .second, .val (.long (own_lx ((own_yr p1).toInt64))), .second, .val (.long (own_lz ((own_yr p1).toInt64))), .second, .val (.long (own_ld ((own_yr p1).toInt64))), .second, .val (.long (own_le0 ((own_yr p1).toInt64))), .second, .unset, .unset, .unset] [(.long ((own_le0 ((own_yr p1).toInt64)) + (1 : Int64)))])) _
          refine XS.lstore X277.here hx rfl (hb hby at_138) rfl (l' := #[.val (.int p1), .val (.int (own_yr p1)), .val (.long ((own_yr p1).toInt64)), .second, .val (.long (own_lg ((own_yr p1).toInt64))), .second, .val (.long (own_lc ((own_yr p1).toInt64))), .second, .val (.long (own_lx ((own_yr p1).toInt64))), .second, .val (.long (own_lz ((own_yr p1).toInt64))), .second, .val (.long (own_ld ((own_yr p1).toInt64))), .second, .val (.long ((own_le0 ((own_yr p1).toInt64)) + (1 : Int64))), .second, .unset, .unset, .unset]) rfl ?_
          show Steps p.tables e below (T277.setTop (mkF m 140 #[.val (.int p1), .val (.int (own_yr p1)), .val (.long ((own_yr p1).toInt64)), .second, .val (.long (own_lg ((own_yr p1).toInt64))), .second, .val (.long (own_lc ((own_yr p1).toInt64))), .second, .val (.long (own_lx ((own_yr p1).toInt64))), .second, .val (.long (own_lz ((own_yr p1).toInt64))), .second, .val (.long (own_ld ((own_yr p1).toInt64))), .second, .val (.long ((own_le0 ((own_yr p1).toInt64)) + (1 : Int64))), .second, .unset, .unset, .unset] [])) _
          simp only [if_neg hb279, if_pos hb280, if_pos hb281] at hv278; subst hv278
          exact k
        · refine XS.ifYes X277.here hx rfl (pc0 := 131) (pc' := 140) rfl (hb hby at_131) rfl ((if0 _ _).trans (flt (mt (lw_gt _ _).mp hb281)).2.2.2) (by decide) (by decide) ?_
          show Steps p.tables e below (T277.setTop (mkF m 140 #[.val (.int p1), .val (.int (own_yr p1)), .val (.long ((own_yr p1).toInt64)), .second, .val (.long (own_lg ((own_yr p1).toInt64))), .second, .val (.long (own_lc ((own_yr p1).toInt64))), .second, .val (.long (own_lx ((own_yr p1).toInt64))), .second, .val (.long (own_lz ((own_yr p1).toInt64))), .second, .val (.long (own_ld ((own_yr p1).toInt64))), .second, .val (.long (own_le0 ((own_yr p1).toInt64))), .second, .unset, .unset, .unset] [])) _
          simp only [if_neg hb279, if_pos hb280, if_neg hb281] at hv278; subst hv278
          exact k
      · refine XS.ifYes X277.here hx rfl (pc0 := 122) (pc' := 140) rfl (hb hby at_122) rfl ((if0 _ _).trans (feq (mt (lw_eq _ _).mp hb280)).2) (by decide) (by decide) ?_
        show Steps p.tables e below (T277.setTop (mkF m 140 #[.val (.int p1), .val (.int (own_yr p1)), .val (.long ((own_yr p1).toInt64)), .second, .val (.long (own_lg ((own_yr p1).toInt64))), .second, .val (.long (own_lc ((own_yr p1).toInt64))), .second, .val (.long (own_lx ((own_yr p1).toInt64))), .second, .val (.long (own_lz ((own_yr p1).toInt64))), .second, .val (.long (own_ld ((own_yr p1).toInt64))), .second, .val (.long (own_le0 ((own_yr p1).toInt64))), .second, .unset, .unset, .unset] [])) _
        simp only [if_neg hb279, if_neg hb280] at hv278; subst hv278
        exact k
  show Goes p e below (T277.setTop (mkF m 140 #[.val (.int p1), .val (.int (own_yr p1)), .val (.long ((own_yr p1).toInt64)), .second, .val (.long (own_lg ((own_yr p1).toInt64))), .second, .val (.long (own_lc ((own_yr p1).toInt64))), .second, .val (.long (own_lx ((own_yr p1).toInt64))), .second, .val (.long (own_lz ((own_yr p1).toInt64))), .second, .val (.long (own_ld ((own_yr p1).toInt64))), .second, .val (.long v278), .second, .unset, .unset, .unset] [])) _
  have he : v278 = own_le ((own_yr p1).toInt64) := hv278
  rw [he]
  show Goes p e below (T277.setTop (mkF m 140 #[.val (.int p1), .val (.int (own_yr p1)), .val (.long ((own_yr p1).toInt64)), .second, .val (.long (own_lg ((own_yr p1).toInt64))), .second, .val (.long (own_lc ((own_yr p1).toInt64))), .second, .val (.long (own_lx ((own_yr p1).toInt64))), .second, .val (.long (own_lz ((own_yr p1).toInt64))), .second, .val (.long (own_ld ((own_yr p1).toInt64))), .second, .val (.long (own_le ((own_yr p1).toInt64))), .second, .unset, .unset, .unset] [])) _
  refine Goes.of (fun t k => X277.ldc2Long hx hown (mvT hZ (wd hw 19 rfl)) (g := (mkF m 140 #[.val (.int p1), .val (.int (own_yr p1)), .val (.long ((own_yr p1).toInt64)), .second, .val (.long (own_lg ((own_yr p1).toInt64))), .second, .val (.long (own_lc ((own_yr p1).toInt64))), .second, .val (.long (own_lx ((own_yr p1).toInt64))), .second, .val (.long (own_lz ((own_yr p1).toInt64))), .second, .val (.long (own_ld ((own_yr p1).toInt64))), .second, .val (.long (own_le ((own_yr p1).toInt64))), .second, .unset, .unset, .unset] [])) rfl (hb hby at_140) _ k) ?_
  show Goes p e below (T277.setTop (mkF m 143 #[.val (.int p1), .val (.int (own_yr p1)), .val (.long ((own_yr p1).toInt64)), .second, .val (.long (own_lg ((own_yr p1).toInt64))), .second, .val (.long (own_lc ((own_yr p1).toInt64))), .second, .val (.long (own_lx ((own_yr p1).toInt64))), .second, .val (.long (own_lz ((own_yr p1).toInt64))), .second, .val (.long (own_ld ((own_yr p1).toInt64))), .second, .val (.long (own_le ((own_yr p1).toInt64))), .second, .unset, .unset, .unset] [(.long (44 : Int64))])) _
  refine Goes.of (fun t k => XS.lload X277.here hx rfl (hb hby at_143) rfl k) ?_
  show Goes p e below (T277.setTop (mkF m 145 #[.val (.int p1), .val (.int (own_yr p1)), .val (.long ((own_yr p1).toInt64)), .second, .val (.long (own_lg ((own_yr p1).toInt64))), .second, .val (.long (own_lc ((own_yr p1).toInt64))), .second, .val (.long (own_lx ((own_yr p1).toInt64))), .second, .val (.long (own_lz ((own_yr p1).toInt64))), .second, .val (.long (own_ld ((own_yr p1).toInt64))), .second, .val (.long (own_le ((own_yr p1).toInt64))), .second, .unset, .unset, .unset] [(.long (own_le ((own_yr p1).toInt64))), (.long (44 : Int64))])) _
  refine Goes.of (fun t k => XS.lsub X277.here hx rfl (hb hby at_145) rfl k) ?_
  show Goes p e below (T277.setTop (mkF m 146 #[.val (.int p1), .val (.int (own_yr p1)), .val (.long ((own_yr p1).toInt64)), .second, .val (.long (own_lg ((own_yr p1).toInt64))), .second, .val (.long (own_lc ((own_yr p1).toInt64))), .second, .val (.long (own_lx ((own_yr p1).toInt64))), .second, .val (.long (own_lz ((own_yr p1).toInt64))), .second, .val (.long (own_ld ((own_yr p1).toInt64))), .second, .val (.long (own_le ((own_yr p1).toInt64))), .second, .unset, .unset, .unset] [(.long ((44 : Int64) - (own_le ((own_yr p1).toInt64))))])) _
  refine Goes.of (fun t k => XS.lstore X277.here hx rfl (hb hby at_146) rfl (l' := #[.val (.int p1), .val (.int (own_yr p1)), .val (.long ((own_yr p1).toInt64)), .second, .val (.long (own_lg ((own_yr p1).toInt64))), .second, .val (.long (own_lc ((own_yr p1).toInt64))), .second, .val (.long (own_lx ((own_yr p1).toInt64))), .second, .val (.long (own_lz ((own_yr p1).toInt64))), .second, .val (.long (own_ld ((own_yr p1).toInt64))), .second, .val (.long (own_le ((own_yr p1).toInt64))), .second, .val (.long ((44 : Int64) - (own_le ((own_yr p1).toInt64)))), .second, .unset]) rfl k) ?_
  show Goes p e below (T277.setTop (mkF m 148 #[.val (.int p1), .val (.int (own_yr p1)), .val (.long ((own_yr p1).toInt64)), .second, .val (.long (own_lg ((own_yr p1).toInt64))), .second, .val (.long (own_lc ((own_yr p1).toInt64))), .second, .val (.long (own_lx ((own_yr p1).toInt64))), .second, .val (.long (own_lz ((own_yr p1).toInt64))), .second, .val (.long (own_ld ((own_yr p1).toInt64))), .second, .val (.long (own_le ((own_yr p1).toInt64))), .second, .val (.long ((44 : Int64) - (own_le ((own_yr p1).toInt64)))), .second, .unset] [])) _
  refine Goes.of (fun t k => XS.lload X277.here hx rfl (hb hby at_148) rfl k) ?_
  show Goes p e below (T277.setTop (mkF m 150 #[.val (.int p1), .val (.int (own_yr p1)), .val (.long ((own_yr p1).toInt64)), .second, .val (.long (own_lg ((own_yr p1).toInt64))), .second, .val (.long (own_lc ((own_yr p1).toInt64))), .second, .val (.long (own_lx ((own_yr p1).toInt64))), .second, .val (.long (own_lz ((own_yr p1).toInt64))), .second, .val (.long (own_ld ((own_yr p1).toInt64))), .second, .val (.long (own_le ((own_yr p1).toInt64))), .second, .val (.long ((44 : Int64) - (own_le ((own_yr p1).toInt64)))), .second, .unset] [(.long ((44 : Int64) - (own_le ((own_yr p1).toInt64))))])) _
  refine Goes.of (fun t k => X277.ldc2Long hx hown (mvT hZ (wd hw 20 rfl)) (g := (mkF m 150 #[.val (.int p1), .val (.int (own_yr p1)), .val (.long ((own_yr p1).toInt64)), .second, .val (.long (own_lg ((own_yr p1).toInt64))), .second, .val (.long (own_lc ((own_yr p1).toInt64))), .second, .val (.long (own_lx ((own_yr p1).toInt64))), .second, .val (.long (own_lz ((own_yr p1).toInt64))), .second, .val (.long (own_ld ((own_yr p1).toInt64))), .second, .val (.long (own_le ((own_yr p1).toInt64))), .second, .val (.long ((44 : Int64) - (own_le ((own_yr p1).toInt64)))), .second, .unset] [(.long ((44 : Int64) - (own_le ((own_yr p1).toInt64))))])) rfl (hb hby at_150) _ k) ?_
  show Goes p e below (T277.setTop (mkF m 153 #[.val (.int p1), .val (.int (own_yr p1)), .val (.long ((own_yr p1).toInt64)), .second, .val (.long (own_lg ((own_yr p1).toInt64))), .second, .val (.long (own_lc ((own_yr p1).toInt64))), .second, .val (.long (own_lx ((own_yr p1).toInt64))), .second, .val (.long (own_lz ((own_yr p1).toInt64))), .second, .val (.long (own_ld ((own_yr p1).toInt64))), .second, .val (.long (own_le ((own_yr p1).toInt64))), .second, .val (.long ((44 : Int64) - (own_le ((own_yr p1).toInt64)))), .second, .unset] [(.long (21 : Int64)), (.long ((44 : Int64) - (own_le ((own_yr p1).toInt64))))])) _
  refine Goes.of (fun t k => XS.lcmp X277.here hx rfl (hb hby at_153) rfl k) ?_
  show Goes p e below (T277.setTop (mkF m 154 #[.val (.int p1), .val (.int (own_yr p1)), .val (.long ((own_yr p1).toInt64)), .second, .val (.long (own_lg ((own_yr p1).toInt64))), .second, .val (.long (own_lc ((own_yr p1).toInt64))), .second, .val (.long (own_lx ((own_yr p1).toInt64))), .second, .val (.long (own_lz ((own_yr p1).toInt64))), .second, .val (.long (own_ld ((own_yr p1).toInt64))), .second, .val (.long (own_le ((own_yr p1).toInt64))), .second, .val (.long ((44 : Int64) - (own_le ((own_yr p1).toInt64)))), .second, .unset] [(.int (lcmpW ((44 : Int64) - (own_le ((own_yr p1).toInt64))) (21 : Int64)))])) _
  obtain ⟨v282, hv282⟩ : ∃ z : Int64, z = (if ((44 : Int64) - (own_le ((own_yr p1).toInt64))) < (21 : Int64) then (((44 : Int64) - (own_le ((own_yr p1).toInt64))) + (30 : Int64)) else ((44 : Int64) - (own_le ((own_yr p1).toInt64)))) := ⟨_, rfl⟩
  refine Goes.of (S' := T277.setTop (mkF m 165 #[.val (.int p1), .val (.int (own_yr p1)), .val (.long ((own_yr p1).toInt64)), .second, .val (.long (own_lg ((own_yr p1).toInt64))), .second, .val (.long (own_lc ((own_yr p1).toInt64))), .second, .val (.long (own_lx ((own_yr p1).toInt64))), .second, .val (.long (own_lz ((own_yr p1).toInt64))), .second, .val (.long (own_ld ((own_yr p1).toInt64))), .second, .val (.long (own_le ((own_yr p1).toInt64))), .second, .val (.long v282), .second, .unset] [])) (fun t k => ?_) ?_
  · by_cases hb283 : ((44 : Int64) - (own_le ((own_yr p1).toInt64))) < (21 : Int64)
    · refine XS.ifNo X277.here hx rfl (hb hby at_154) rfl ((if0 _ _).trans (tlt ((lw_lt _ _).mpr hb283)).2.1) ?_
      show Steps p.tables e below (T277.setTop (mkF m 157 #[.val (.int p1), .val (.int (own_yr p1)), .val (.long ((own_yr p1).toInt64)), .second, .val (.long (own_lg ((own_yr p1).toInt64))), .second, .val (.long (own_lc ((own_yr p1).toInt64))), .second, .val (.long (own_lx ((own_yr p1).toInt64))), .second, .val (.long (own_lz ((own_yr p1).toInt64))), .second, .val (.long (own_ld ((own_yr p1).toInt64))), .second, .val (.long (own_le ((own_yr p1).toInt64))), .second, .val (.long ((44 : Int64) - (own_le ((own_yr p1).toInt64)))), .second, .unset] [])) _
      refine XS.lload X277.here hx rfl (hb hby at_157) rfl ?_
      show Steps p.tables e below (T277.setTop (mkF m 159 #[.val (.int p1), .val (.int (own_yr p1)), .val (.long ((own_yr p1).toInt64)), .second, .val (.long (own_lg ((own_yr p1).toInt64))), .second, .val (.long (own_lc ((own_yr p1).toInt64))), .second, .val (.long (own_lx ((own_yr p1).toInt64))), .second, .val (.long (own_lz ((own_yr p1).toInt64))), .second, .val (.long (own_ld ((own_yr p1).toInt64))), .second, .val (.long (own_le ((own_yr p1).toInt64))), .second, .val (.long ((44 : Int64) - (own_le ((own_yr p1).toInt64)))), .second, .unset] [(.long ((44 : Int64) - (own_le ((own_yr p1).toInt64))))])) _
      refine X277.ldc2Long hx hown (mvT hZ (wd hw 13 rfl)) (g := (mkF m 159 #[.val (.int p1), .val (.int (own_yr p1)), .val (.long ((own_yr p1).toInt64)), .second, .val (.long (own_lg ((own_yr p1).toInt64))), .second, .val (.long (own_lc ((own_yr p1).toInt64))), .second, .val (.long (own_lx ((own_yr p1).toInt64))), .second, .val (.long (own_lz ((own_yr p1).toInt64))), .second, .val (.long (own_ld ((own_yr p1).toInt64))), .second, .val (.long (own_le ((own_yr p1).toInt64))), .second, .val (.long ((44 : Int64) - (own_le ((own_yr p1).toInt64)))), .second, .unset] [(.long ((44 : Int64) - (own_le ((own_yr p1).toInt64))))])) rfl (hb hby at_159) _ ?_
      show Steps p.tables e below (T277.setTop (mkF m 162 #[.val (.int p1), .val (.int (own_yr p1)), .val (.long ((own_yr p1).toInt64)), .second, .val (.long (own_lg ((own_yr p1).toInt64))), .second, .val (.long (own_lc ((own_yr p1).toInt64))), .second, .val (.long (own_lx ((own_yr p1).toInt64))), .second, .val (.long (own_lz ((own_yr p1).toInt64))), .second, .val (.long (own_ld ((own_yr p1).toInt64))), .second, .val (.long (own_le ((own_yr p1).toInt64))), .second, .val (.long ((44 : Int64) - (own_le ((own_yr p1).toInt64)))), .second, .unset] [(.long (30 : Int64)), (.long ((44 : Int64) - (own_le ((own_yr p1).toInt64))))])) _
      refine XS.ladd X277.here hx rfl (hb hby at_162) rfl ?_
      show Steps p.tables e below (T277.setTop (mkF m 163 #[.val (.int p1), .val (.int (own_yr p1)), .val (.long ((own_yr p1).toInt64)), .second, .val (.long (own_lg ((own_yr p1).toInt64))), .second, .val (.long (own_lc ((own_yr p1).toInt64))), .second, .val (.long (own_lx ((own_yr p1).toInt64))), .second, .val (.long (own_lz ((own_yr p1).toInt64))), .second, .val (.long (own_ld ((own_yr p1).toInt64))), .second, .val (.long (own_le ((own_yr p1).toInt64))), .second, .val (.long ((44 : Int64) - (own_le ((own_yr p1).toInt64)))), .second, .unset] [(.long (((44 : Int64) - (own_le ((own_yr p1).toInt64))) + (30 : Int64)))])) _
      refine XS.lstore X277.here hx rfl (hb hby at_163) rfl (l' := #[.val (.int p1), .val (.int (own_yr p1)), .val (.long ((own_yr p1).toInt64)), .second, .val (.long (own_lg ((own_yr p1).toInt64))), .second, .val (.long (own_lc ((own_yr p1).toInt64))), .second, .val (.long (own_lx ((own_yr p1).toInt64))), .second, .val (.long (own_lz ((own_yr p1).toInt64))), .second, .val (.long (own_ld ((own_yr p1).toInt64))), .second, .val (.long (own_le ((own_yr p1).toInt64))), .second, .val (.long (((44 : Int64) - (own_le ((own_yr p1).toInt64))) + (30 : Int64))), .second, .unset]) rfl ?_
      show Steps p.tables e below (T277.setTop (mkF m 165 #[.val (.int p1), .val (.int (own_yr p1)), .val (.long ((own_yr p1).toInt64)), .second, .val (.long (own_lg ((own_yr p1).toInt64))), .second, .val (.long (own_lc ((own_yr p1).toInt64))), .second, .val (.long (own_lx ((own_yr p1).toInt64))), .second, .val (.long (own_lz ((own_yr p1).toInt64))), .second, .val (.long (own_ld ((own_yr p1).toInt64))), .second, .val (.long (own_le ((own_yr p1).toInt64))), .second, .val (.long (((44 : Int64) - (own_le ((own_yr p1).toInt64))) + (30 : Int64))), .second, .unset] [])) _
      simp only [if_pos hb283] at hv282; subst hv282
      exact k
    · refine XS.ifYes X277.here hx rfl (pc0 := 154) (pc' := 165) rfl (hb hby at_154) rfl ((if0 _ _).trans (flt (mt (lw_lt _ _).mp hb283)).2.1) (by decide) (by decide) ?_
      show Steps p.tables e below (T277.setTop (mkF m 165 #[.val (.int p1), .val (.int (own_yr p1)), .val (.long ((own_yr p1).toInt64)), .second, .val (.long (own_lg ((own_yr p1).toInt64))), .second, .val (.long (own_lc ((own_yr p1).toInt64))), .second, .val (.long (own_lx ((own_yr p1).toInt64))), .second, .val (.long (own_lz ((own_yr p1).toInt64))), .second, .val (.long (own_ld ((own_yr p1).toInt64))), .second, .val (.long (own_le ((own_yr p1).toInt64))), .second, .val (.long ((44 : Int64) - (own_le ((own_yr p1).toInt64)))), .second, .unset] [])) _
      simp only [if_neg hb283] at hv282; subst hv282
      exact k
  show Goes p e below (T277.setTop (mkF m 165 #[.val (.int p1), .val (.int (own_yr p1)), .val (.long ((own_yr p1).toInt64)), .second, .val (.long (own_lg ((own_yr p1).toInt64))), .second, .val (.long (own_lc ((own_yr p1).toInt64))), .second, .val (.long (own_lx ((own_yr p1).toInt64))), .second, .val (.long (own_lz ((own_yr p1).toInt64))), .second, .val (.long (own_ld ((own_yr p1).toInt64))), .second, .val (.long (own_le ((own_yr p1).toInt64))), .second, .val (.long v282), .second, .unset] [])) _
  have hn : v282 = own_ln ((own_yr p1).toInt64) := hv282
  rw [hn]
  show Goes p e below (T277.setTop (mkF m 165 #[.val (.int p1), .val (.int (own_yr p1)), .val (.long ((own_yr p1).toInt64)), .second, .val (.long (own_lg ((own_yr p1).toInt64))), .second, .val (.long (own_lc ((own_yr p1).toInt64))), .second, .val (.long (own_lx ((own_yr p1).toInt64))), .second, .val (.long (own_lz ((own_yr p1).toInt64))), .second, .val (.long (own_ld ((own_yr p1).toInt64))), .second, .val (.long (own_le ((own_yr p1).toInt64))), .second, .val (.long (own_ln ((own_yr p1).toInt64))), .second, .unset] [])) _
  refine Goes.of (fun t k => XS.lload X277.here hx rfl (hb hby at_165) rfl k) ?_
  show Goes p e below (T277.setTop (mkF m 167 #[.val (.int p1), .val (.int (own_yr p1)), .val (.long ((own_yr p1).toInt64)), .second, .val (.long (own_lg ((own_yr p1).toInt64))), .second, .val (.long (own_lc ((own_yr p1).toInt64))), .second, .val (.long (own_lx ((own_yr p1).toInt64))), .second, .val (.long (own_lz ((own_yr p1).toInt64))), .second, .val (.long (own_ld ((own_yr p1).toInt64))), .second, .val (.long (own_le ((own_yr p1).toInt64))), .second, .val (.long (own_ln ((own_yr p1).toInt64))), .second, .unset] [(.long (own_ln ((own_yr p1).toInt64)))])) _
  refine Goes.of (fun t k => X277.ldc2Long hx hown (mvT hZ (wd hw 21 rfl)) (g := (mkF m 167 #[.val (.int p1), .val (.int (own_yr p1)), .val (.long ((own_yr p1).toInt64)), .second, .val (.long (own_lg ((own_yr p1).toInt64))), .second, .val (.long (own_lc ((own_yr p1).toInt64))), .second, .val (.long (own_lx ((own_yr p1).toInt64))), .second, .val (.long (own_lz ((own_yr p1).toInt64))), .second, .val (.long (own_ld ((own_yr p1).toInt64))), .second, .val (.long (own_le ((own_yr p1).toInt64))), .second, .val (.long (own_ln ((own_yr p1).toInt64))), .second, .unset] [(.long (own_ln ((own_yr p1).toInt64)))])) rfl (hb hby at_167) _ k) ?_
  show Goes p e below (T277.setTop (mkF m 170 #[.val (.int p1), .val (.int (own_yr p1)), .val (.long ((own_yr p1).toInt64)), .second, .val (.long (own_lg ((own_yr p1).toInt64))), .second, .val (.long (own_lc ((own_yr p1).toInt64))), .second, .val (.long (own_lx ((own_yr p1).toInt64))), .second, .val (.long (own_lz ((own_yr p1).toInt64))), .second, .val (.long (own_ld ((own_yr p1).toInt64))), .second, .val (.long (own_le ((own_yr p1).toInt64))), .second, .val (.long (own_ln ((own_yr p1).toInt64))), .second, .unset] [(.long (7 : Int64)), (.long (own_ln ((own_yr p1).toInt64)))])) _
  refine Goes.of (fun t k => XS.ladd X277.here hx rfl (hb hby at_170) rfl k) ?_
  show Goes p e below (T277.setTop (mkF m 171 #[.val (.int p1), .val (.int (own_yr p1)), .val (.long ((own_yr p1).toInt64)), .second, .val (.long (own_lg ((own_yr p1).toInt64))), .second, .val (.long (own_lc ((own_yr p1).toInt64))), .second, .val (.long (own_lx ((own_yr p1).toInt64))), .second, .val (.long (own_lz ((own_yr p1).toInt64))), .second, .val (.long (own_ld ((own_yr p1).toInt64))), .second, .val (.long (own_le ((own_yr p1).toInt64))), .second, .val (.long (own_ln ((own_yr p1).toInt64))), .second, .unset] [(.long ((own_ln ((own_yr p1).toInt64)) + (7 : Int64)))])) _
  refine Goes.of (fun t k => XS.lload X277.here hx rfl (hb hby at_171) rfl k) ?_
  show Goes p e below (T277.setTop (mkF m 173 #[.val (.int p1), .val (.int (own_yr p1)), .val (.long ((own_yr p1).toInt64)), .second, .val (.long (own_lg ((own_yr p1).toInt64))), .second, .val (.long (own_lc ((own_yr p1).toInt64))), .second, .val (.long (own_lx ((own_yr p1).toInt64))), .second, .val (.long (own_lz ((own_yr p1).toInt64))), .second, .val (.long (own_ld ((own_yr p1).toInt64))), .second, .val (.long (own_le ((own_yr p1).toInt64))), .second, .val (.long (own_ln ((own_yr p1).toInt64))), .second, .unset] [(.long (own_ld ((own_yr p1).toInt64))), (.long ((own_ln ((own_yr p1).toInt64)) + (7 : Int64)))])) _
  refine Goes.of (fun t k => XS.lload X277.here hx rfl (hb hby at_173) rfl k) ?_
  show Goes p e below (T277.setTop (mkF m 175 #[.val (.int p1), .val (.int (own_yr p1)), .val (.long ((own_yr p1).toInt64)), .second, .val (.long (own_lg ((own_yr p1).toInt64))), .second, .val (.long (own_lc ((own_yr p1).toInt64))), .second, .val (.long (own_lx ((own_yr p1).toInt64))), .second, .val (.long (own_lz ((own_yr p1).toInt64))), .second, .val (.long (own_ld ((own_yr p1).toInt64))), .second, .val (.long (own_le ((own_yr p1).toInt64))), .second, .val (.long (own_ln ((own_yr p1).toInt64))), .second, .unset] [(.long (own_ln ((own_yr p1).toInt64))), (.long (own_ld ((own_yr p1).toInt64))), (.long ((own_ln ((own_yr p1).toInt64)) + (7 : Int64)))])) _
  refine Goes.of (fun t k => XS.ladd X277.here hx rfl (hb hby at_175) rfl k) ?_
  show Goes p e below (T277.setTop (mkF m 176 #[.val (.int p1), .val (.int (own_yr p1)), .val (.long ((own_yr p1).toInt64)), .second, .val (.long (own_lg ((own_yr p1).toInt64))), .second, .val (.long (own_lc ((own_yr p1).toInt64))), .second, .val (.long (own_lx ((own_yr p1).toInt64))), .second, .val (.long (own_lz ((own_yr p1).toInt64))), .second, .val (.long (own_ld ((own_yr p1).toInt64))), .second, .val (.long (own_le ((own_yr p1).toInt64))), .second, .val (.long (own_ln ((own_yr p1).toInt64))), .second, .unset] [(.long ((own_ld ((own_yr p1).toInt64)) + (own_ln ((own_yr p1).toInt64)))), (.long ((own_ln ((own_yr p1).toInt64)) + (7 : Int64)))])) _
  refine Goes.of (fun t k => X277.ldc2Long hx hown (mvT hZ (wd hw 21 rfl)) (g := (mkF m 176 #[.val (.int p1), .val (.int (own_yr p1)), .val (.long ((own_yr p1).toInt64)), .second, .val (.long (own_lg ((own_yr p1).toInt64))), .second, .val (.long (own_lc ((own_yr p1).toInt64))), .second, .val (.long (own_lx ((own_yr p1).toInt64))), .second, .val (.long (own_lz ((own_yr p1).toInt64))), .second, .val (.long (own_ld ((own_yr p1).toInt64))), .second, .val (.long (own_le ((own_yr p1).toInt64))), .second, .val (.long (own_ln ((own_yr p1).toInt64))), .second, .unset] [(.long ((own_ld ((own_yr p1).toInt64)) + (own_ln ((own_yr p1).toInt64)))), (.long ((own_ln ((own_yr p1).toInt64)) + (7 : Int64)))])) rfl (hb hby at_176) _ k) ?_
  obtain ⟨_, _, ⟨T284, L284, k284, n284⟩, -, X284, ⟨Lc284, hQ284, l284, y284, z284⟩, st284⟩ := Jvm.LawKit.callS X277 hx (y := (⟨"com/example/hinta/hinta/HolidayEasterSundayPinLaw", "mod", "(JJ)J"⟩ : MethodName)) hown (mvT hZ (wd hw 14 rfl)) (mvT hZ (wd hw 15 rfl)) (mvT hZ (wd hw 16 rfl)) (mvT hZ (wd hw 17 rfl)) (by decide) (backOf (W := 2) (rm1 l Z a0 hw [] ((own_ld ((own_yr p1).toInt64)) + (own_ln ((own_yr p1).toInt64))) (7 : Int64)  h0 n0 Z0 (by decide)) hZ (wd hw 17 rfl) (wd hw 16 rfl) (by decide) (by decide)) (g := (mkF m 179 #[.val (.int p1), .val (.int (own_yr p1)), .val (.long ((own_yr p1).toInt64)), .second, .val (.long (own_lg ((own_yr p1).toInt64))), .second, .val (.long (own_lc ((own_yr p1).toInt64))), .second, .val (.long (own_lx ((own_yr p1).toInt64))), .second, .val (.long (own_lz ((own_yr p1).toInt64))), .second, .val (.long (own_ld ((own_yr p1).toInt64))), .second, .val (.long (own_le ((own_yr p1).toInt64))), .second, .val (.long (own_ln ((own_yr p1).toInt64))), .second, .unset] [(.long (7 : Int64)), (.long ((own_ld ((own_yr p1).toInt64)) + (own_ln ((own_yr p1).toInt64)))), (.long ((own_ln ((own_yr p1).toInt64)) + (7 : Int64)))])) rfl (by rw [hml]; rfl) (argsL := [(.long ((own_ld ((own_yr p1).toInt64)) + (own_ln ((own_yr p1).toInt64)))), (.long (7 : Int64))]) (rest := [(.long ((own_ln ((own_yr p1).toInt64)) + (7 : Int64)))]) (lenOf pd_20 rfl) rfl (by show 2 * 0 + _ ≤ _; exact Nat.le_of_eq rfl) (hb hby at_179) (fun _ _ => ⟨rfl, e277, (by decide : 0 + 0 ≤ _), (by decide : 0 + 0 ≤ _)⟩)
  dsimp only [Pt.U, Pt.locs, Pt.cells, Pt.slots] at X284 l284 y284 z284 st284 hQ284
  subst l284 y284 z284
  obtain ⟨rfl, N284q, e284⟩ := hQ284
  have N284 := Fr.app N277 N284q
  refine Goes.of st284 ?_
  show Goes p e below (T284.setTop (mkF m 182 #[.val (.int p1), .val (.int (own_yr p1)), .val (.long ((own_yr p1).toInt64)), .second, .val (.long (own_lg ((own_yr p1).toInt64))), .second, .val (.long (own_lc ((own_yr p1).toInt64))), .second, .val (.long (own_lx ((own_yr p1).toInt64))), .second, .val (.long (own_lz ((own_yr p1).toInt64))), .second, .val (.long (own_ld ((own_yr p1).toInt64))), .second, .val (.long (own_le ((own_yr p1).toInt64))), .second, .val (.long (own_ln ((own_yr p1).toInt64))), .second, .unset] [(.long (own_mod (own_ld ((own_yr p1).toInt64) + own_ln ((own_yr p1).toInt64)) 7)), (.long ((own_ln ((own_yr p1).toInt64)) + (7 : Int64)))])) _
  refine Goes.of (fun t k => XS.lsub X284.here hx rfl (hb hby at_182) rfl k) ?_
  show Goes p e below (T284.setTop (mkF m 183 #[.val (.int p1), .val (.int (own_yr p1)), .val (.long ((own_yr p1).toInt64)), .second, .val (.long (own_lg ((own_yr p1).toInt64))), .second, .val (.long (own_lc ((own_yr p1).toInt64))), .second, .val (.long (own_lx ((own_yr p1).toInt64))), .second, .val (.long (own_lz ((own_yr p1).toInt64))), .second, .val (.long (own_ld ((own_yr p1).toInt64))), .second, .val (.long (own_le ((own_yr p1).toInt64))), .second, .val (.long (own_ln ((own_yr p1).toInt64))), .second, .unset] [(.long (((own_ln ((own_yr p1).toInt64)) + (7 : Int64)) - (own_mod (own_ld ((own_yr p1).toInt64) + own_ln ((own_yr p1).toInt64)) 7)))])) _
  refine Goes.of (fun t k => XS.lstore X284.here hx rfl (hb hby at_183) rfl (l' := #[.val (.int p1), .val (.int (own_yr p1)), .val (.long ((own_yr p1).toInt64)), .second, .val (.long (own_lg ((own_yr p1).toInt64))), .second, .val (.long (own_lc ((own_yr p1).toInt64))), .second, .val (.long (own_lx ((own_yr p1).toInt64))), .second, .val (.long (own_lz ((own_yr p1).toInt64))), .second, .val (.long (own_ld ((own_yr p1).toInt64))), .second, .val (.long (own_le ((own_yr p1).toInt64))), .second, .val (.long (((own_ln ((own_yr p1).toInt64)) + (7 : Int64)) - (own_mod (own_ld ((own_yr p1).toInt64) + own_ln ((own_yr p1).toInt64)) 7))), .second, .unset]) rfl k) ?_
  show Goes p e below (T284.setTop (mkF m 185 #[.val (.int p1), .val (.int (own_yr p1)), .val (.long ((own_yr p1).toInt64)), .second, .val (.long (own_lg ((own_yr p1).toInt64))), .second, .val (.long (own_lc ((own_yr p1).toInt64))), .second, .val (.long (own_lx ((own_yr p1).toInt64))), .second, .val (.long (own_lz ((own_yr p1).toInt64))), .second, .val (.long (own_ld ((own_yr p1).toInt64))), .second, .val (.long (own_le ((own_yr p1).toInt64))), .second, .val (.long (((own_ln ((own_yr p1).toInt64)) + (7 : Int64)) - (own_mod (own_ld ((own_yr p1).toInt64) + own_ln ((own_yr p1).toInt64)) 7))), .second, .unset] [])) _
  show Goes p e below (T284.setTop (mkF m 185 #[.val (.int p1), .val (.int (own_yr p1)), .val (.long ((own_yr p1).toInt64)), .second, .val (.long (own_lg ((own_yr p1).toInt64))), .second, .val (.long (own_lc ((own_yr p1).toInt64))), .second, .val (.long (own_lx ((own_yr p1).toInt64))), .second, .val (.long (own_lz ((own_yr p1).toInt64))), .second, .val (.long (own_ld ((own_yr p1).toInt64))), .second, .val (.long (own_le ((own_yr p1).toInt64))), .second, .val (.long (own_n ((own_yr p1).toInt64))), .second, .unset] [])) _
  have yb := own_yrb p1
  have eas := own_easter (own_yr p1) yb.1 yb.2
  refine Goes.of (fun t k => XS.lload X284.here hx rfl (hb hby at_185) rfl k) ?_
  show Goes p e below (T284.setTop (mkF m 187 #[.val (.int p1), .val (.int (own_yr p1)), .val (.long ((own_yr p1).toInt64)), .second, .val (.long (own_lg ((own_yr p1).toInt64))), .second, .val (.long (own_lc ((own_yr p1).toInt64))), .second, .val (.long (own_lx ((own_yr p1).toInt64))), .second, .val (.long (own_lz ((own_yr p1).toInt64))), .second, .val (.long (own_ld ((own_yr p1).toInt64))), .second, .val (.long (own_le ((own_yr p1).toInt64))), .second, .val (.long (own_n ((own_yr p1).toInt64))), .second, .unset] [(.long (own_n ((own_yr p1).toInt64)))])) _
  refine Goes.of (fun t k => X284.ldc2Long hx hown (mvT hZ (wd hw 22 rfl)) (g := (mkF m 187 #[.val (.int p1), .val (.int (own_yr p1)), .val (.long ((own_yr p1).toInt64)), .second, .val (.long (own_lg ((own_yr p1).toInt64))), .second, .val (.long (own_lc ((own_yr p1).toInt64))), .second, .val (.long (own_lx ((own_yr p1).toInt64))), .second, .val (.long (own_lz ((own_yr p1).toInt64))), .second, .val (.long (own_ld ((own_yr p1).toInt64))), .second, .val (.long (own_le ((own_yr p1).toInt64))), .second, .val (.long (own_n ((own_yr p1).toInt64))), .second, .unset] [(.long (own_n ((own_yr p1).toInt64)))])) rfl (hb hby at_187) _ k) ?_
  show Goes p e below (T284.setTop (mkF m 190 #[.val (.int p1), .val (.int (own_yr p1)), .val (.long ((own_yr p1).toInt64)), .second, .val (.long (own_lg ((own_yr p1).toInt64))), .second, .val (.long (own_lc ((own_yr p1).toInt64))), .second, .val (.long (own_lx ((own_yr p1).toInt64))), .second, .val (.long (own_lz ((own_yr p1).toInt64))), .second, .val (.long (own_ld ((own_yr p1).toInt64))), .second, .val (.long (own_le ((own_yr p1).toInt64))), .second, .val (.long (own_n ((own_yr p1).toInt64))), .second, .unset] [(.long (31 : Int64)), (.long (own_n ((own_yr p1).toInt64)))])) _
  refine Goes.of (fun t k => XS.lcmp X284.here hx rfl (hb hby at_190) rfl k) ?_
  show Goes p e below (T284.setTop (mkF m 191 #[.val (.int p1), .val (.int (own_yr p1)), .val (.long ((own_yr p1).toInt64)), .second, .val (.long (own_lg ((own_yr p1).toInt64))), .second, .val (.long (own_lc ((own_yr p1).toInt64))), .second, .val (.long (own_lx ((own_yr p1).toInt64))), .second, .val (.long (own_lz ((own_yr p1).toInt64))), .second, .val (.long (own_ld ((own_yr p1).toInt64))), .second, .val (.long (own_le ((own_yr p1).toInt64))), .second, .val (.long (own_n ((own_yr p1).toInt64))), .second, .unset] [(.int (lcmpW (own_n ((own_yr p1).toInt64)) (31 : Int64)))])) _
  by_cases hc191_285 : (31 : Int64) < (own_n ((own_yr p1).toInt64))
  · refine Goes.of (fun t k => XS.ifNo X284.here hx rfl (hb hby at_191) rfl ((if0 _ _).trans (tlt ((lw_gt _ _).mpr hc191_285)).2.2.2) k) ?_
    show Goes p e below (T284.setTop (mkF m 194 #[.val (.int p1), .val (.int (own_yr p1)), .val (.long ((own_yr p1).toInt64)), .second, .val (.long (own_lg ((own_yr p1).toInt64))), .second, .val (.long (own_lc ((own_yr p1).toInt64))), .second, .val (.long (own_lx ((own_yr p1).toInt64))), .second, .val (.long (own_lz ((own_yr p1).toInt64))), .second, .val (.long (own_ld ((own_yr p1).toInt64))), .second, .val (.long (own_le ((own_yr p1).toInt64))), .second, .val (.long (own_n ((own_yr p1).toInt64))), .second, .unset] [])) _
    have ff := own_fin4 eas.1 (by omega) (by omega) hc191_285
    refine Goes.of (fun t k => XS.iloadN X284.here hx rfl (hb hby at_194) rfl k) ?_
    show Goes p e below (T284.setTop (mkF m 195 #[.val (.int p1), .val (.int (own_yr p1)), .val (.long ((own_yr p1).toInt64)), .second, .val (.long (own_lg ((own_yr p1).toInt64))), .second, .val (.long (own_lc ((own_yr p1).toInt64))), .second, .val (.long (own_lx ((own_yr p1).toInt64))), .second, .val (.long (own_lz ((own_yr p1).toInt64))), .second, .val (.long (own_ld ((own_yr p1).toInt64))), .second, .val (.long (own_le ((own_yr p1).toInt64))), .second, .val (.long (own_n ((own_yr p1).toInt64))), .second, .unset] [(.int (own_yr p1))])) _
    refine Goes.of (fun t k => XS.iconst X284.here hx rfl (hb hby at_195) k) ?_
    show Goes p e below (T284.setTop (mkF m 196 #[.val (.int p1), .val (.int (own_yr p1)), .val (.long ((own_yr p1).toInt64)), .second, .val (.long (own_lg ((own_yr p1).toInt64))), .second, .val (.long (own_lc ((own_yr p1).toInt64))), .second, .val (.long (own_lx ((own_yr p1).toInt64))), .second, .val (.long (own_lz ((own_yr p1).toInt64))), .second, .val (.long (own_ld ((own_yr p1).toInt64))), .second, .val (.long (own_le ((own_yr p1).toInt64))), .second, .val (.long (own_n ((own_yr p1).toInt64))), .second, .unset] [(.int (4 : Int32)), (.int (own_yr p1))])) _
    refine Goes.of (fun t k => XS.lload X284.here hx rfl (hb hby at_196) rfl k) ?_
    show Goes p e below (T284.setTop (mkF m 198 #[.val (.int p1), .val (.int (own_yr p1)), .val (.long ((own_yr p1).toInt64)), .second, .val (.long (own_lg ((own_yr p1).toInt64))), .second, .val (.long (own_lc ((own_yr p1).toInt64))), .second, .val (.long (own_lx ((own_yr p1).toInt64))), .second, .val (.long (own_lz ((own_yr p1).toInt64))), .second, .val (.long (own_ld ((own_yr p1).toInt64))), .second, .val (.long (own_le ((own_yr p1).toInt64))), .second, .val (.long (own_n ((own_yr p1).toInt64))), .second, .unset] [(.long (own_n ((own_yr p1).toInt64))), (.int (4 : Int32)), (.int (own_yr p1))])) _
    refine Goes.of (fun t k => X284.ldc2Long hx hown (mvT hZ (wd hw 22 rfl)) (g := (mkF m 198 #[.val (.int p1), .val (.int (own_yr p1)), .val (.long ((own_yr p1).toInt64)), .second, .val (.long (own_lg ((own_yr p1).toInt64))), .second, .val (.long (own_lc ((own_yr p1).toInt64))), .second, .val (.long (own_lx ((own_yr p1).toInt64))), .second, .val (.long (own_lz ((own_yr p1).toInt64))), .second, .val (.long (own_ld ((own_yr p1).toInt64))), .second, .val (.long (own_le ((own_yr p1).toInt64))), .second, .val (.long (own_n ((own_yr p1).toInt64))), .second, .unset] [(.long (own_n ((own_yr p1).toInt64))), (.int (4 : Int32)), (.int (own_yr p1))])) rfl (hb hby at_198) _ k) ?_
    show Goes p e below (T284.setTop (mkF m 201 #[.val (.int p1), .val (.int (own_yr p1)), .val (.long ((own_yr p1).toInt64)), .second, .val (.long (own_lg ((own_yr p1).toInt64))), .second, .val (.long (own_lc ((own_yr p1).toInt64))), .second, .val (.long (own_lx ((own_yr p1).toInt64))), .second, .val (.long (own_lz ((own_yr p1).toInt64))), .second, .val (.long (own_ld ((own_yr p1).toInt64))), .second, .val (.long (own_le ((own_yr p1).toInt64))), .second, .val (.long (own_n ((own_yr p1).toInt64))), .second, .unset] [(.long (31 : Int64)), (.long (own_n ((own_yr p1).toInt64))), (.int (4 : Int32)), (.int (own_yr p1))])) _
    refine Goes.of (fun t k => XS.lsub X284.here hx rfl (hb hby at_201) rfl k) ?_
    show Goes p e below (T284.setTop (mkF m 202 #[.val (.int p1), .val (.int (own_yr p1)), .val (.long ((own_yr p1).toInt64)), .second, .val (.long (own_lg ((own_yr p1).toInt64))), .second, .val (.long (own_lc ((own_yr p1).toInt64))), .second, .val (.long (own_lx ((own_yr p1).toInt64))), .second, .val (.long (own_lz ((own_yr p1).toInt64))), .second, .val (.long (own_ld ((own_yr p1).toInt64))), .second, .val (.long (own_le ((own_yr p1).toInt64))), .second, .val (.long (own_n ((own_yr p1).toInt64))), .second, .unset] [(.long ((own_n ((own_yr p1).toInt64)) - (31 : Int64))), (.int (4 : Int32)), (.int (own_yr p1))])) _
    refine Goes.of (fun t k => XS.l2i X284.here hx rfl (hb hby at_202) rfl k) ?_
    obtain ⟨_, _, ⟨T286, L286, k286, n286⟩, -, X286, ⟨Lc286, hQ286, l286, y286, z286⟩, st286⟩ := Jvm.LawKit.callS X284 hx (y := (⟨"java/time/LocalDate", "of", "(III)Ljava/time/LocalDate;"⟩ : MethodName)) hown (mvT hZ (wd hw 23 rfl)) (mvT hZ (wd hw 24 rfl)) (mvT hZ (wd hw 25 rfl)) (mvT hZ (wd hw 26 rfl)) (by decide) (backOf (W := 0) (rm2_117 l Z a0 hw [] (own_yr p1) (((own_n ((own_yr p1).toInt64)) - (31 : Int64)).toInt32) aY rY aO rO aD rD h0 n0 Z0 O0 SY EY RY GY MY XY SO EO RO GO MO XO SD ED RD GD MD XD yb.1 yb.2 ff.2.2.1 ff.2.2.2) hZ (wd hw 26 rfl) (wd hw 25 rfl) (by decide) (by decide)) (g := (mkF m 203 #[.val (.int p1), .val (.int (own_yr p1)), .val (.long ((own_yr p1).toInt64)), .second, .val (.long (own_lg ((own_yr p1).toInt64))), .second, .val (.long (own_lc ((own_yr p1).toInt64))), .second, .val (.long (own_lx ((own_yr p1).toInt64))), .second, .val (.long (own_lz ((own_yr p1).toInt64))), .second, .val (.long (own_ld ((own_yr p1).toInt64))), .second, .val (.long (own_le ((own_yr p1).toInt64))), .second, .val (.long (own_n ((own_yr p1).toInt64))), .second, .unset] [(.int (((own_n ((own_yr p1).toInt64)) - (31 : Int64)).toInt32)), (.int (4 : Int32)), (.int (own_yr p1))])) rfl (by rw [hml]; rfl) (argsL := [(.int (own_yr p1)), (.int (4 : Int32)), (.int (((own_n ((own_yr p1).toInt64)) - (31 : Int64)).toInt32))]) (rest := []) (lenOf pd_10 rfl) rfl (by show 2 * 0 + _ ≤ _; exact Nat.le_of_eq rfl) (hb hby at_203) (fun _ _ => ⟨rfl, e284, (by decide : 0 + 1 ≤ _), (by decide : 0 + 3 ≤ _)⟩)
    dsimp only [Pt.U, Pt.locs, Pt.cells, Pt.slots] at X286 l286 y286 z286 st286 hQ286
    subst l286 y286 z286
    obtain ⟨b286, rfl, N286q, K286, z286b, E286, F286_year, F286_month, F286_day⟩ := hQ286
    have N286 := Fr.app N284 N286q
    have q287 : aY ≠ b286 := Nat.ne_of_lt (Nat.lt_of_lt_of_le (EY.ext O0.2).lt z286b)
    have q288 : aO ≠ b286 := Nat.ne_of_lt (Nat.lt_of_lt_of_le (EO.ext O0.2).lt z286b)
    have q289 : aD ≠ b286 := Nat.ne_of_lt (Nat.lt_of_lt_of_le (ED.ext O0.2).lt z286b)
    have q290 : aM ≠ b286 := Nat.ne_of_lt (Nat.lt_of_lt_of_le (EM.ext O0.2).lt z286b)
    have g291 : n0 ≤ b286 := Nat.le_trans Z0 z286b
    have z292 := Nat.le_trans Z0 K286.1
    have z293 := Nat.le_trans kS0 K286.1
    have f294 := O0.keep K286 all0
    refine Goes.of st286 ?_
    show Goes p e below (T286.setTop (mkF m 206 #[.val (.int p1), .val (.int (own_yr p1)), .val (.long ((own_yr p1).toInt64)), .second, .val (.long (own_lg ((own_yr p1).toInt64))), .second, .val (.long (own_lc ((own_yr p1).toInt64))), .second, .val (.long (own_lx ((own_yr p1).toInt64))), .second, .val (.long (own_lz ((own_yr p1).toInt64))), .second, .val (.long (own_ld ((own_yr p1).toInt64))), .second, .val (.long (own_le ((own_yr p1).toInt64))), .second, .val (.long (own_n ((own_yr p1).toInt64))), .second, .unset] [(.ref b286)])) _
    refine Goes.of (fun t k => XS.astore X286.here hx rfl (hb hby at_206) rfl rfl (l' := #[.val (.int p1), .val (.int (own_yr p1)), .val (.long ((own_yr p1).toInt64)), .second, .val (.long (own_lg ((own_yr p1).toInt64))), .second, .val (.long (own_lc ((own_yr p1).toInt64))), .second, .val (.long (own_lx ((own_yr p1).toInt64))), .second, .val (.long (own_lz ((own_yr p1).toInt64))), .second, .val (.long (own_ld ((own_yr p1).toInt64))), .second, .val (.long (own_le ((own_yr p1).toInt64))), .second, .val (.long (own_n ((own_yr p1).toInt64))), .second, .val (.ref b286)]) rfl k) ?_
    show Goes p e below (T286.setTop (mkF m 208 #[.val (.int p1), .val (.int (own_yr p1)), .val (.long ((own_yr p1).toInt64)), .second, .val (.long (own_lg ((own_yr p1).toInt64))), .second, .val (.long (own_lc ((own_yr p1).toInt64))), .second, .val (.long (own_lx ((own_yr p1).toInt64))), .second, .val (.long (own_lz ((own_yr p1).toInt64))), .second, .val (.long (own_ld ((own_yr p1).toInt64))), .second, .val (.long (own_le ((own_yr p1).toInt64))), .second, .val (.long (own_n ((own_yr p1).toInt64))), .second, .val (.ref b286)] [])) _
    refine Goes.of (fun t k => XS.goto X286.here hx rfl (pc0 := 208) (pc' := 221) rfl (hb hby at_208) (by decide) (by decide) k) ?_
    show Goes p e below (T286.setTop (mkF m 221 #[.val (.int p1), .val (.int (own_yr p1)), .val (.long ((own_yr p1).toInt64)), .second, .val (.long (own_lg ((own_yr p1).toInt64))), .second, .val (.long (own_lc ((own_yr p1).toInt64))), .second, .val (.long (own_lx ((own_yr p1).toInt64))), .second, .val (.long (own_lz ((own_yr p1).toInt64))), .second, .val (.long (own_ld ((own_yr p1).toInt64))), .second, .val (.long (own_le ((own_yr p1).toInt64))), .second, .val (.long (own_n ((own_yr p1).toInt64))), .second, .val (.ref b286)] [])) _
    refine Goes.of (fun t k => XS.iloadN X286.here hx rfl (hb hby at_221) rfl k) ?_
    obtain ⟨_, _, ⟨T295, L295, k295, n295⟩, -, X295, hS295, kS295, ⟨Lc295, hQ295, l295, y295, z295⟩, st295⟩ := callSS X286 hx (y := (⟨"com/example/hinta/hinta/Holiday", "easterSunday", "(I)Ljava/time/LocalDate;"⟩ : MethodName)) hown (mvT hZ (wd hw 86 rfl)) (mvT hZ (wd hw 87 rfl)) (mvT hZ (wd hw 88 rfl)) (mvT hZ (wd hw 89 rfl)) (by decide) (backOfS (W := 0) (rm12 l Z a0 hw [] (own_yr p1) aY rY aO rO aD rD aM T286.heap n0 z292 f294 SY EY RY GY MY XY SO EO RO GO MO XO SD ED RD GD MD XD EM FM SM yb.1 yb.2) hZ (wd hw 89 rfl) (wd hw 88 rfl) (by decide) (by decide)) (g := (mkF m 222 #[.val (.int p1), .val (.int (own_yr p1)), .val (.long ((own_yr p1).toInt64)), .second, .val (.long (own_lg ((own_yr p1).toInt64))), .second, .val (.long (own_lc ((own_yr p1).toInt64))), .second, .val (.long (own_lx ((own_yr p1).toInt64))), .second, .val (.long (own_lz ((own_yr p1).toInt64))), .second, .val (.long (own_ld ((own_yr p1).toInt64))), .second, .val (.long (own_le ((own_yr p1).toInt64))), .second, .val (.long (own_n ((own_yr p1).toInt64))), .second, .val (.ref b286)] [(.int (own_yr p1))])) rfl (by rw [hml]; rfl) (argsL := [(.int (own_yr p1))]) (rest := []) (lenOf pd_21 rfl) rfl (by show 2 * 0 + _ ≤ _; exact Nat.le_of_eq rfl) (hb hby at_222) (fun _ _ => ⟨rfl, rfl, (by decide : 1 + 4 ≤ _), (by decide : 3 + 30 ≤ _)⟩)
    dsimp only [Pt.U, Pt.locs, Pt.cells, Pt.slots] at X295 l295 y295 z295 st295 hQ295 hS295 kS295
    subst l295 y295 z295
    obtain ⟨X295, hS295, hZ, hown⟩ := rebS hS0 z293 X295 hS295 kS295 hZ hown
    obtain ⟨c295, rfl, N295q, K295, E295, F295_year, F295_month, F295_day⟩ := hQ295
    have N295 := Fr.app N286 N295q
    have z296 := Nat.le_trans z292 K295.1
    have z297 := Nat.le_trans z293 K295.1
    have f298 := f294.keep K295 all0
    have f299 := E286.keep K295
    have f300 := F286_year.keep K295 nin0
    have f301 := F286_month.keep K295 nin0
    have f302 := F286_day.keep K295 nin0
    rw [ff.1] at F295_month
    rw [ff.2.1] at F295_day
    have kR295 : T295.heap.size ≤ T295.heap.size := Nat.le_refl _
    refine Goes.of (fun t k => st295.trans k) ?_
    show Goes p e below (T295.setTop (mkF m 225 #[.val (.int p1), .val (.int (own_yr p1)), .val (.long ((own_yr p1).toInt64)), .second, .val (.long (own_lg ((own_yr p1).toInt64))), .second, .val (.long (own_lc ((own_yr p1).toInt64))), .second, .val (.long (own_lx ((own_yr p1).toInt64))), .second, .val (.long (own_lz ((own_yr p1).toInt64))), .second, .val (.long (own_ld ((own_yr p1).toInt64))), .second, .val (.long (own_le ((own_yr p1).toInt64))), .second, .val (.long (own_n ((own_yr p1).toInt64))), .second, .val (.ref b286)] [(.ref c295)])) _
    refine Goes.of (fun t k => XS.aload X295.here hx rfl (hb hby at_225) rfl rfl k) ?_
    obtain ⟨cq303, kq303, q303a, q303b, q303c⟩ := isOf hZ rfl E295
    obtain ⟨_, _, ⟨T303, L303, k303, n303⟩, -, X303, ⟨Lc303, hQ303, l303, y303, z303⟩, st303⟩ := X295.virtualBack hx (y := (⟨"java/time/LocalDate", "equals", "(Ljava/lang/Object;)Z"⟩ : MethodName)) (z := (⟨"java/time/LocalDate", "equals", "(Ljava/lang/Object;)Z"⟩ : MethodName)) hown (mvT hZ (wd hw 134 rfl)) (mvT hZ (wd hw 135 rfl)) (notFace_of_selects (args := #[]) (mvT hZ (wd hw 137 rfl))) (mvT hZ (wd hw 137 rfl)) (mvT hZ (wd hw 136 rfl)) (by decide) (backOf (W := 0) (rm19 l Z a0 hw [] c295 b286 (own_yr p1) (4 : Int32) (((own_n ((own_yr p1).toInt64)) - (31 : Int64)).toInt32) T295.heap n0 z296 E295 F295_year F295_month F295_day f299 f300 f301 f302) hZ (wd hw 138 rfl) (wd hw 25 rfl) (by decide) (by decide)) q303a q303c (g := (mkF m 227 #[.val (.int p1), .val (.int (own_yr p1)), .val (.long ((own_yr p1).toInt64)), .second, .val (.long (own_lg ((own_yr p1).toInt64))), .second, .val (.long (own_lc ((own_yr p1).toInt64))), .second, .val (.long (own_lx ((own_yr p1).toInt64))), .second, .val (.long (own_lz ((own_yr p1).toInt64))), .second, .val (.long (own_ld ((own_yr p1).toInt64))), .second, .val (.long (own_le ((own_yr p1).toInt64))), .second, .val (.long (own_n ((own_yr p1).toInt64))), .second, .val (.ref b286)] [(.ref b286), (.ref c295)])) rfl (by rw [hml]; rfl) (Steps.refl _) (argsL := [(.ref b286)]) (rest := []) (lenOf pd_22 rfl) rfl (by show 2 * 0 + _ ≤ _; exact Nat.le_of_eq rfl) (hb hby at_227) (fun _ _ => ⟨rfl, rfl, (by decide : 5 + 0 ≤ _), (by decide : 33 + 0 ≤ _)⟩)
    dsimp only [Pt.U, Pt.locs, Pt.cells, Pt.slots] at X303 l303 y303 z303 st303 hQ303
    subst l303 y303 z303
    obtain ⟨rfl, N303q, e303⟩ := hQ303
    have N303 := Fr.app N295 N303q
    refine Goes.of (fun t k => st303.trans k) ?_
    show Goes p e below (T303.setTop (mkF m 230 #[.val (.int p1), .val (.int (own_yr p1)), .val (.long ((own_yr p1).toInt64)), .second, .val (.long (own_lg ((own_yr p1).toInt64))), .second, .val (.long (own_lc ((own_yr p1).toInt64))), .second, .val (.long (own_lx ((own_yr p1).toInt64))), .second, .val (.long (own_lz ((own_yr p1).toInt64))), .second, .val (.long (own_ld ((own_yr p1).toInt64))), .second, .val (.long (own_le ((own_yr p1).toInt64))), .second, .val (.long (own_n ((own_yr p1).toInt64))), .second, .val (.ref b286)] [(.int (1 : Int32))])) _
    exact Goes.retNW (t := .boolean) X303 hS295 (by rw [e303]; exact kR295) hx Bd.returns (by simp) hlocks (hb hby at_230) (⟨rfl, N303⟩) (by decide) (by decide)
  · refine Goes.of (fun t k => XS.ifYes X284.here hx rfl (pc0 := 191) (pc' := 211) rfl (hb hby at_191) rfl ((if0 _ _).trans (flt (mt (lw_gt _ _).mp hc191_285)).2.2.2) (by decide) (by decide) k) ?_
    show Goes p e below (T284.setTop (mkF m 211 #[.val (.int p1), .val (.int (own_yr p1)), .val (.long ((own_yr p1).toInt64)), .second, .val (.long (own_lg ((own_yr p1).toInt64))), .second, .val (.long (own_lc ((own_yr p1).toInt64))), .second, .val (.long (own_lx ((own_yr p1).toInt64))), .second, .val (.long (own_lz ((own_yr p1).toInt64))), .second, .val (.long (own_ld ((own_yr p1).toInt64))), .second, .val (.long (own_le ((own_yr p1).toInt64))), .second, .val (.long (own_n ((own_yr p1).toInt64))), .second, .unset] [])) _
    have ff := own_fin3 eas.1 (by omega) (by omega) hc191_285
    refine Goes.of (fun t k => XS.iloadN X284.here hx rfl (hb hby at_211) rfl k) ?_
    show Goes p e below (T284.setTop (mkF m 212 #[.val (.int p1), .val (.int (own_yr p1)), .val (.long ((own_yr p1).toInt64)), .second, .val (.long (own_lg ((own_yr p1).toInt64))), .second, .val (.long (own_lc ((own_yr p1).toInt64))), .second, .val (.long (own_lx ((own_yr p1).toInt64))), .second, .val (.long (own_lz ((own_yr p1).toInt64))), .second, .val (.long (own_ld ((own_yr p1).toInt64))), .second, .val (.long (own_le ((own_yr p1).toInt64))), .second, .val (.long (own_n ((own_yr p1).toInt64))), .second, .unset] [(.int (own_yr p1))])) _
    refine Goes.of (fun t k => XS.iconst X284.here hx rfl (hb hby at_212) k) ?_
    show Goes p e below (T284.setTop (mkF m 213 #[.val (.int p1), .val (.int (own_yr p1)), .val (.long ((own_yr p1).toInt64)), .second, .val (.long (own_lg ((own_yr p1).toInt64))), .second, .val (.long (own_lc ((own_yr p1).toInt64))), .second, .val (.long (own_lx ((own_yr p1).toInt64))), .second, .val (.long (own_lz ((own_yr p1).toInt64))), .second, .val (.long (own_ld ((own_yr p1).toInt64))), .second, .val (.long (own_le ((own_yr p1).toInt64))), .second, .val (.long (own_n ((own_yr p1).toInt64))), .second, .unset] [(.int (3 : Int32)), (.int (own_yr p1))])) _
    refine Goes.of (fun t k => XS.lload X284.here hx rfl (hb hby at_213) rfl k) ?_
    show Goes p e below (T284.setTop (mkF m 215 #[.val (.int p1), .val (.int (own_yr p1)), .val (.long ((own_yr p1).toInt64)), .second, .val (.long (own_lg ((own_yr p1).toInt64))), .second, .val (.long (own_lc ((own_yr p1).toInt64))), .second, .val (.long (own_lx ((own_yr p1).toInt64))), .second, .val (.long (own_lz ((own_yr p1).toInt64))), .second, .val (.long (own_ld ((own_yr p1).toInt64))), .second, .val (.long (own_le ((own_yr p1).toInt64))), .second, .val (.long (own_n ((own_yr p1).toInt64))), .second, .unset] [(.long (own_n ((own_yr p1).toInt64))), (.int (3 : Int32)), (.int (own_yr p1))])) _
    refine Goes.of (fun t k => XS.l2i X284.here hx rfl (hb hby at_215) rfl k) ?_
    obtain ⟨_, _, ⟨T304, L304, k304, n304⟩, -, X304, ⟨Lc304, hQ304, l304, y304, z304⟩, st304⟩ := Jvm.LawKit.callS X284 hx (y := (⟨"java/time/LocalDate", "of", "(III)Ljava/time/LocalDate;"⟩ : MethodName)) hown (mvT hZ (wd hw 23 rfl)) (mvT hZ (wd hw 24 rfl)) (mvT hZ (wd hw 25 rfl)) (mvT hZ (wd hw 26 rfl)) (by decide) (backOf (W := 0) (rm2 l Z a0 hw [] (own_yr p1) ((own_n ((own_yr p1).toInt64)).toInt32) aY rY aO rO aD rD h0 n0 Z0 O0 SY EY RY GY MY XY SO EO RO GO MO XO SD ED RD GD MD XD yb.1 yb.2 ff.2.2.1 ff.2.2.2) hZ (wd hw 26 rfl) (wd hw 25 rfl) (by decide) (by decide)) (g := (mkF m 216 #[.val (.int p1), .val (.int (own_yr p1)), .val (.long ((own_yr p1).toInt64)), .second, .val (.long (own_lg ((own_yr p1).toInt64))), .second, .val (.long (own_lc ((own_yr p1).toInt64))), .second, .val (.long (own_lx ((own_yr p1).toInt64))), .second, .val (.long (own_lz ((own_yr p1).toInt64))), .second, .val (.long (own_ld ((own_yr p1).toInt64))), .second, .val (.long (own_le ((own_yr p1).toInt64))), .second, .val (.long (own_n ((own_yr p1).toInt64))), .second, .unset] [(.int ((own_n ((own_yr p1).toInt64)).toInt32)), (.int (3 : Int32)), (.int (own_yr p1))])) rfl (by rw [hml]; rfl) (argsL := [(.int (own_yr p1)), (.int (3 : Int32)), (.int ((own_n ((own_yr p1).toInt64)).toInt32))]) (rest := []) (lenOf pd_10 rfl) rfl (by show 2 * 0 + _ ≤ _; exact Nat.le_of_eq rfl) (hb hby at_216) (fun _ _ => ⟨rfl, e284, (by decide : 0 + 1 ≤ _), (by decide : 0 + 3 ≤ _)⟩)
    dsimp only [Pt.U, Pt.locs, Pt.cells, Pt.slots] at X304 l304 y304 z304 st304 hQ304
    subst l304 y304 z304
    obtain ⟨b304, rfl, N304q, K304, z304b, E304, F304_year, F304_month, F304_day⟩ := hQ304
    have N304 := Fr.app N284 N304q
    have q305 : aY ≠ b304 := Nat.ne_of_lt (Nat.lt_of_lt_of_le (EY.ext O0.2).lt z304b)
    have q306 : aO ≠ b304 := Nat.ne_of_lt (Nat.lt_of_lt_of_le (EO.ext O0.2).lt z304b)
    have q307 : aD ≠ b304 := Nat.ne_of_lt (Nat.lt_of_lt_of_le (ED.ext O0.2).lt z304b)
    have q308 : aM ≠ b304 := Nat.ne_of_lt (Nat.lt_of_lt_of_le (EM.ext O0.2).lt z304b)
    have g309 : n0 ≤ b304 := Nat.le_trans Z0 z304b
    have z310 := Nat.le_trans Z0 K304.1
    have z311 := Nat.le_trans kS0 K304.1
    have f312 := O0.keep K304 all0
    refine Goes.of st304 ?_
    show Goes p e below (T304.setTop (mkF m 219 #[.val (.int p1), .val (.int (own_yr p1)), .val (.long ((own_yr p1).toInt64)), .second, .val (.long (own_lg ((own_yr p1).toInt64))), .second, .val (.long (own_lc ((own_yr p1).toInt64))), .second, .val (.long (own_lx ((own_yr p1).toInt64))), .second, .val (.long (own_lz ((own_yr p1).toInt64))), .second, .val (.long (own_ld ((own_yr p1).toInt64))), .second, .val (.long (own_le ((own_yr p1).toInt64))), .second, .val (.long (own_n ((own_yr p1).toInt64))), .second, .unset] [(.ref b304)])) _
    refine Goes.of (fun t k => XS.astore X304.here hx rfl (hb hby at_219) rfl rfl (l' := #[.val (.int p1), .val (.int (own_yr p1)), .val (.long ((own_yr p1).toInt64)), .second, .val (.long (own_lg ((own_yr p1).toInt64))), .second, .val (.long (own_lc ((own_yr p1).toInt64))), .second, .val (.long (own_lx ((own_yr p1).toInt64))), .second, .val (.long (own_lz ((own_yr p1).toInt64))), .second, .val (.long (own_ld ((own_yr p1).toInt64))), .second, .val (.long (own_le ((own_yr p1).toInt64))), .second, .val (.long (own_n ((own_yr p1).toInt64))), .second, .val (.ref b304)]) rfl k) ?_
    show Goes p e below (T304.setTop (mkF m 221 #[.val (.int p1), .val (.int (own_yr p1)), .val (.long ((own_yr p1).toInt64)), .second, .val (.long (own_lg ((own_yr p1).toInt64))), .second, .val (.long (own_lc ((own_yr p1).toInt64))), .second, .val (.long (own_lx ((own_yr p1).toInt64))), .second, .val (.long (own_lz ((own_yr p1).toInt64))), .second, .val (.long (own_ld ((own_yr p1).toInt64))), .second, .val (.long (own_le ((own_yr p1).toInt64))), .second, .val (.long (own_n ((own_yr p1).toInt64))), .second, .val (.ref b304)] [])) _
    refine Goes.of (fun t k => XS.iloadN X304.here hx rfl (hb hby at_221) rfl k) ?_
    obtain ⟨_, _, ⟨T313, L313, k313, n313⟩, -, X313, hS313, kS313, ⟨Lc313, hQ313, l313, y313, z313⟩, st313⟩ := callSS X304 hx (y := (⟨"com/example/hinta/hinta/Holiday", "easterSunday", "(I)Ljava/time/LocalDate;"⟩ : MethodName)) hown (mvT hZ (wd hw 86 rfl)) (mvT hZ (wd hw 87 rfl)) (mvT hZ (wd hw 88 rfl)) (mvT hZ (wd hw 89 rfl)) (by decide) (backOfS (W := 0) (rm12 l Z a0 hw [] (own_yr p1) aY rY aO rO aD rD aM T304.heap n0 z310 f312 SY EY RY GY MY XY SO EO RO GO MO XO SD ED RD GD MD XD EM FM SM yb.1 yb.2) hZ (wd hw 89 rfl) (wd hw 88 rfl) (by decide) (by decide)) (g := (mkF m 222 #[.val (.int p1), .val (.int (own_yr p1)), .val (.long ((own_yr p1).toInt64)), .second, .val (.long (own_lg ((own_yr p1).toInt64))), .second, .val (.long (own_lc ((own_yr p1).toInt64))), .second, .val (.long (own_lx ((own_yr p1).toInt64))), .second, .val (.long (own_lz ((own_yr p1).toInt64))), .second, .val (.long (own_ld ((own_yr p1).toInt64))), .second, .val (.long (own_le ((own_yr p1).toInt64))), .second, .val (.long (own_n ((own_yr p1).toInt64))), .second, .val (.ref b304)] [(.int (own_yr p1))])) rfl (by rw [hml]; rfl) (argsL := [(.int (own_yr p1))]) (rest := []) (lenOf pd_21 rfl) rfl (by show 2 * 0 + _ ≤ _; exact Nat.le_of_eq rfl) (hb hby at_222) (fun _ _ => ⟨rfl, rfl, (by decide : 1 + 4 ≤ _), (by decide : 3 + 30 ≤ _)⟩)
    dsimp only [Pt.U, Pt.locs, Pt.cells, Pt.slots] at X313 l313 y313 z313 st313 hQ313 hS313 kS313
    subst l313 y313 z313
    obtain ⟨X313, hS313, hZ, hown⟩ := rebS hS0 z311 X313 hS313 kS313 hZ hown
    obtain ⟨c313, rfl, N313q, K313, E313, F313_year, F313_month, F313_day⟩ := hQ313
    have N313 := Fr.app N304 N313q
    have z314 := Nat.le_trans z310 K313.1
    have z315 := Nat.le_trans z311 K313.1
    have f316 := f312.keep K313 all0
    have f317 := E304.keep K313
    have f318 := F304_year.keep K313 nin0
    have f319 := F304_month.keep K313 nin0
    have f320 := F304_day.keep K313 nin0
    rw [ff.1] at F313_month
    rw [ff.2.1] at F313_day
    have kR313 : T313.heap.size ≤ T313.heap.size := Nat.le_refl _
    refine Goes.of (fun t k => st313.trans k) ?_
    show Goes p e below (T313.setTop (mkF m 225 #[.val (.int p1), .val (.int (own_yr p1)), .val (.long ((own_yr p1).toInt64)), .second, .val (.long (own_lg ((own_yr p1).toInt64))), .second, .val (.long (own_lc ((own_yr p1).toInt64))), .second, .val (.long (own_lx ((own_yr p1).toInt64))), .second, .val (.long (own_lz ((own_yr p1).toInt64))), .second, .val (.long (own_ld ((own_yr p1).toInt64))), .second, .val (.long (own_le ((own_yr p1).toInt64))), .second, .val (.long (own_n ((own_yr p1).toInt64))), .second, .val (.ref b304)] [(.ref c313)])) _
    refine Goes.of (fun t k => XS.aload X313.here hx rfl (hb hby at_225) rfl rfl k) ?_
    obtain ⟨cq321, kq321, q321a, q321b, q321c⟩ := isOf hZ rfl E313
    obtain ⟨_, _, ⟨T321, L321, k321, n321⟩, -, X321, ⟨Lc321, hQ321, l321, y321, z321⟩, st321⟩ := X313.virtualBack hx (y := (⟨"java/time/LocalDate", "equals", "(Ljava/lang/Object;)Z"⟩ : MethodName)) (z := (⟨"java/time/LocalDate", "equals", "(Ljava/lang/Object;)Z"⟩ : MethodName)) hown (mvT hZ (wd hw 134 rfl)) (mvT hZ (wd hw 135 rfl)) (notFace_of_selects (args := #[]) (mvT hZ (wd hw 137 rfl))) (mvT hZ (wd hw 137 rfl)) (mvT hZ (wd hw 136 rfl)) (by decide) (backOf (W := 0) (rm19 l Z a0 hw [] c313 b304 (own_yr p1) (3 : Int32) ((own_n ((own_yr p1).toInt64)).toInt32) T313.heap n0 z314 E313 F313_year F313_month F313_day f317 f318 f319 f320) hZ (wd hw 138 rfl) (wd hw 25 rfl) (by decide) (by decide)) q321a q321c (g := (mkF m 227 #[.val (.int p1), .val (.int (own_yr p1)), .val (.long ((own_yr p1).toInt64)), .second, .val (.long (own_lg ((own_yr p1).toInt64))), .second, .val (.long (own_lc ((own_yr p1).toInt64))), .second, .val (.long (own_lx ((own_yr p1).toInt64))), .second, .val (.long (own_lz ((own_yr p1).toInt64))), .second, .val (.long (own_ld ((own_yr p1).toInt64))), .second, .val (.long (own_le ((own_yr p1).toInt64))), .second, .val (.long (own_n ((own_yr p1).toInt64))), .second, .val (.ref b304)] [(.ref b304), (.ref c313)])) rfl (by rw [hml]; rfl) (Steps.refl _) (argsL := [(.ref b304)]) (rest := []) (lenOf pd_22 rfl) rfl (by show 2 * 0 + _ ≤ _; exact Nat.le_of_eq rfl) (hb hby at_227) (fun _ _ => ⟨rfl, rfl, (by decide : 5 + 0 ≤ _), (by decide : 33 + 0 ≤ _)⟩)
    dsimp only [Pt.U, Pt.locs, Pt.cells, Pt.slots] at X321 l321 y321 z321 st321 hQ321
    subst l321 y321 z321
    obtain ⟨rfl, N321q, e321⟩ := hQ321
    have N321 := Fr.app N313 N321q
    refine Goes.of (fun t k => st321.trans k) ?_
    show Goes p e below (T321.setTop (mkF m 230 #[.val (.int p1), .val (.int (own_yr p1)), .val (.long ((own_yr p1).toInt64)), .second, .val (.long (own_lg ((own_yr p1).toInt64))), .second, .val (.long (own_lc ((own_yr p1).toInt64))), .second, .val (.long (own_lx ((own_yr p1).toInt64))), .second, .val (.long (own_lz ((own_yr p1).toInt64))), .second, .val (.long (own_ld ((own_yr p1).toInt64))), .second, .val (.long (own_le ((own_yr p1).toInt64))), .second, .val (.long (own_n ((own_yr p1).toInt64))), .second, .val (.ref b304)] [(.int (1 : Int32))])) _
    exact Goes.retNW (t := .boolean) X321 hS313 (by rw [e321]; exact kR313) hx Bd.returns (by simp) hlocks (hb hby at_230) (⟨rfl, N321⟩) (by decide) (by decide)
theorem own_fi {t : Term} {C n d : String} {k : Int32} {args : Array Value} {s : State} {a : Addr} (ht : t.eval args s none [] s = some (.ref a)) (h : (Jvm.Cond.eq (.field t C n d) (.int k)).value args s none s [] = some true) : s.fieldOf? a C n d = some (.int k) := by
  obtain ⟨x, y, e1, e2, hk⟩ := cmp_v (Or.inl h)
  rw [fld_at ht] at e1
  have e3 : (Term.int k).eval args s none [] s = some (.int k) := rfl
  rw [e3] at e2; cases e2
  rw [e1]
  simp only [Cond.value, fld_at ht, e1, e3] at h
  cases x <;> simp_all
theorem own_fl {t : Term} {C n d : String} {k : Int64} {args : Array Value} {s : State} {a : Addr} (ht : t.eval args s none [] s = some (.ref a)) (h : (Jvm.Cond.eq (.field t C n d) (.long k)).value args s none s [] = some true) : s.fieldOf? a C n d = some (.long k) := by
  obtain ⟨x, y, e1, e2, hk⟩ := cmp_v (Or.inl h)
  rw [fld_at ht] at e1
  have e3 : (Term.long k).eval args s none [] s = some (.long k) := rfl
  rw [e3] at e2; cases e2
  rw [e1]
  simp only [Cond.value, fld_at ht, e1, e3] at h
  cases x <;> simp_all
set_option maxRecDepth 65536 in
set_option maxHeartbeats 40000000 in
theorem comes_1 {Post : Tables → Env → Array Value → State → Outcome → State → Prop} (hpost : ∀ tb e args s v u, (limb_1_1.after args s (.returned v) u = true ∧ limb_1_2.after args s (.returned v) u = true ∧ True) → Jvm.D.FramedW s (.returned v) u (Jvm.fieldLocs frame_1_writes args s ++ Jvm.arrayLocs frame_1_arrays args s ++ Jvm.staticLocs frame_1_statics s) 16 1152 → Post tb e args s (.returned v) u) :
    ArmFor flags0 classFile x code maxLocals ret World_1 tables_1 room_1 Calls_1 rest_1 Pre_1 Post := by
  intro l hfl _ _ p e ha hc hk s m args below hf hA hF happ hP
  obtain ⟨hcalls, hrest, hpre⟩ := hP
  obtain ⟨-, -, -, hnamed, -, -, -, hat⟩ := (Spec.applies_iff hf).mp happ
  obtain ⟨hg, hn⟩ := and_e (Cond.before_iff.mp (show (Jvm.Cond.and given_1 narrow_1).before args s = true from hpre))
  obtain ⟨g322, g323⟩ := and_e hg
  obtain ⟨w0, rfl⟩ : ∃ w0 : Value, args = #[w0] := by
    have hs : args.size = 1 := by simpa [Cond.value, given_1] using g322
    obtain ⟨L⟩ := args
    match L, hs with
    | [w0], _ => exact ⟨w0, rfl⟩
  have hw := fun d (hd : d ∈ tables_1) => atoms_spec (ws := Jvm.Cond.code x code maxLocals ret :: tables_1) hat d (List.mem_cons_of_mem _ hd)
  have hfit : Fit s := fun {y c} hc i hi => by
    obtain ⟨ha, rfl⟩ := Array.getElem?_eq_some_iff.mp hc
    have q := List.all_eq_true.mp ((Array.all_eq_true_iff_forall_mem.mp hF) _ (Array.getElem_mem ha)) i (List.mem_range.mpr hi)
    simpa [Array.getElem?_eq_getElem hi] using q
  obtain ⟨hsets, hown0⟩ := atoms_of _ (rest_1_c_eq ▸ (show rest_1_c.before _ s = true from hrest))
  have hr0 := Cond.before_iff.mp hown0
  obtain ⟨i0, ei0⟩ := is_v g323
  obtain rfl : w0 = (.int i0) := Option.some.inj ei0
  have xY := Cond.before_iff.mp (hsets _ (List.mem_of_getElem? (i := 6) rfl))
  obtain ⟨aY, vY⟩ := exa_v xY
  have SY := Sta.start vY (Or.inl (hsets _ (List.mem_of_getElem? (i := 1) rfl)))
  have EY := Exa.start vY xY
  have yY := Cond.before_iff.mp (hsets _ (List.mem_of_getElem? (i := 22) rfl))
  obtain ⟨rY, uY⟩ := exa_v yY
  have RY := Fld.start ((fld_at vY).symm.trans uY)
  have GY := Exa.start uY yY
  have MY := Fld.start (own_fl uY (Cond.before_iff.mp (hsets _ (List.mem_of_getElem? (i := 23) rfl))))
  have XY := Fld.start (own_fl uY (Cond.before_iff.mp (hsets _ (List.mem_of_getElem? (i := 26) rfl))))
  have xO := Cond.before_iff.mp (hsets _ (List.mem_of_getElem? (i := 34) rfl))
  obtain ⟨aO, vO⟩ := exa_v xO
  have SO := Sta.start vO (Or.inl (hsets _ (List.mem_of_getElem? (i := 29) rfl)))
  have EO := Exa.start vO xO
  have yO := Cond.before_iff.mp (hsets _ (List.mem_of_getElem? (i := 50) rfl))
  obtain ⟨rO, uO⟩ := exa_v yO
  have RO := Fld.start ((fld_at vO).symm.trans uO)
  have GO := Exa.start uO yO
  have MO := Fld.start (own_fl uO (Cond.before_iff.mp (hsets _ (List.mem_of_getElem? (i := 51) rfl))))
  have XO := Fld.start (own_fl uO (Cond.before_iff.mp (hsets _ (List.mem_of_getElem? (i := 54) rfl))))
  have xD := Cond.before_iff.mp (hsets _ (List.mem_of_getElem? (i := 62) rfl))
  obtain ⟨aD, vD⟩ := exa_v xD
  have SD := Sta.start vD (Or.inl (hsets _ (List.mem_of_getElem? (i := 57) rfl)))
  have ED := Exa.start vD xD
  have yD := Cond.before_iff.mp (hsets _ (List.mem_of_getElem? (i := 78) rfl))
  obtain ⟨rD, uD⟩ := exa_v yD
  have RD := Fld.start ((fld_at vD).symm.trans uD)
  have GD := Exa.start uD yD
  have MD := Fld.start (own_fl uD (Cond.before_iff.mp (hsets _ (List.mem_of_getElem? (i := 79) rfl))))
  have XD := Fld.start (own_fl uD (Cond.before_iff.mp (hsets _ (List.mem_of_getElem? (i := 82) rfl))))
  have xM := Cond.before_iff.mp (hsets _ (List.mem_of_getElem? (i := 86) rfl))
  obtain ⟨aM, vM⟩ := exa_v xM
  have SM := Sta.start vM (Or.inl (hsets _ (List.mem_of_getElem? (i := 85) rfl)))
  have EM := Exa.start vM xM
  have FM := Fld.start (own_fi vM (Cond.before_iff.mp (hsets _ (List.mem_of_getElem? (i := 88) rfl))))
  obtain ⟨n, o, h1, h2, h3, _, L, rfl, ⟨rfl, N⟩, hq⟩ := rm0 l s _ hw tables_1 i0 aY rY aO rO aD rD aM s.heap s.heap.size (Nat.le_refl _) (Old.start s) SY EY RY GY MY XY SO EO RO GO MO XO SD ED RD GD MD XD EM FM SM p e ha hc hk s m _ below hf ((Spec.applies_iff_loose hf).mp happ).1 ⟨rfl, State.Warmed39.refl s, rfl⟩ trivial
  refine ⟨n, _, h1, h2, h3, hpost _ _ _ _ _ _ ⟨Cond.after_iff.mpr rfl, Cond.after_iff.mpr (eq_i res_at (Term.int_eval (1)) rfl), trivial⟩ ⟨hq.1, hq.2.1, hq.2.2.1, (hq.2.2.2.sift fun y hy => Or.inr (N y hy)).mono (by decide) (by decide)⟩⟩
theorem main_1_1 : Claimed_1_1 := comes_1 fun _ _ _ _ _ _ h hF => ⟨h.1, hF⟩
theorem main_1_2 : Claimed_1_2 := comes_1 fun _ _ _ _ _ _ h hF => ⟨h.2.1, hF⟩
end Jvm.Pilot.@@N@@
namespace Jvm.Pilot.@@N@@
open Jvm Jvm.ClassFile Sem Op Lib Jvm.Free Jvm.Stand Jvm.Pilot.@@N@@.Jvm.D
/-! MADE BY PROGRAM (witnessworld.py) out of the Statement's table words and the real class files: 29 classes; the members and pool entries that the words name. The judged class is class 1, her method 2. -/
namespace start1
open Jvm.ClassFile
def u (s : String) : CpInfo := .utf8 (stringToUtf16 s)
/-- a pool by its gaps: so many unusable entries, then the entry; so many at the end -/
def gap : Nat → List CpInfo → List CpInfo
  | 0, r => r
  | n + 1, r => .unusable :: gap n r
def poolList (es : List (Nat × CpInfo)) (last : Nat) : List CpInfo := es.foldr (fun e r => gap e.1 (e.2 :: r)) (gap last [])
def pool (es : List (Nat × CpInfo)) (last : Nat) : Array CpInfo := ⟨poolList es last⟩
def fileOf (pool : Array CpInfo) (this : Nat) (attrs : Array Attribute := #[]) (ms : Array MethodInfo := #[]) (fl : Nat := 33) (sup : Nat := 0) (ifs : Array Nat := #[]) (fds : Array FieldInfo := #[]) : ClassFile where
  minorVersion := 0
  majorVersion := 65
  constantPool := pool
  accessFlags := fl
  thisClass := this
  superClass := sup
  interfaces := ifs
  fields := fds
  methods := ms
  attributes := attrs
def plain (name : String) (sup : Option ClassId) : Class where
  name := name
  kind := .ordinary
  loader := none
  accessFlags := 33
  super := sup
  interfaces := #[]
  cf := none
  fields := #[]
  methods := #[]
  instanceTypes := #[]
  staticTypes := #[]
  resolved := #[]
  callSites := []
  init := .initialized
  statics := none
  mirror := none

def pool0 : Array CpInfo := pool [(5, u "<init>"), (0, u "()V"), (1, .class_ 10), (1, u "java/lang/Object")] 113

def k0c0 : Code := { maxStack := 0, maxLocals := 1, code := object_method_1_code, exceptionTable := #[], attributes := #[] }
def k0m0 : Method := { name := "<init>", desc := "()V", sig := { parameters := [], returnType := none }, accessFlags := 1, code := some k0c0 }
/-- java/lang/Object -/
def k0 : Class := { plain "java/lang/Object" none with
  accessFlags := 33
  interfaces := #[]
  cf := some (fileOf pool0 8 #[] #[{ accessFlags := 1, nameIndex := 5, descriptorIndex := 6, attributes := #[] }] 33 0 #[] #[])
  fields := #[]
  methods := #[k0m0]
  instanceTypes := #[]
  staticTypes := #[]
  resolved := Array.replicate 124 none
  statics := none }

def pool1 : Array CpInfo := pool [(2, .class_ 4), (1, u "java/lang/Object"), (0, u "<init>"), (0, u "()V"), (0, .integer 2147483647), (0, .integer 1000000000), (0, .long 19), (1, .long 100), (1, .long 3), (1, .long 4), (1, .long 12), (1, .long 8), (1, .long 5), (1, .long 25), (1, .long 10), (1, .long 11), (1, .long 20), (1, .long 30), (1, .methodref 34 35), (0, .class_ 36), (0, .nameAndType 37 38), (0, u "com/example/hinta/hinta/HolidayEasterSundayPinLaw"), (0, u "mod"), (0, u "(JJ)J"), (0, .long 24), (1, .long 44), (1, .long 21), (1, .long 7), (1, .long 31), (1, .methodref 50 51), (0, .class_ 52), (0, .nameAndType 53 54), (0, u "java/time/LocalDate"), (0, u "of"), (0, u "(III)Ljava/time/LocalDate;"), (0, .methodref 56 57), (0, .class_ 58), (0, .nameAndType 59 60), (0, u "com/example/hinta/hinta/Holiday"), (0, u "easterSunday"), (0, u "(I)Ljava/time/LocalDate;"), (0, .methodref 50 62), (0, .nameAndType 63 64), (0, u "equals"), (0, u "(Ljava/lang/Object;)Z"), (3, u "law"), (0, u "(I)Z")] 2

def k1m0 : Method := { name := "<init>", desc := "()V", sig := { parameters := [], returnType := none }, accessFlags := 1, code := none }
def k1c1 : Code := { maxStack := 4, maxLocals := 6, code := method_2_code, exceptionTable := #[], attributes := #[] }
def k1m1 : Method := { name := "mod", desc := "(JJ)J", sig := { parameters := [.long, .long], returnType := some .long }, accessFlags := 10, code := some k1c1 }
def k1c2 : Code := { maxStack := 6, maxLocals := 19, code := code, exceptionTable := #[], attributes := #[] }
def k1m2 : Method := { name := "law", desc := "(I)Z", sig := { parameters := [.int], returnType := some .boolean }, accessFlags := 9, code := some k1c2 }
/-- com/example/hinta/hinta/HolidayEasterSundayPinLaw -/
def k1 : Class := { plain "com/example/hinta/hinta/HolidayEasterSundayPinLaw" (some 0) with
  accessFlags := 49
  interfaces := #[]
  cf := some (fileOf pool1 34 #[] #[{ accessFlags := 1, nameIndex := 5, descriptorIndex := 6, attributes := #[] }, { accessFlags := 10, nameIndex := 37, descriptorIndex := 38, attributes := #[] }, { accessFlags := 9, nameIndex := 68, descriptorIndex := 69, attributes := #[] }] 49 2 #[] #[])
  fields := #[]
  methods := #[k1m0, k1m1, k1m2]
  instanceTypes := #[]
  staticTypes := #[]
  resolved := Array.replicate 72 none
  statics := none }

def pool2 : Array CpInfo := pool [(4, .class_ 6), (1, u "java/time/temporal/TemporalAccessor"), (95, .class_ 103), (0, u "java/lang/Object")] 21

/-- java/time/temporal/TemporalAccessor -/
def k2 : Class := { plain "java/time/temporal/TemporalAccessor" (some 0) with
  accessFlags := 1537
  interfaces := #[]
  cf := some (fileOf pool2 4 #[] #[] 1537 102 #[] #[])
  fields := #[]
  methods := #[]
  instanceTypes := #[]
  staticTypes := #[]
  resolved := Array.replicate 125 none
  statics := none }

def pool3 : Array CpInfo := pool [(22, .class_ 24), (1, u "java/time/temporal/Temporal"), (2, .class_ 28), (0, u "java/lang/Object"), (0, .class_ 30), (0, u "java/time/temporal/TemporalAccessor")] 25

/-- java/time/temporal/Temporal -/
def k3 : Class := { plain "java/time/temporal/Temporal" (some 0) with
  accessFlags := 1537
  interfaces := #[2]
  cf := some (fileOf pool3 22 #[] #[] 1537 27 #[29] #[])
  fields := #[]
  methods := #[]
  instanceTypes := #[]
  staticTypes := #[]
  resolved := Array.replicate 56 none
  statics := none }

def pool4 : Array CpInfo := pool [(1, .class_ 2), (0, u "java/time/temporal/TemporalAdjuster"), (0, .class_ 4), (0, u "java/lang/Object")] 6

/-- java/time/temporal/TemporalAdjuster -/
def k4 : Class := { plain "java/time/temporal/TemporalAdjuster" (some 0) with
  accessFlags := 1537
  interfaces := #[]
  cf := some (fileOf pool4 1 #[] #[] 1537 3 #[] #[])
  fields := #[]
  methods := #[]
  instanceTypes := #[]
  staticTypes := #[]
  resolved := Array.replicate 11 none
  statics := none }

def pool5 : Array CpInfo := pool [(1, .class_ 2), (0, u "java/lang/Comparable"), (0, .class_ 4), (0, u "java/lang/Object")] 7

/-- java/lang/Comparable -/
def k5 : Class := { plain "java/lang/Comparable" (some 0) with
  accessFlags := 1537
  interfaces := #[]
  cf := some (fileOf pool5 1 #[] #[] 1537 3 #[] #[])
  fields := #[]
  methods := #[]
  instanceTypes := #[]
  staticTypes := #[]
  resolved := Array.replicate 12 none
  statics := none }

def pool6 : Array CpInfo := pool [(9, .class_ 10), (0, u "java/time/chrono/ChronoLocalDate"), (104, .class_ 117), (1, u "java/time/temporal/Temporal"), (134, .class_ 253), (0, u "java/lang/Object"), (23, .class_ 278), (0, u "java/time/temporal/TemporalAdjuster"), (0, .class_ 280), (0, u "java/lang/Comparable")] 86

/-- java/time/chrono/ChronoLocalDate -/
def k6 : Class := { plain "java/time/chrono/ChronoLocalDate" (some 0) with
  accessFlags := 1537
  interfaces := #[3, 4, 5]
  cf := some (fileOf pool6 9 #[] #[] 1537 252 #[115, 277, 279] #[])
  fields := #[]
  methods := #[]
  instanceTypes := #[]
  staticTypes := #[]
  resolved := Array.replicate 367 none
  statics := none }

def pool7 : Array CpInfo := pool [(1, .class_ 2), (0, u "java/io/Serializable"), (0, .class_ 4), (0, u "java/lang/Object")] 2

/-- java/io/Serializable -/
def k7 : Class := { plain "java/io/Serializable" (some 0) with
  accessFlags := 1537
  interfaces := #[]
  cf := some (fileOf pool7 1 #[] #[] 1537 3 #[] #[])
  fields := #[]
  methods := #[]
  instanceTypes := #[]
  staticTypes := #[]
  resolved := Array.replicate 7 none
  statics := none }

def pool8 : Array CpInfo := pool [(1, .class_ 2), (0, u "java/time/LocalDate"), (18, .methodref 22 23), (0, .class_ 24), (0, .nameAndType 25 26), (0, u "java/util/Objects"), (0, u "requireNonNull"), (0, u "(Ljava/lang/Object;Ljava/lang/String;)Ljava/lang/Object;"), (12, .fieldref 40 41), (0, .class_ 42), (0, .nameAndType 43 44), (0, u "java/time/temporal/ChronoField"), (0, u "YEAR"), (0, u "Ljava/time/temporal/ChronoField;"), (0, .methodref 40 46), (0, .nameAndType 47 48), (0, u "checkValidValue"), (0, u "(J)J"), (0, .string 50), (0, u "month"), (0, .fieldref 40 52), (0, .nameAndType 53 44), (0, u "DAY_OF_MONTH"), (0, .methodref 55 56), (0, .class_ 57), (0, .nameAndType 58 59), (0, u "java/time/Month"), (0, u "getValue"), (0, u "()I"), (0, .methodref 1 61), (0, .nameAndType 62 63), (0, u "create"), (0, u "(III)Ljava/time/LocalDate;"), (0, .fieldref 40 65), (0, .nameAndType 66 44), (0, u "MONTH_OF_YEAR"), (18, .nameAndType 86 87), (0, u "<init>"), (0, u "()V"), (20, u "of"), (12, .methodref 1 122), (0, .nameAndType 86 123), (0, u "(III)V"), (36, u "(J)Ljava/time/LocalDate;"), (82, .methodref 244 85), (0, .class_ 245), (0, u "java/lang/Object"), (0, .fieldref 1 247), (0, .nameAndType 248 249), (0, u "year"), (0, u "I"), (0, .fieldref 1 251), (0, .nameAndType 50 252), (0, u "S"), (0, .fieldref 1 254), (0, .nameAndType 255 252), (0, u "day"), (1, .class_ 259), (1, u "java/time/chrono/ChronoLocalDate"), (10, .class_ 272), (1, u "java/time/LocalDate$1"), (5, .methodref 1 279), (0, .nameAndType 280 59), (0, u "lengthOfMonth"), (99, .class_ 382), (1, u "java/time/temporal/TemporalAdjuster"), (4, u "plusDays"), (95, .long 28), (1, .long 59), (102, u "MAX"), (0, u "Ljava/time/LocalDate;"), (2, u "MIN"), (86, .methodref 1 680), (0, .nameAndType 681 682), (0, u "compareTo0"), (0, u "(Ljava/time/LocalDate;)I"), (86, u "EPOCH"), (0, .class_ 771), (0, u "java/time/temporal/Temporal"), (0, .class_ 773), (0, u "java/io/Serializable"), (0, u "serialVersionUID"), (0, u "J"), (3, u "DAYS_PER_CYCLE"), (1, u "DAYS_0000_TO_1970"), (8, u "(ILjava/time/Month;I)Ljava/time/LocalDate;"), (117, u "equals"), (0, u "(Ljava/lang/Object;)Z")] 78

def k8c0 : Code := { maxStack := 3, maxLocals := 3, code := jdk_2323_method_4_code, exceptionTable := #[], attributes := #[] }
def k8m0 : Method := { name := "of", desc := "(ILjava/time/Month;I)Ljava/time/LocalDate;", sig := { parameters := [.int, (.object "java/time/Month"), .int], returnType := some (.object "java/time/LocalDate") }, accessFlags := 9, code := some k8c0 }
def k8c1 : Code := { maxStack := 3, maxLocals := 3, code := jdk_2323_method_5_code, exceptionTable := #[], attributes := #[] }
def k8m1 : Method := { name := "of", desc := "(III)Ljava/time/LocalDate;", sig := { parameters := [.int, .int, .int], returnType := some (.object "java/time/LocalDate") }, accessFlags := 9, code := some k8c1 }
def k8c2 : Code := { maxStack := 5, maxLocals := 4, code := jdk_2323_method_12_code, exceptionTable := #[], attributes := #[] }
def k8m2 : Method := { name := "create", desc := "(III)Ljava/time/LocalDate;", sig := { parameters := [.int, .int, .int], returnType := some (.object "java/time/LocalDate") }, accessFlags := 10, code := some k8c2 }
def k8c3 : Code := { maxStack := 2, maxLocals := 4, code := jdk_2323_method_14_code, exceptionTable := #[], attributes := #[] }
def k8m3 : Method := { name := "<init>", desc := "(III)V", sig := { parameters := [.int, .int, .int], returnType := none }, accessFlags := 2, code := some k8c3 }
def k8c4 : Code := { maxStack := 1, maxLocals := 1, code := jdk_2323_method_31_code, exceptionTable := #[], attributes := #[] }
def k8m4 : Method := { name := "lengthOfMonth", desc := "()I", sig := { parameters := [], returnType := some .int }, accessFlags := 1, code := some k8c4 }
def k8c5 : Code := { maxStack := 8, maxLocals := 7, code := jdk_2323_method_44_code, exceptionTable := #[], attributes := #[] }
def k8m5 : Method := { name := "plusDays", desc := "(J)Ljava/time/LocalDate;", sig := { parameters := [.long], returnType := some (.object "java/time/LocalDate") }, accessFlags := 1, code := some k8c5 }
def k8c6 : Code := { maxStack := 2, maxLocals := 3, code := jdk_2323_method_70_code, exceptionTable := #[], attributes := #[] }
def k8m6 : Method := { name := "compareTo0", desc := "(Ljava/time/LocalDate;)I", sig := { parameters := [(.object "java/time/LocalDate")], returnType := some .int }, accessFlags := 0, code := some k8c6 }
def k8c7 : Code := { maxStack := 2, maxLocals := 2, code := jdk_2323_method_74_code, exceptionTable := #[], attributes := #[] }
def k8m7 : Method := { name := "equals", desc := "(Ljava/lang/Object;)Z", sig := { parameters := [(.object "java/lang/Object")], returnType := some .boolean }, accessFlags := 1, code := some k8c7 }
/-- java/time/LocalDate -/
def k8 : Class := { plain "java/time/LocalDate" (some 0) with
  accessFlags := 49
  interfaces := #[3, 4, 6, 7]
  cf := some (fileOf pool8 1 #[.nestMembers #[270]] #[{ accessFlags := 9, nameIndex := 108, descriptorIndex := 790, attributes := #[] }, { accessFlags := 9, nameIndex := 108, descriptorIndex := 63, attributes := #[] }, { accessFlags := 10, nameIndex := 62, descriptorIndex := 63, attributes := #[] }, { accessFlags := 2, nameIndex := 86, descriptorIndex := 123, attributes := #[] }, { accessFlags := 1, nameIndex := 280, descriptorIndex := 59, attributes := #[] }, { accessFlags := 1, nameIndex := 387, descriptorIndex := 160, attributes := #[] }, { accessFlags := 0, nameIndex := 681, descriptorIndex := 682, attributes := #[] }, { accessFlags := 1, nameIndex := 908, descriptorIndex := 909, attributes := #[] }] 49 244 #[770, 380, 257, 772] #[{ accessFlags := 25, nameIndex := 592, descriptorIndex := 589, attributes := #[] }, { accessFlags := 25, nameIndex := 588, descriptorIndex := 589, attributes := #[] }, { accessFlags := 25, nameIndex := 769, descriptorIndex := 589, attributes := #[] }, { accessFlags := 26, nameIndex := 774, descriptorIndex := 775, attributes := #[] }, { accessFlags := 26, nameIndex := 779, descriptorIndex := 249, attributes := #[] }, { accessFlags := 24, nameIndex := 781, descriptorIndex := 775, attributes := #[] }, { accessFlags := 18, nameIndex := 248, descriptorIndex := 249, attributes := #[] }, { accessFlags := 18, nameIndex := 50, descriptorIndex := 252, attributes := #[] }, { accessFlags := 18, nameIndex := 255, descriptorIndex := 252, attributes := #[] }])
  fields := #[{ name := "MIN", type := (.object "java/time/LocalDate"), accessFlags := 25, slot := 0, constantValue := 0 }, { name := "MAX", type := (.object "java/time/LocalDate"), accessFlags := 25, slot := 1, constantValue := 0 }, { name := "EPOCH", type := (.object "java/time/LocalDate"), accessFlags := 25, slot := 2, constantValue := 0 }, { name := "serialVersionUID", type := .long, accessFlags := 26, slot := 3, constantValue := 0 }, { name := "DAYS_PER_CYCLE", type := .int, accessFlags := 26, slot := 4, constantValue := 0 }, { name := "DAYS_0000_TO_1970", type := .long, accessFlags := 24, slot := 5, constantValue := 0 }, { name := "year", type := .int, accessFlags := 18, slot := 0, constantValue := 0 }, { name := "month", type := .short, accessFlags := 18, slot := 1, constantValue := 0 }, { name := "day", type := .short, accessFlags := 18, slot := 2, constantValue := 0 }]
  methods := #[k8m0, k8m1, k8m2, k8m3, k8m4, k8m5, k8m6, k8m7]
  instanceTypes := #[.int, .short, .short]
  staticTypes := #[(.object "java/time/LocalDate"), (.object "java/time/LocalDate"), (.object "java/time/LocalDate"), .long, .int, .long]
  resolved := Array.replicate 988 none
  statics := none }

def pool9 : Array CpInfo := pool [(1, .class_ 2), (0, u "java/lang/constant/Constable"), (0, .class_ 4), (0, u "java/lang/Object")] 6

/-- java/lang/constant/Constable -/
def k9 : Class := { plain "java/lang/constant/Constable" (some 0) with
  accessFlags := 1537
  interfaces := #[]
  cf := some (fileOf pool9 1 #[] #[] 1537 3 #[] #[])
  fields := #[]
  methods := #[]
  instanceTypes := #[]
  staticTypes := #[]
  resolved := Array.replicate 11 none
  statics := none }

def pool10 : Array CpInfo := pool [(2, .class_ 4), (1, u "java/lang/Enum"), (0, u "name"), (0, u "Ljava/lang/String;"), (0, .fieldref 2 8), (0, .nameAndType 9 10), (0, u "ordinal"), (0, u "I"), (1, .class_ 14), (1, u "java/lang/Object"), (4, u "hash"), (86, .class_ 108), (1, u "java/lang/Enum$EnumDesc"), (2, .class_ 112), (0, u "java/lang/constant/Constable"), (0, .class_ 114), (0, u "java/lang/Comparable"), (0, .class_ 116), (0, u "java/io/Serializable"), (9, u "()I")] 77

def k10c0 : Code := { maxStack := 1, maxLocals := 1, code := jdk_37_method_2_code, exceptionTable := #[], attributes := #[] }
def k10m0 : Method := { name := "ordinal", desc := "()I", sig := { parameters := [], returnType := some .int }, accessFlags := 17, code := some k10c0 }
/-- java/lang/Enum -/
def k10 : Class := { plain "java/lang/Enum" (some 0) with
  accessFlags := 1057
  interfaces := #[9, 5, 7]
  cf := some (fileOf pool10 2 #[.nestMembers #[106]] #[{ accessFlags := 17, nameIndex := 9, descriptorIndex := 126, attributes := #[] }] 1057 12 #[111, 113, 115] #[{ accessFlags := 18, nameIndex := 5, descriptorIndex := 6, attributes := #[] }, { accessFlags := 18, nameIndex := 9, descriptorIndex := 10, attributes := #[] }, { accessFlags := 2, nameIndex := 19, descriptorIndex := 10, attributes := #[] }])
  fields := #[{ name := "name", type := (.object "java/lang/String"), accessFlags := 18, slot := 0, constantValue := 0 }, { name := "ordinal", type := .int, accessFlags := 18, slot := 1, constantValue := 0 }, { name := "hash", type := .int, accessFlags := 2, slot := 2, constantValue := 0 }]
  methods := #[k10m0]
  instanceTypes := #[(.object "java/lang/String"), .int, .int]
  staticTypes := #[]
  resolved := Array.replicate 204 none
  statics := none }

def pool11 : Array CpInfo := pool [(10, .class_ 12), (1, u "java/time/temporal/TemporalField"), (2, .class_ 16), (0, u "java/lang/Object")] 39

/-- java/time/temporal/TemporalField -/
def k11 : Class := { plain "java/time/temporal/TemporalField" (some 0) with
  accessFlags := 1537
  interfaces := #[]
  cf := some (fileOf pool11 10 #[] #[] 1537 15 #[] #[])
  fields := #[]
  methods := #[]
  instanceTypes := #[]
  staticTypes := #[]
  resolved := Array.replicate 56 none
  statics := none }

def pool12 : Array CpInfo := pool [(1, .class_ 2), (0, u "java/time/temporal/ChronoField"), (2, u "NANO_OF_SECOND"), (0, u "Ljava/time/temporal/ChronoField;"), (2, u "NANO_OF_DAY"), (2, u "MICRO_OF_SECOND"), (2, u "MICRO_OF_DAY"), (2, u "MILLI_OF_SECOND"), (2, u "MILLI_OF_DAY"), (2, u "SECOND_OF_MINUTE"), (2, u "SECOND_OF_DAY"), (2, u "MINUTE_OF_HOUR"), (2, u "MINUTE_OF_DAY"), (2, u "HOUR_OF_AMPM"), (2, u "CLOCK_HOUR_OF_AMPM"), (2, u "HOUR_OF_DAY"), (2, u "CLOCK_HOUR_OF_DAY"), (2, u "AMPM_OF_DAY"), (2, u "DAY_OF_WEEK"), (2, u "ALIGNED_DAY_OF_WEEK_IN_MONTH"), (2, u "ALIGNED_DAY_OF_WEEK_IN_YEAR"), (2, u "DAY_OF_MONTH"), (2, u "DAY_OF_YEAR"), (2, u "EPOCH_DAY"), (2, u "ALIGNED_WEEK_OF_MONTH"), (2, u "ALIGNED_WEEK_OF_YEAR"), (2, u "MONTH_OF_YEAR"), (2, u "PROLEPTIC_MONTH"), (2, u "YEAR_OF_ERA"), (2, u "YEAR"), (2, u "ERA"), (2, u "INSTANT_SECONDS"), (2, u "OFFSET_SECONDS"), (2, u "$VALUES"), (0, u "[Ljava/time/temporal/ChronoField;"), (6, .class_ 106), (1, u "java/lang/Enum"), (8, u "name"), (0, u "Ljava/lang/String;"), (2, u "baseUnit"), (0, u "Ljava/time/temporal/TemporalUnit;"), (2, u "rangeUnit"), (0, .fieldref 1 125), (0, .nameAndType 126 127), (0, u "range"), (0, u "Ljava/time/temporal/ValueRange;"), (2, u "displayNameKey"), (59, .methodref 1 191), (0, .nameAndType 126 192), (0, u "()Ljava/time/temporal/ValueRange;"), (0, .methodref 194 195), (0, .class_ 196), (0, .nameAndType 197 198), (0, u "java/time/temporal/ValueRange"), (0, u "checkValidValue"), (0, u "(JLjava/time/temporal/TemporalField;)J"), (256, .class_ 456), (0, u "java/time/temporal/TemporalField"), (27, u "(J)J")] 22

def k12c0 : Code := { maxStack := 1, maxLocals := 1, code := jdk_2395_method_8_code, exceptionTable := #[], attributes := #[] }
def k12m0 : Method := { name := "range", desc := "()Ljava/time/temporal/ValueRange;", sig := { parameters := [], returnType := some (.object "java/time/temporal/ValueRange") }, accessFlags := 1, code := some k12c0 }
def k12c1 : Code := { maxStack := 4, maxLocals := 3, code := jdk_2395_method_11_code, exceptionTable := #[], attributes := #[] }
def k12m1 : Method := { name := "checkValidValue", desc := "(J)J", sig := { parameters := [.long], returnType := some .long }, accessFlags := 1, code := some k12c1 }
/-- java/time/temporal/ChronoField -/
def k12 : Class := { plain "java/time/temporal/ChronoField" (some 10) with
  accessFlags := 16433
  interfaces := #[11]
  cf := some (fileOf pool12 1 #[] #[{ accessFlags := 1, nameIndex := 126, descriptorIndex := 192, attributes := #[] }, { accessFlags := 1, nameIndex := 197, descriptorIndex := 484, attributes := #[] }] 16433 104 #[455] #[{ accessFlags := 16409, nameIndex := 5, descriptorIndex := 6, attributes := #[] }, { accessFlags := 16409, nameIndex := 9, descriptorIndex := 6, attributes := #[] }, { accessFlags := 16409, nameIndex := 12, descriptorIndex := 6, attributes := #[] }, { accessFlags := 16409, nameIndex := 15, descriptorIndex := 6, attributes := #[] }, { accessFlags := 16409, nameIndex := 18, descriptorIndex := 6, attributes := #[] }, { accessFlags := 16409, nameIndex := 21, descriptorIndex := 6, attributes := #[] }, { accessFlags := 16409, nameIndex := 24, descriptorIndex := 6, attributes := #[] }, { accessFlags := 16409, nameIndex := 27, descriptorIndex := 6, attributes := #[] }, { accessFlags := 16409, nameIndex := 30, descriptorIndex := 6, attributes := #[] }, { accessFlags := 16409, nameIndex := 33, descriptorIndex := 6, attributes := #[] }, { accessFlags := 16409, nameIndex := 36, descriptorIndex := 6, attributes := #[] }, { accessFlags := 16409, nameIndex := 39, descriptorIndex := 6, attributes := #[] }, { accessFlags := 16409, nameIndex := 42, descriptorIndex := 6, attributes := #[] }, { accessFlags := 16409, nameIndex := 45, descriptorIndex := 6, attributes := #[] }, { accessFlags := 16409, nameIndex := 48, descriptorIndex := 6, attributes := #[] }, { accessFlags := 16409, nameIndex := 51, descriptorIndex := 6, attributes := #[] }, { accessFlags := 16409, nameIndex := 54, descriptorIndex := 6, attributes := #[] }, { accessFlags := 16409, nameIndex := 57, descriptorIndex := 6, attributes := #[] }, { accessFlags := 16409, nameIndex := 60, descriptorIndex := 6, attributes := #[] }, { accessFlags := 16409, nameIndex := 63, descriptorIndex := 6, attributes := #[] }, { accessFlags := 16409, nameIndex := 66, descriptorIndex := 6, attributes := #[] }, { accessFlags := 16409, nameIndex := 69, descriptorIndex := 6, attributes := #[] }, { accessFlags := 16409, nameIndex := 72, descriptorIndex := 6, attributes := #[] }, { accessFlags := 16409, nameIndex := 75, descriptorIndex := 6, attributes := #[] }, { accessFlags := 16409, nameIndex := 78, descriptorIndex := 6, attributes := #[] }, { accessFlags := 16409, nameIndex := 81, descriptorIndex := 6, attributes := #[] }, { accessFlags := 16409, nameIndex := 84, descriptorIndex := 6, attributes := #[] }, { accessFlags := 16409, nameIndex := 87, descriptorIndex := 6, attributes := #[] }, { accessFlags := 16409, nameIndex := 90, descriptorIndex := 6, attributes := #[] }, { accessFlags := 16409, nameIndex := 93, descriptorIndex := 6, attributes := #[] }, { accessFlags := 18, nameIndex := 115, descriptorIndex := 116, attributes := #[] }, { accessFlags := 18, nameIndex := 119, descriptorIndex := 120, attributes := #[] }, { accessFlags := 18, nameIndex := 123, descriptorIndex := 120, attributes := #[] }, { accessFlags := 18, nameIndex := 126, descriptorIndex := 127, attributes := #[] }, { accessFlags := 18, nameIndex := 130, descriptorIndex := 116, attributes := #[] }, { accessFlags := 4122, nameIndex := 96, descriptorIndex := 97, attributes := #[] }])
  fields := #[{ name := "NANO_OF_SECOND", type := (.object "java/time/temporal/ChronoField"), accessFlags := 16409, slot := 0, constantValue := 0 }, { name := "NANO_OF_DAY", type := (.object "java/time/temporal/ChronoField"), accessFlags := 16409, slot := 1, constantValue := 0 }, { name := "MICRO_OF_SECOND", type := (.object "java/time/temporal/ChronoField"), accessFlags := 16409, slot := 2, constantValue := 0 }, { name := "MICRO_OF_DAY", type := (.object "java/time/temporal/ChronoField"), accessFlags := 16409, slot := 3, constantValue := 0 }, { name := "MILLI_OF_SECOND", type := (.object "java/time/temporal/ChronoField"), accessFlags := 16409, slot := 4, constantValue := 0 }, { name := "MILLI_OF_DAY", type := (.object "java/time/temporal/ChronoField"), accessFlags := 16409, slot := 5, constantValue := 0 }, { name := "SECOND_OF_MINUTE", type := (.object "java/time/temporal/ChronoField"), accessFlags := 16409, slot := 6, constantValue := 0 }, { name := "SECOND_OF_DAY", type := (.object "java/time/temporal/ChronoField"), accessFlags := 16409, slot := 7, constantValue := 0 }, { name := "MINUTE_OF_HOUR", type := (.object "java/time/temporal/ChronoField"), accessFlags := 16409, slot := 8, constantValue := 0 }, { name := "MINUTE_OF_DAY", type := (.object "java/time/temporal/ChronoField"), accessFlags := 16409, slot := 9, constantValue := 0 }, { name := "HOUR_OF_AMPM", type := (.object "java/time/temporal/ChronoField"), accessFlags := 16409, slot := 10, constantValue := 0 }, { name := "CLOCK_HOUR_OF_AMPM", type := (.object "java/time/temporal/ChronoField"), accessFlags := 16409, slot := 11, constantValue := 0 }, { name := "HOUR_OF_DAY", type := (.object "java/time/temporal/ChronoField"), accessFlags := 16409, slot := 12, constantValue := 0 }, { name := "CLOCK_HOUR_OF_DAY", type := (.object "java/time/temporal/ChronoField"), accessFlags := 16409, slot := 13, constantValue := 0 }, { name := "AMPM_OF_DAY", type := (.object "java/time/temporal/ChronoField"), accessFlags := 16409, slot := 14, constantValue := 0 }, { name := "DAY_OF_WEEK", type := (.object "java/time/temporal/ChronoField"), accessFlags := 16409, slot := 15, constantValue := 0 }, { name := "ALIGNED_DAY_OF_WEEK_IN_MONTH", type := (.object "java/time/temporal/ChronoField"), accessFlags := 16409, slot := 16, constantValue := 0 }, { name := "ALIGNED_DAY_OF_WEEK_IN_YEAR", type := (.object "java/time/temporal/ChronoField"), accessFlags := 16409, slot := 17, constantValue := 0 }, { name := "DAY_OF_MONTH", type := (.object "java/time/temporal/ChronoField"), accessFlags := 16409, slot := 18, constantValue := 0 }, { name := "DAY_OF_YEAR", type := (.object "java/time/temporal/ChronoField"), accessFlags := 16409, slot := 19, constantValue := 0 }, { name := "EPOCH_DAY", type := (.object "java/time/temporal/ChronoField"), accessFlags := 16409, slot := 20, constantValue := 0 }, { name := "ALIGNED_WEEK_OF_MONTH", type := (.object "java/time/temporal/ChronoField"), accessFlags := 16409, slot := 21, constantValue := 0 }, { name := "ALIGNED_WEEK_OF_YEAR", type := (.object "java/time/temporal/ChronoField"), accessFlags := 16409, slot := 22, constantValue := 0 }, { name := "MONTH_OF_YEAR", type := (.object "java/time/temporal/ChronoField"), accessFlags := 16409, slot := 23, constantValue := 0 }, { name := "PROLEPTIC_MONTH", type := (.object "java/time/temporal/ChronoField"), accessFlags := 16409, slot := 24, constantValue := 0 }, { name := "YEAR_OF_ERA", type := (.object "java/time/temporal/ChronoField"), accessFlags := 16409, slot := 25, constantValue := 0 }, { name := "YEAR", type := (.object "java/time/temporal/ChronoField"), accessFlags := 16409, slot := 26, constantValue := 0 }, { name := "ERA", type := (.object "java/time/temporal/ChronoField"), accessFlags := 16409, slot := 27, constantValue := 0 }, { name := "INSTANT_SECONDS", type := (.object "java/time/temporal/ChronoField"), accessFlags := 16409, slot := 28, constantValue := 0 }, { name := "OFFSET_SECONDS", type := (.object "java/time/temporal/ChronoField"), accessFlags := 16409, slot := 29, constantValue := 0 }, { name := "name", type := (.object "java/lang/String"), accessFlags := 18, slot := 3, constantValue := 0 }, { name := "baseUnit", type := (.object "java/time/temporal/TemporalUnit"), accessFlags := 18, slot := 4, constantValue := 0 }, { name := "rangeUnit", type := (.object "java/time/temporal/TemporalUnit"), accessFlags := 18, slot := 5, constantValue := 0 }, { name := "range", type := (.object "java/time/temporal/ValueRange"), accessFlags := 18, slot := 6, constantValue := 0 }, { name := "displayNameKey", type := (.object "java/lang/String"), accessFlags := 18, slot := 7, constantValue := 0 }, { name := "$VALUES", type := (.array (.object "java/time/temporal/ChronoField")), accessFlags := 4122, slot := 30, constantValue := 0 }]
  methods := #[k12m0, k12m1]
  instanceTypes := #[(.object "java/lang/String"), .int, .int, (.object "java/lang/String"), (.object "java/time/temporal/TemporalUnit"), (.object "java/time/temporal/TemporalUnit"), (.object "java/time/temporal/ValueRange"), (.object "java/lang/String")]
  staticTypes := #[(.object "java/time/temporal/ChronoField"), (.object "java/time/temporal/ChronoField"), (.object "java/time/temporal/ChronoField"), (.object "java/time/temporal/ChronoField"), (.object "java/time/temporal/ChronoField"), (.object "java/time/temporal/ChronoField"), (.object "java/time/temporal/ChronoField"), (.object "java/time/temporal/ChronoField"), (.object "java/time/temporal/ChronoField"), (.object "java/time/temporal/ChronoField"), (.object "java/time/temporal/ChronoField"), (.object "java/time/temporal/ChronoField"), (.object "java/time/temporal/ChronoField"), (.object "java/time/temporal/ChronoField"), (.object "java/time/temporal/ChronoField"), (.object "java/time/temporal/ChronoField"), (.object "java/time/temporal/ChronoField"), (.object "java/time/temporal/ChronoField"), (.object "java/time/temporal/ChronoField"), (.object "java/time/temporal/ChronoField"), (.object "java/time/temporal/ChronoField"), (.object "java/time/temporal/ChronoField"), (.object "java/time/temporal/ChronoField"), (.object "java/time/temporal/ChronoField"), (.object "java/time/temporal/ChronoField"), (.object "java/time/temporal/ChronoField"), (.object "java/time/temporal/ChronoField"), (.object "java/time/temporal/ChronoField"), (.object "java/time/temporal/ChronoField"), (.object "java/time/temporal/ChronoField"), (.array (.object "java/time/temporal/ChronoField"))]
  resolved := Array.replicate 507 none
  statics := some 0 }

def pool13 : Array CpInfo := pool [(9, .class_ 10), (0, u "java/time/temporal/ValueRange"), (18, .class_ 31), (1, u "java/lang/Object"), (1, .fieldref 9 34), (0, .nameAndType 35 36), (0, u "minSmallest"), (0, u "J"), (2, u "minLargest"), (2, u "maxSmallest"), (0, .fieldref 9 44), (0, .nameAndType 45 36), (0, u "maxLargest"), (0, .methodref 9 47), (0, .nameAndType 48 49), (0, u "getMinimum"), (0, u "()J"), (4, .methodref 9 55), (0, .nameAndType 56 49), (0, u "getMaximum"), (6, .methodref 9 64), (0, .nameAndType 65 66), (0, u "isValidValue"), (0, u "(J)Z"), (54, .class_ 122), (0, u "java/io/Serializable"), (0, u "serialVersionUID"), (17, u "checkValidValue"), (0, u "(JLjava/time/temporal/TemporalField;)J")] 24

def k13c0 : Code := { maxStack := 2, maxLocals := 1, code := jdk_2423_method_6_code, exceptionTable := #[], attributes := #[] }
def k13m0 : Method := { name := "getMinimum", desc := "()J", sig := { parameters := [], returnType := some .long }, accessFlags := 1, code := some k13c0 }
def k13c1 : Code := { maxStack := 2, maxLocals := 1, code := jdk_2423_method_9_code, exceptionTable := #[], attributes := #[] }
def k13m1 : Method := { name := "getMaximum", desc := "()J", sig := { parameters := [], returnType := some .long }, accessFlags := 1, code := some k13c1 }
def k13c2 : Code := { maxStack := 4, maxLocals := 3, code := jdk_2423_method_11_code, exceptionTable := #[], attributes := #[] }
def k13m2 : Method := { name := "isValidValue", desc := "(J)Z", sig := { parameters := [.long], returnType := some .boolean }, accessFlags := 1, code := some k13c2 }
def k13c3 : Code := { maxStack := 6, maxLocals := 4, code := jdk_2423_method_13_code, exceptionTable := #[], attributes := #[] }
def k13m3 : Method := { name := "checkValidValue", desc := "(JLjava/time/temporal/TemporalField;)J", sig := { parameters := [.long, (.object "java/time/temporal/TemporalField")], returnType := some .long }, accessFlags := 1, code := some k13c3 }
/-- java/time/temporal/ValueRange -/
def k13 : Class := { plain "java/time/temporal/ValueRange" (some 0) with
  accessFlags := 49
  interfaces := #[7]
  cf := some (fileOf pool13 9 #[] #[{ accessFlags := 1, nameIndex := 48, descriptorIndex := 49, attributes := #[] }, { accessFlags := 1, nameIndex := 56, descriptorIndex := 49, attributes := #[] }, { accessFlags := 1, nameIndex := 65, descriptorIndex := 66, attributes := #[] }, { accessFlags := 1, nameIndex := 141, descriptorIndex := 142, attributes := #[] }] 49 29 #[121] #[{ accessFlags := 26, nameIndex := 123, descriptorIndex := 36, attributes := #[] }, { accessFlags := 18, nameIndex := 35, descriptorIndex := 36, attributes := #[] }, { accessFlags := 18, nameIndex := 39, descriptorIndex := 36, attributes := #[] }, { accessFlags := 18, nameIndex := 42, descriptorIndex := 36, attributes := #[] }, { accessFlags := 18, nameIndex := 45, descriptorIndex := 36, attributes := #[] }])
  fields := #[{ name := "serialVersionUID", type := .long, accessFlags := 26, slot := 0, constantValue := 0 }, { name := "minSmallest", type := .long, accessFlags := 18, slot := 0, constantValue := 0 }, { name := "minLargest", type := .long, accessFlags := 18, slot := 1, constantValue := 0 }, { name := "maxSmallest", type := .long, accessFlags := 18, slot := 2, constantValue := 0 }, { name := "maxLargest", type := .long, accessFlags := 18, slot := 3, constantValue := 0 }]
  methods := #[k13m0, k13m1, k13m2, k13m3]
  instanceTypes := #[.long, .long, .long, .long]
  staticTypes := #[.long]
  resolved := Array.replicate 167 none
  statics := none }

def pool14 : Array CpInfo := pool [(1, .class_ 2), (0, u "com/example/hinta/hinta/Holiday"), (2, u "NEW_YEARS_DAY"), (0, u "Lcom/example/hinta/hinta/Holiday;"), (2, u "EASTER_MONDAY"), (2, u "KINGS_DAY"), (2, u "ASCENSION_DAY"), (2, u "WHIT_MONDAY"), (2, u "CHRISTMAS_DAY"), (2, u "SECOND_CHRISTMAS_DAY"), (2, u "$VALUES"), (0, u "[Lcom/example/hinta/hinta/Holiday;"), (6, .class_ 37), (1, u "java/lang/Enum"), (8, u "key"), (0, u "Ljava/lang/String;"), (2, u "date"), (0, u "Ljava/util/function/IntFunction;"), (6, .class_ 59), (0, u "java/time/LocalDate"), (16, u "(I)Ljava/time/LocalDate;"), (6, u "of"), (1, .fieldref 86 87), (0, .class_ 88), (0, .nameAndType 89 90), (0, u "java/time/Month"), (0, u "MARCH"), (0, u "Ljava/time/Month;"), (0, .methodref 58 92), (0, .nameAndType 83 93), (0, u "(ILjava/time/Month;I)Ljava/time/LocalDate;"), (0, .long 7), (1, .methodref 58 97), (0, .nameAndType 98 99), (0, u "plusDays"), (0, u "(J)Ljava/time/LocalDate;"), (21, u "easterSunday"), (43, u "KINGS_BIRTHDAY"), (0, u "I")] 63

def k14c0 : Code := { maxStack := 7, maxLocals := 9, code := prog_9_method_7_code, exceptionTable := #[], attributes := #[] }
def k14m0 : Method := { name := "easterSunday", desc := "(I)Ljava/time/LocalDate;", sig := { parameters := [.int], returnType := some (.object "java/time/LocalDate") }, accessFlags := 8, code := some k14c0 }
/-- com/example/hinta/hinta/Holiday -/
def k14 : Class := { plain "com/example/hinta/hinta/Holiday" (some 10) with
  accessFlags := 16432
  interfaces := #[]
  cf := some (fileOf pool14 1 #[] #[{ accessFlags := 8, nameIndex := 121, descriptorIndex := 76, attributes := #[] }] 16432 35 #[] #[{ accessFlags := 16409, nameIndex := 5, descriptorIndex := 6, attributes := #[] }, { accessFlags := 16409, nameIndex := 9, descriptorIndex := 6, attributes := #[] }, { accessFlags := 16409, nameIndex := 12, descriptorIndex := 6, attributes := #[] }, { accessFlags := 16409, nameIndex := 15, descriptorIndex := 6, attributes := #[] }, { accessFlags := 16409, nameIndex := 18, descriptorIndex := 6, attributes := #[] }, { accessFlags := 16409, nameIndex := 21, descriptorIndex := 6, attributes := #[] }, { accessFlags := 16409, nameIndex := 24, descriptorIndex := 6, attributes := #[] }, { accessFlags := 26, nameIndex := 165, descriptorIndex := 166, attributes := #[] }, { accessFlags := 18, nameIndex := 46, descriptorIndex := 47, attributes := #[] }, { accessFlags := 18, nameIndex := 50, descriptorIndex := 51, attributes := #[] }, { accessFlags := 4122, nameIndex := 27, descriptorIndex := 28, attributes := #[] }])
  fields := #[{ name := "NEW_YEARS_DAY", type := (.object "com/example/hinta/hinta/Holiday"), accessFlags := 16409, slot := 0, constantValue := 0 }, { name := "EASTER_MONDAY", type := (.object "com/example/hinta/hinta/Holiday"), accessFlags := 16409, slot := 1, constantValue := 0 }, { name := "KINGS_DAY", type := (.object "com/example/hinta/hinta/Holiday"), accessFlags := 16409, slot := 2, constantValue := 0 }, { name := "ASCENSION_DAY", type := (.object "com/example/hinta/hinta/Holiday"), accessFlags := 16409, slot := 3, constantValue := 0 }, { name := "WHIT_MONDAY", type := (.object "com/example/hinta/hinta/Holiday"), accessFlags := 16409, slot := 4, constantValue := 0 }, { name := "CHRISTMAS_DAY", type := (.object "com/example/hinta/hinta/Holiday"), accessFlags := 16409, slot := 5, constantValue := 0 }, { name := "SECOND_CHRISTMAS_DAY", type := (.object "com/example/hinta/hinta/Holiday"), accessFlags := 16409, slot := 6, constantValue := 0 }, { name := "KINGS_BIRTHDAY", type := .int, accessFlags := 26, slot := 7, constantValue := 0 }, { name := "key", type := (.object "java/lang/String"), accessFlags := 18, slot := 3, constantValue := 0 }, { name := "date", type := (.object "java/util/function/IntFunction"), accessFlags := 18, slot := 4, constantValue := 0 }, { name := "$VALUES", type := (.array (.object "com/example/hinta/hinta/Holiday")), accessFlags := 4122, slot := 8, constantValue := 0 }]
  methods := #[k14m0]
  instanceTypes := #[(.object "java/lang/String"), .int, .int, (.object "java/lang/String"), (.object "java/util/function/IntFunction")]
  staticTypes := #[(.object "com/example/hinta/hinta/Holiday"), (.object "com/example/hinta/hinta/Holiday"), (.object "com/example/hinta/hinta/Holiday"), (.object "com/example/hinta/hinta/Holiday"), (.object "com/example/hinta/hinta/Holiday"), (.object "com/example/hinta/hinta/Holiday"), (.object "com/example/hinta/hinta/Holiday"), .int, (.array (.object "com/example/hinta/hinta/Holiday"))]
  resolved := Array.replicate 230 none
  statics := none }

def pool15 : Array CpInfo := pool [(1, .class_ 2), (0, u "java/time/Month"), (2, u "JANUARY"), (0, u "Ljava/time/Month;"), (2, u "FEBRUARY"), (2, u "MARCH"), (2, u "APRIL"), (2, u "MAY"), (2, u "JUNE"), (2, u "JULY"), (2, u "AUGUST"), (2, u "SEPTEMBER"), (2, u "OCTOBER"), (2, u "NOVEMBER"), (2, u "DECEMBER"), (2, u "$VALUES"), (0, u "[Ljava/time/Month;"), (6, .class_ 52), (1, u "java/lang/Enum"), (31, u "ENUMS"), (28, .class_ 115), (1, u "java/time/temporal/TemporalAccessor"), (25, .methodref 1 142), (0, .nameAndType 143 144), (0, u "ordinal"), (0, u "()I"), (32, u "getValue"), (63, .class_ 242), (0, u "java/time/temporal/TemporalAdjuster")] 54

def k15c0 : Code := { maxStack := 2, maxLocals := 1, code := jdk_2329_method_6_code, exceptionTable := #[], attributes := #[] }
def k15m0 : Method := { name := "getValue", desc := "()I", sig := { parameters := [], returnType := some .int }, accessFlags := 1, code := some k15c0 }
/-- java/time/Month -/
def k15 : Class := { plain "java/time/Month" (some 10) with
  accessFlags := 16433
  interfaces := #[2, 4]
  cf := some (fileOf pool15 1 #[] #[{ accessFlags := 1, nameIndex := 177, descriptorIndex := 144, attributes := #[] }] 16433 50 #[113, 241] #[{ accessFlags := 16409, nameIndex := 5, descriptorIndex := 6, attributes := #[] }, { accessFlags := 16409, nameIndex := 9, descriptorIndex := 6, attributes := #[] }, { accessFlags := 16409, nameIndex := 12, descriptorIndex := 6, attributes := #[] }, { accessFlags := 16409, nameIndex := 15, descriptorIndex := 6, attributes := #[] }, { accessFlags := 16409, nameIndex := 18, descriptorIndex := 6, attributes := #[] }, { accessFlags := 16409, nameIndex := 21, descriptorIndex := 6, attributes := #[] }, { accessFlags := 16409, nameIndex := 24, descriptorIndex := 6, attributes := #[] }, { accessFlags := 16409, nameIndex := 27, descriptorIndex := 6, attributes := #[] }, { accessFlags := 16409, nameIndex := 30, descriptorIndex := 6, attributes := #[] }, { accessFlags := 16409, nameIndex := 33, descriptorIndex := 6, attributes := #[] }, { accessFlags := 16409, nameIndex := 36, descriptorIndex := 6, attributes := #[] }, { accessFlags := 16409, nameIndex := 39, descriptorIndex := 6, attributes := #[] }, { accessFlags := 26, nameIndex := 84, descriptorIndex := 43, attributes := #[] }, { accessFlags := 4122, nameIndex := 42, descriptorIndex := 43, attributes := #[] }])
  fields := #[{ name := "JANUARY", type := (.object "java/time/Month"), accessFlags := 16409, slot := 0, constantValue := 0 }, { name := "FEBRUARY", type := (.object "java/time/Month"), accessFlags := 16409, slot := 1, constantValue := 0 }, { name := "MARCH", type := (.object "java/time/Month"), accessFlags := 16409, slot := 2, constantValue := 0 }, { name := "APRIL", type := (.object "java/time/Month"), accessFlags := 16409, slot := 3, constantValue := 0 }, { name := "MAY", type := (.object "java/time/Month"), accessFlags := 16409, slot := 4, constantValue := 0 }, { name := "JUNE", type := (.object "java/time/Month"), accessFlags := 16409, slot := 5, constantValue := 0 }, { name := "JULY", type := (.object "java/time/Month"), accessFlags := 16409, slot := 6, constantValue := 0 }, { name := "AUGUST", type := (.object "java/time/Month"), accessFlags := 16409, slot := 7, constantValue := 0 }, { name := "SEPTEMBER", type := (.object "java/time/Month"), accessFlags := 16409, slot := 8, constantValue := 0 }, { name := "OCTOBER", type := (.object "java/time/Month"), accessFlags := 16409, slot := 9, constantValue := 0 }, { name := "NOVEMBER", type := (.object "java/time/Month"), accessFlags := 16409, slot := 10, constantValue := 0 }, { name := "DECEMBER", type := (.object "java/time/Month"), accessFlags := 16409, slot := 11, constantValue := 0 }, { name := "ENUMS", type := (.array (.object "java/time/Month")), accessFlags := 26, slot := 12, constantValue := 0 }, { name := "$VALUES", type := (.array (.object "java/time/Month")), accessFlags := 4122, slot := 13, constantValue := 0 }]
  methods := #[k15m0]
  instanceTypes := #[(.object "java/lang/String"), .int, .int]
  staticTypes := #[(.object "java/time/Month"), (.object "java/time/Month"), (.object "java/time/Month"), (.object "java/time/Month"), (.object "java/time/Month"), (.object "java/time/Month"), (.object "java/time/Month"), (.object "java/time/Month"), (.object "java/time/Month"), (.object "java/time/Month"), (.object "java/time/Month"), (.object "java/time/Month"), (.array (.object "java/time/Month")), (.array (.object "java/time/Month"))]
  resolved := Array.replicate 297 none
  statics := some 1 }

def pool16 : Array CpInfo := pool [(2, .class_ 4), (1, u "java/lang/CharSequence"), (42, .class_ 48), (0, u "java/lang/CharSequence$1CodePointIterator"), (10, .class_ 60), (0, u "java/lang/CharSequence$1CharIterator"), (5, .class_ 67), (0, u "java/lang/Object")] 63

/-- java/lang/CharSequence -/
def k16 : Class := { plain "java/lang/CharSequence" (some 0) with
  accessFlags := 1537
  interfaces := #[]
  cf := some (fileOf pool16 2 #[.nestMembers #[47, 59]] #[] 1537 66 #[] #[])
  fields := #[]
  methods := #[]
  instanceTypes := #[]
  staticTypes := #[]
  resolved := Array.replicate 131 none
  statics := none }

def pool17 : Array CpInfo := pool [(1, .class_ 2), (0, u "java/lang/constant/ConstantDesc"), (0, .class_ 4), (0, u "java/lang/Object")] 32

/-- java/lang/constant/ConstantDesc -/
def k17 : Class := { plain "java/lang/constant/ConstantDesc" (some 0) with
  accessFlags := 1537
  interfaces := #[]
  cf := some (fileOf pool17 1 #[] #[] 1537 3 #[] #[])
  fields := #[]
  methods := #[]
  instanceTypes := #[]
  staticTypes := #[]
  resolved := Array.replicate 37 none
  statics := none }

def pool18 : Array CpInfo := pool [(2, .class_ 4), (1, u "java/lang/Object"), (0, u "<init>"), (0, u "()V"), (3, .class_ 12), (1, u "java/lang/String"), (0, u "value"), (0, u "[B"), (2, u "coder"), (0, u "B"), (2, u "hash"), (0, u "I"), (2, u "hashIsZero"), (0, u "Z"), (13, u "COMPACT_STRINGS"), (534, .class_ 576), (0, u "java/lang/CharSequence"), (22, u "CASE_INSENSITIVE_ORDER"), (0, u "Ljava/util/Comparator;"), (500, u "serialPersistentFields"), (0, u "[Ljava/io/ObjectStreamField;"), (0, .class_ 1104), (0, u "java/lang/String$CaseInsensitiveComparator"), (1, .class_ 1107), (0, u "java/io/Serializable"), (0, .class_ 1109), (0, u "java/lang/Comparable"), (0, .class_ 1111), (0, u "java/lang/constant/Constable"), (0, .class_ 1113), (0, u "java/lang/constant/ConstantDesc"), (2, u "serialVersionUID"), (0, u "J"), (3, u "REPL"), (0, u "C"), (2, u "LATIN1"), (1, u "UTF16")] 323

def k18m0 : Method := { name := "<init>", desc := "()V", sig := { parameters := [], returnType := none }, accessFlags := 1, code := none }
/-- java/lang/String -/
def k18 : Class := { plain "java/lang/String" (some 0) with
  accessFlags := 49
  interfaces := #[7, 5, 16, 9, 17]
  cf := some (fileOf pool18 10 #[.nestMembers #[1103]] #[{ accessFlags := 1, nameIndex := 5, descriptorIndex := 6, attributes := #[] }] 49 2 #[1106, 1108, 575, 1110, 1112] #[{ accessFlags := 18, nameIndex := 13, descriptorIndex := 14, attributes := #[] }, { accessFlags := 18, nameIndex := 17, descriptorIndex := 18, attributes := #[] }, { accessFlags := 2, nameIndex := 21, descriptorIndex := 22, attributes := #[] }, { accessFlags := 2, nameIndex := 25, descriptorIndex := 26, attributes := #[] }, { accessFlags := 26, nameIndex := 1116, descriptorIndex := 1117, attributes := #[] }, { accessFlags := 24, nameIndex := 40, descriptorIndex := 26, attributes := #[] }, { accessFlags := 26, nameIndex := 1101, descriptorIndex := 1102, attributes := #[] }, { accessFlags := 26, nameIndex := 1121, descriptorIndex := 1122, attributes := #[] }, { accessFlags := 25, nameIndex := 599, descriptorIndex := 600, attributes := #[] }, { accessFlags := 24, nameIndex := 1125, descriptorIndex := 18, attributes := #[] }, { accessFlags := 24, nameIndex := 1127, descriptorIndex := 18, attributes := #[] }])
  fields := #[{ name := "value", type := (.array .byte), accessFlags := 18, slot := 0, constantValue := 0 }, { name := "coder", type := .byte, accessFlags := 18, slot := 1, constantValue := 0 }, { name := "hash", type := .int, accessFlags := 2, slot := 2, constantValue := 0 }, { name := "hashIsZero", type := .boolean, accessFlags := 2, slot := 3, constantValue := 0 }, { name := "serialVersionUID", type := .long, accessFlags := 26, slot := 0, constantValue := 0 }, { name := "COMPACT_STRINGS", type := .boolean, accessFlags := 24, slot := 1, constantValue := 0 }, { name := "serialPersistentFields", type := (.array (.object "java/io/ObjectStreamField")), accessFlags := 26, slot := 2, constantValue := 0 }, { name := "REPL", type := .char, accessFlags := 26, slot := 3, constantValue := 0 }, { name := "CASE_INSENSITIVE_ORDER", type := (.object "java/util/Comparator"), accessFlags := 25, slot := 4, constantValue := 0 }, { name := "LATIN1", type := .byte, accessFlags := 24, slot := 5, constantValue := 0 }, { name := "UTF16", type := .byte, accessFlags := 24, slot := 6, constantValue := 0 }]
  methods := #[k18m0]
  instanceTypes := #[(.array .byte), .byte, .int, .boolean]
  staticTypes := #[.long, .boolean, (.array (.object "java/io/ObjectStreamField")), .char, (.object "java/util/Comparator"), .byte, .byte]
  resolved := Array.replicate 1451 none
  statics := none }

def pool19 : Array CpInfo := pool [(2, .class_ 4), (1, u "java/lang/Object"), (0, u "<init>"), (0, u "()V"), (35, .class_ 44), (1, u "java/util/Objects"), (0, u "requireNonNull"), (48, u "(Ljava/lang/Object;Ljava/lang/String;)Ljava/lang/Object;")] 89

def k19m0 : Method := { name := "<init>", desc := "()V", sig := { parameters := [], returnType := none }, accessFlags := 2, code := none }
def k19c1 : Code := { maxStack := 3, maxLocals := 2, code := jdk_31_method_11_code, exceptionTable := #[], attributes := #[] }
def k19m1 : Method := { name := "requireNonNull", desc := "(Ljava/lang/Object;Ljava/lang/String;)Ljava/lang/Object;", sig := { parameters := [(.object "java/lang/Object"), (.object "java/lang/String")], returnType := some (.object "java/lang/Object") }, accessFlags := 9, code := some k19c1 }
/-- java/util/Objects -/
def k19 : Class := { plain "java/util/Objects" (some 0) with
  accessFlags := 49
  interfaces := #[]
  cf := some (fileOf pool19 42 #[] #[{ accessFlags := 2, nameIndex := 5, descriptorIndex := 6, attributes := #[] }, { accessFlags := 9, nameIndex := 45, descriptorIndex := 94, attributes := #[] }] 49 2 #[] #[])
  fields := #[]
  methods := #[k19m0, k19m1]
  instanceTypes := #[]
  staticTypes := #[]
  resolved := Array.replicate 184 none
  statics := none }

def pool20 : Array CpInfo := pool [(4, .class_ 6), (1, u "java/time/temporal/TemporalUnit"), (23, .class_ 31), (0, u "java/lang/Object")] 27

/-- java/time/temporal/TemporalUnit -/
def k20 : Class := { plain "java/time/temporal/TemporalUnit" (some 0) with
  accessFlags := 1537
  interfaces := #[]
  cf := some (fileOf pool20 4 #[] #[] 1537 30 #[] #[])
  fields := #[]
  methods := #[]
  instanceTypes := #[]
  staticTypes := #[]
  resolved := Array.replicate 59 none
  statics := none }

def pool21 : Array CpInfo := pool [(1, .class_ 2), (0, u "java/time/temporal/ChronoUnit"), (2, u "NANOS"), (0, u "Ljava/time/temporal/ChronoUnit;"), (2, u "MICROS"), (2, u "MILLIS"), (2, u "SECONDS"), (2, u "MINUTES"), (2, u "HOURS"), (2, u "HALF_DAYS"), (2, u "DAYS"), (2, u "WEEKS"), (2, u "MONTHS"), (2, u "YEARS"), (2, u "DECADES"), (2, u "CENTURIES"), (2, u "MILLENNIA"), (2, u "ERAS"), (2, u "FOREVER"), (2, u "$VALUES"), (0, u "[Ljava/time/temporal/ChronoUnit;"), (6, .class_ 64), (1, u "java/lang/Enum"), (8, u "name"), (0, u "Ljava/lang/String;"), (2, u "duration"), (0, u "Ljava/time/Duration;"), (117, .class_ 197), (0, u "java/time/temporal/TemporalUnit")] 39

/-- java/time/temporal/ChronoUnit -/
def k21 : Class := { plain "java/time/temporal/ChronoUnit" (some 10) with
  accessFlags := 16433
  interfaces := #[20]
  cf := some (fileOf pool21 1 #[] #[] 16433 62 #[196] #[{ accessFlags := 16409, nameIndex := 5, descriptorIndex := 6, attributes := #[] }, { accessFlags := 16409, nameIndex := 9, descriptorIndex := 6, attributes := #[] }, { accessFlags := 16409, nameIndex := 12, descriptorIndex := 6, attributes := #[] }, { accessFlags := 16409, nameIndex := 15, descriptorIndex := 6, attributes := #[] }, { accessFlags := 16409, nameIndex := 18, descriptorIndex := 6, attributes := #[] }, { accessFlags := 16409, nameIndex := 21, descriptorIndex := 6, attributes := #[] }, { accessFlags := 16409, nameIndex := 24, descriptorIndex := 6, attributes := #[] }, { accessFlags := 16409, nameIndex := 27, descriptorIndex := 6, attributes := #[] }, { accessFlags := 16409, nameIndex := 30, descriptorIndex := 6, attributes := #[] }, { accessFlags := 16409, nameIndex := 33, descriptorIndex := 6, attributes := #[] }, { accessFlags := 16409, nameIndex := 36, descriptorIndex := 6, attributes := #[] }, { accessFlags := 16409, nameIndex := 39, descriptorIndex := 6, attributes := #[] }, { accessFlags := 16409, nameIndex := 42, descriptorIndex := 6, attributes := #[] }, { accessFlags := 16409, nameIndex := 45, descriptorIndex := 6, attributes := #[] }, { accessFlags := 16409, nameIndex := 48, descriptorIndex := 6, attributes := #[] }, { accessFlags := 16409, nameIndex := 51, descriptorIndex := 6, attributes := #[] }, { accessFlags := 18, nameIndex := 73, descriptorIndex := 74, attributes := #[] }, { accessFlags := 18, nameIndex := 77, descriptorIndex := 78, attributes := #[] }, { accessFlags := 4122, nameIndex := 54, descriptorIndex := 55, attributes := #[] }])
  fields := #[{ name := "NANOS", type := (.object "java/time/temporal/ChronoUnit"), accessFlags := 16409, slot := 0, constantValue := 0 }, { name := "MICROS", type := (.object "java/time/temporal/ChronoUnit"), accessFlags := 16409, slot := 1, constantValue := 0 }, { name := "MILLIS", type := (.object "java/time/temporal/ChronoUnit"), accessFlags := 16409, slot := 2, constantValue := 0 }, { name := "SECONDS", type := (.object "java/time/temporal/ChronoUnit"), accessFlags := 16409, slot := 3, constantValue := 0 }, { name := "MINUTES", type := (.object "java/time/temporal/ChronoUnit"), accessFlags := 16409, slot := 4, constantValue := 0 }, { name := "HOURS", type := (.object "java/time/temporal/ChronoUnit"), accessFlags := 16409, slot := 5, constantValue := 0 }, { name := "HALF_DAYS", type := (.object "java/time/temporal/ChronoUnit"), accessFlags := 16409, slot := 6, constantValue := 0 }, { name := "DAYS", type := (.object "java/time/temporal/ChronoUnit"), accessFlags := 16409, slot := 7, constantValue := 0 }, { name := "WEEKS", type := (.object "java/time/temporal/ChronoUnit"), accessFlags := 16409, slot := 8, constantValue := 0 }, { name := "MONTHS", type := (.object "java/time/temporal/ChronoUnit"), accessFlags := 16409, slot := 9, constantValue := 0 }, { name := "YEARS", type := (.object "java/time/temporal/ChronoUnit"), accessFlags := 16409, slot := 10, constantValue := 0 }, { name := "DECADES", type := (.object "java/time/temporal/ChronoUnit"), accessFlags := 16409, slot := 11, constantValue := 0 }, { name := "CENTURIES", type := (.object "java/time/temporal/ChronoUnit"), accessFlags := 16409, slot := 12, constantValue := 0 }, { name := "MILLENNIA", type := (.object "java/time/temporal/ChronoUnit"), accessFlags := 16409, slot := 13, constantValue := 0 }, { name := "ERAS", type := (.object "java/time/temporal/ChronoUnit"), accessFlags := 16409, slot := 14, constantValue := 0 }, { name := "FOREVER", type := (.object "java/time/temporal/ChronoUnit"), accessFlags := 16409, slot := 15, constantValue := 0 }, { name := "name", type := (.object "java/lang/String"), accessFlags := 18, slot := 3, constantValue := 0 }, { name := "duration", type := (.object "java/time/Duration"), accessFlags := 18, slot := 4, constantValue := 0 }, { name := "$VALUES", type := (.array (.object "java/time/temporal/ChronoUnit")), accessFlags := 4122, slot := 16, constantValue := 0 }]
  methods := #[]
  instanceTypes := #[(.object "java/lang/String"), .int, .int, (.object "java/lang/String"), (.object "java/time/Duration")]
  staticTypes := #[(.object "java/time/temporal/ChronoUnit"), (.object "java/time/temporal/ChronoUnit"), (.object "java/time/temporal/ChronoUnit"), (.object "java/time/temporal/ChronoUnit"), (.object "java/time/temporal/ChronoUnit"), (.object "java/time/temporal/ChronoUnit"), (.object "java/time/temporal/ChronoUnit"), (.object "java/time/temporal/ChronoUnit"), (.object "java/time/temporal/ChronoUnit"), (.object "java/time/temporal/ChronoUnit"), (.object "java/time/temporal/ChronoUnit"), (.object "java/time/temporal/ChronoUnit"), (.object "java/time/temporal/ChronoUnit"), (.object "java/time/temporal/ChronoUnit"), (.object "java/time/temporal/ChronoUnit"), (.object "java/time/temporal/ChronoUnit"), (.array (.object "java/time/temporal/ChronoUnit"))]
  resolved := Array.replicate 237 none
  statics := some 2 }

def pool22 : Array CpInfo := pool [(1, .class_ 2), (0, u "java/time/temporal/TemporalAmount"), (0, .class_ 4), (0, u "java/lang/Object")] 11

/-- java/time/temporal/TemporalAmount -/
def k22 : Class := { plain "java/time/temporal/TemporalAmount" (some 0) with
  accessFlags := 1537
  interfaces := #[]
  cf := some (fileOf pool22 1 #[] #[] 1537 3 #[] #[])
  fields := #[]
  methods := #[]
  instanceTypes := #[]
  staticTypes := #[]
  resolved := Array.replicate 16 none
  statics := none }

def pool23 : Array CpInfo := pool [(11, .class_ 13), (1, u "java/time/Duration"), (20, u "ZERO"), (0, u "Ljava/time/Duration;"), (13, .class_ 51), (1, u "java/time/temporal/TemporalAmount"), (27, .class_ 81), (1, u "java/time/Duration$Lazy"), (35, u "seconds"), (101, .class_ 220), (0, u "java/lang/Object"), (2, u "J"), (2, u "nanos"), (0, u "I"), (11, .class_ 241), (1, u "java/time/Duration$DurationUnits"), (27, .class_ 271), (1, u "java/time/Duration$1"), (91, u "BI_NANOS_PER_SECOND"), (0, u "Ljava/math/BigInteger;"), (120, .class_ 486), (0, u "java/lang/Comparable"), (0, .class_ 488), (0, u "java/io/Serializable"), (0, u "serialVersionUID")] 166

/-- java/time/Duration -/
def k23 : Class := { plain "java/time/Duration" (some 0) with
  accessFlags := 49
  interfaces := #[22, 5, 7]
  cf := some (fileOf pool23 11 #[.nestMembers #[269, 239, 79]] #[] 49 219 #[49, 485, 487] #[{ accessFlags := 25, nameIndex := 34, descriptorIndex := 35, attributes := #[] }, { accessFlags := 26, nameIndex := 489, descriptorIndex := 223, attributes := #[] }, { accessFlags := 26, nameIndex := 363, descriptorIndex := 364, attributes := #[] }, { accessFlags := 18, nameIndex := 117, descriptorIndex := 223, attributes := #[] }, { accessFlags := 18, nameIndex := 226, descriptorIndex := 227, attributes := #[] }])
  fields := #[{ name := "ZERO", type := (.object "java/time/Duration"), accessFlags := 25, slot := 0, constantValue := 0 }, { name := "serialVersionUID", type := .long, accessFlags := 26, slot := 1, constantValue := 0 }, { name := "BI_NANOS_PER_SECOND", type := (.object "java/math/BigInteger"), accessFlags := 26, slot := 2, constantValue := 0 }, { name := "seconds", type := .long, accessFlags := 18, slot := 0, constantValue := 0 }, { name := "nanos", type := .int, accessFlags := 18, slot := 1, constantValue := 0 }]
  methods := #[]
  instanceTypes := #[.long, .int]
  staticTypes := #[(.object "java/time/Duration"), .long, (.object "java/math/BigInteger")]
  resolved := Array.replicate 656 none
  statics := none }

def pool24 : Array CpInfo := pool [(1, u "java/lang/Cloneable"), (0, .class_ 1), (0, u "java/lang/Object"), (0, .class_ 3)] 3

/-- java/lang/Cloneable -/
def k24 : Class := { plain "java/lang/Cloneable" (some 0) with
  accessFlags := 1537
  interfaces := #[]
  cf := some (fileOf pool24 2 #[] #[] 1537 4 #[] #[])
  fields := #[]
  methods := #[]
  instanceTypes := #[]
  staticTypes := #[]
  resolved := Array.replicate 8 none
  statics := none }

/-- the primitive byte -/
def k25 : Class := { plain "byte" none with kind := .primitive 'B', accessFlags := 0x411 }
/-- [B -/
def k26 : Class := { plain "[B" (some 0) with kind := .array 25 .byte, interfaces := #[24, 7], accessFlags := 1041 }

/-- the primitive int -/
def k27 : Class := { plain "int" none with kind := .primitive 'I', accessFlags := 0x411 }
/-- [I -/
def k28 : Class := { plain "[I" (some 0) with kind := .array 27 .int, interfaces := #[24, 7], accessFlags := 1041 }

def heap : Heap := #[{ cls := 12, slots := #[.null, .null, .null, .null, .null, .null, .null, .null, .null, .null, .null, .null, .null, .null, .null, .null, .null, .null, .ref 14, .null, .null, .null, .null, .ref 13, .null, .null, .ref 12, .null, .null, .null, .null], vm := .statics 12 },
  { cls := 15, slots := #[.null, .null, .ref 15, .null, .null, .null, .null, .null, .null, .null, .null, .null, .null, .null], vm := .statics 15 },
  { cls := 21, slots := #[.null, .null, .null, .null, .null, .null, .null, .ref 8, .null, .ref 7, .ref 5, .null, .null, .null, .null, .ref 6, .null], vm := .statics 21 },
  { cls := 18, slots := #[.ref 17, .int 0, .int 0, .int 0], vm := .none },
  { cls := 23, slots := #[.long 0, .int 0], vm := .none },
  { cls := 21, slots := #[.ref 3, .int 10, .int 0, .ref 3, .ref 4], vm := .none },
  { cls := 21, slots := #[.ref 3, .int 15, .int 0, .ref 3, .ref 4], vm := .none },
  { cls := 21, slots := #[.ref 3, .int 9, .int 0, .ref 3, .ref 4], vm := .none },
  { cls := 21, slots := #[.ref 3, .int 7, .int 0, .ref 3, .ref 4], vm := .none },
  { cls := 13, slots := #[.long (-999999999), .long (-999999999), .long 999999999, .long 999999999], vm := .none },
  { cls := 13, slots := #[.long 1, .long 1, .long 12, .long 12], vm := .none },
  { cls := 13, slots := #[.long 1, .long 1, .long 28, .long 31], vm := .none },
  { cls := 12, slots := #[.ref 3, .int 26, .int 0, .ref 3, .ref 5, .ref 6, .ref 9, .ref 3], vm := .none },
  { cls := 12, slots := #[.ref 3, .int 23, .int 0, .ref 3, .ref 7, .ref 5, .ref 10, .ref 3], vm := .none },
  { cls := 12, slots := #[.ref 3, .int 18, .int 0, .ref 3, .ref 8, .ref 7, .ref 11, .ref 3], vm := .none },
  { cls := 15, slots := #[.ref 3, .int 2, .int 0], vm := .none },
  { cls := 15, slots := #[.ref 3, .int 2, .int 0], vm := .none },
  { cls := 26, slots := #[.int 65], vm := .none }]
def classes : Array Class := #[k0, k1, k2, k3, k4, k5, k6, k7, k8, k9, k10, k11, k12, k13, k14, k15, k16, k17, k18, k19, k20, k21, k22, k23, k24, k25, k26, k27, k28]
def interned : List (Array UInt16 × Addr) := []
def slotsUsed : Nat := 131
def theMethod : MethodId := ⟨1, 2⟩
def args0 : Array Value := #[.int 5]
def aboutOver (below : List Frame) : State where
  vm := { classes := classes, interned := interned.toArray }
  heap := heap
  slotsUsed := slotsUsed
  threads := #[{ frames := .invoking theMethod args0 :: below }]
def below0 : List Frame := [.native { method := ⟨0, 0⟩, args := #[] }]
def about1 : State := aboutOver below0
def p0 : Program := .bare "" "" ""
def e0 : Env := launch0.env 0 0 0
theorem w_frames : about1.frames = Frame.invoking theMethod args0 :: below0 := rfl
set_option maxRecDepth 65536 in
theorem w_args : argsFit about1.vm theMethod args0 = true := by decide +kernel
set_option maxRecDepth 65536 in
theorem w_heap : heapFits about1 = true := by decide +kernel
set_option maxRecDepth 65536 in
theorem w_runnable : about1.curStatus? = some .runnable := by decide +kernel
set_option maxRecDepth 65536 in
theorem w_alone : about1.alone = true := by decide +kernel
set_option maxRecDepth 65536 in
theorem w_named : about1.methodNamed? x = some theMethod := by decide +kernel
set_option maxRecDepth 65536 in
theorem w_hears : about1.hears theMethod below0 = true := by decide +kernel
set_option maxRecDepth 65536 in
theorem w_ripe : about1.ripe theMethod args0 below0 = true := by decide +kernel
theorem w_running : about1.status = .running := rfl
set_option maxRecDepth 65536 in
theorem w_room : about1.hasRoom e0.platform room_1 = true :=
  launch0.hasRoom_least _ room_1 (by decide +kernel) (by decide +kernel) (by decide +kernel) (by decide +kernel) (by decide +kernel) (by decide +kernel)
theorem allAtoms_all (ts : List Jvm.Cond) (a : Array Jvm.Value) (st : Jvm.State) : (allAtoms ts).before a st = ts.all (fun c => c.before a st) := by
  induction ts with
  | nil => rfl
  | cons c t ih =>
    show (Jvm.Cond.and c (allAtoms t)).before a st = _
    rw [Jvm.Cond.before_and, ih, List.all_cons]
def words1 : List Jvm.Cond := Jvm.Cond.code x code maxLocals ret :: tables_1
/-- a 'code' word, met by the world's own term for the bytes: nothing is compared byte by byte -/
theorem code_word {y : MethodName} {bytes : ByteArray} {mx : Nat} {rt : Option FieldType} {a : Array Value} {s : State} {m : MethodId} {meth : Method} {c : Code} (h1 : s.methodNamed? y = some m) (h2 : s.vm.method? m = some meth) (h3 : meth.code = some c) (h4 : c.code = bytes)
    (h5 : (c.maxLocals == mx && c.exceptionTable.isEmpty && decide (c.maxStack ≤ mostOperands) && decide (meth.sig.returnType = rt) && !meth.locks && decide (parseMethodDescriptor y.desc = some meth.sig)) = true) : (Jvm.Cond.code y bytes mx rt).before a s = true := by
  simp only [Bool.and_eq_true, beq_iff_eq, Bool.not_eq_true', decide_eq_true_eq] at h5
  obtain ⟨⟨⟨⟨⟨g1, g2⟩, g3⟩, g4⟩, g5⟩, g6⟩ := h5
  simp [Cond.before, Cond.holds, Cond.value, h1, h2, h3, h4, g1, g2, g3, g4, g5, g6]
def isCode : Jvm.Cond → Bool
  | .code _ _ _ _ => true
  | _ => false
theorem all_split {L : List Jvm.Cond} {P : Jvm.Cond → Bool} (h1 : L.all (fun c => isCode c || P c) = true) (h2 : ∀ c ∈ L.filter isCode, P c = true) : L.all P = true := by
  refine List.all_eq_true.mpr fun c hc => ?_
  have h := List.all_eq_true.mp h1 c hc
  rcases Bool.eq_false_or_eq_true (isCode c) with hi | hi
  · exact h2 c (List.mem_filter.mpr ⟨hc, hi⟩)
  · simpa [hi] using h
set_option maxRecDepth 65536 in
theorem w_c0 : (Jvm.Cond.code x code maxLocals ret).before args0 about1 = true := code_word (m := ⟨1, 2⟩) (meth := k1m2) (c := k1c2) (by decide +kernel) rfl rfl rfl (by decide +kernel)
set_option maxRecDepth 65536 in
theorem w_c1 : (Jvm.Cond.code ({ cls := "com/example/hinta/hinta/HolidayEasterSundayPinLaw", name := "mod", desc := "(JJ)J" } : Jvm.MethodName) method_2_code (6 : Nat) (Option.some Jvm.ClassFile.FieldType.long)).before args0 about1 = true := code_word (m := ⟨1, 1⟩) (meth := k1m1) (c := k1c1) (by decide +kernel) rfl rfl rfl (by decide +kernel)
set_option maxRecDepth 65536 in
theorem w_c2 : (Jvm.Cond.code ({ cls := "java/time/LocalDate", name := "of", desc := "(III)Ljava/time/LocalDate;" } : Jvm.MethodName) jdk_2323_method_5_code (3 : Nat) (Option.some (Jvm.ClassFile.FieldType.object "java/time/LocalDate"))).before args0 about1 = true := code_word (m := ⟨8, 1⟩) (meth := k8m1) (c := k8c1) (by decide +kernel) rfl rfl rfl (by decide +kernel)
set_option maxRecDepth 65536 in
theorem w_c3 : (Jvm.Cond.code ({ cls := "java/time/temporal/ChronoField", name := "checkValidValue", desc := "(J)J" } : Jvm.MethodName) jdk_2395_method_11_code (3 : Nat) (Option.some Jvm.ClassFile.FieldType.long)).before args0 about1 = true := code_word (m := ⟨12, 1⟩) (meth := k12m1) (c := k12c1) (by decide +kernel) rfl rfl rfl (by decide +kernel)
set_option maxRecDepth 65536 in
theorem w_c4 : (Jvm.Cond.code ({ cls := "java/time/temporal/ChronoField", name := "range", desc := "()Ljava/time/temporal/ValueRange;" } : Jvm.MethodName) jdk_2395_method_8_code (1 : Nat) (Option.some (Jvm.ClassFile.FieldType.object "java/time/temporal/ValueRange"))).before args0 about1 = true := code_word (m := ⟨12, 0⟩) (meth := k12m0) (c := k12c0) (by decide +kernel) rfl rfl rfl (by decide +kernel)
set_option maxRecDepth 65536 in
theorem w_c5 : (Jvm.Cond.code ({ cls := "java/time/temporal/ValueRange", name := "checkValidValue", desc := "(JLjava/time/temporal/TemporalField;)J" } : Jvm.MethodName) jdk_2423_method_13_code (4 : Nat) (Option.some Jvm.ClassFile.FieldType.long)).before args0 about1 = true := code_word (m := ⟨13, 3⟩) (meth := k13m3) (c := k13c3) (by decide +kernel) rfl rfl rfl (by decide +kernel)
set_option maxRecDepth 65536 in
theorem w_c6 : (Jvm.Cond.code ({ cls := "java/time/temporal/ValueRange", name := "isValidValue", desc := "(J)Z" } : Jvm.MethodName) jdk_2423_method_11_code (3 : Nat) (Option.some Jvm.ClassFile.FieldType.boolean)).before args0 about1 = true := code_word (m := ⟨13, 2⟩) (meth := k13m2) (c := k13c2) (by decide +kernel) rfl rfl rfl (by decide +kernel)
set_option maxRecDepth 65536 in
theorem w_c7 : (Jvm.Cond.code ({ cls := "java/time/temporal/ValueRange", name := "getMinimum", desc := "()J" } : Jvm.MethodName) jdk_2423_method_6_code (1 : Nat) (Option.some Jvm.ClassFile.FieldType.long)).before args0 about1 = true := code_word (m := ⟨13, 0⟩) (meth := k13m0) (c := k13c0) (by decide +kernel) rfl rfl rfl (by decide +kernel)
set_option maxRecDepth 65536 in
theorem w_c8 : (Jvm.Cond.code ({ cls := "java/time/temporal/ValueRange", name := "getMaximum", desc := "()J" } : Jvm.MethodName) jdk_2423_method_9_code (1 : Nat) (Option.some Jvm.ClassFile.FieldType.long)).before args0 about1 = true := code_word (m := ⟨13, 1⟩) (meth := k13m1) (c := k13c1) (by decide +kernel) rfl rfl rfl (by decide +kernel)
set_option maxRecDepth 65536 in
theorem w_c9 : (Jvm.Cond.code ({ cls := "java/time/LocalDate", name := "create", desc := "(III)Ljava/time/LocalDate;" } : Jvm.MethodName) jdk_2323_method_12_code (4 : Nat) (Option.some (Jvm.ClassFile.FieldType.object "java/time/LocalDate"))).before args0 about1 = true := code_word (m := ⟨8, 2⟩) (meth := k8m2) (c := k8c2) (by decide +kernel) rfl rfl rfl (by decide +kernel)
set_option maxRecDepth 65536 in
theorem w_c10 : (Jvm.Cond.code ({ cls := "java/time/LocalDate", name := "<init>", desc := "(III)V" } : Jvm.MethodName) jdk_2323_method_14_code (4 : Nat) (Option.none : Option Jvm.ClassFile.FieldType)).before args0 about1 = true := code_word (m := ⟨8, 3⟩) (meth := k8m3) (c := k8c3) (by decide +kernel) rfl rfl rfl (by decide +kernel)
set_option maxRecDepth 65536 in
theorem w_c11 : (Jvm.Cond.code ({ cls := "java/lang/Object", name := "<init>", desc := "()V" } : Jvm.MethodName) object_method_1_code (1 : Nat) (Option.none : Option Jvm.ClassFile.FieldType)).before args0 about1 = true := code_word (m := ⟨0, 0⟩) (meth := k0m0) (c := k0c0) (by decide +kernel) rfl rfl rfl (by decide +kernel)
set_option maxRecDepth 65536 in
theorem w_c12 : (Jvm.Cond.code ({ cls := "com/example/hinta/hinta/Holiday", name := "easterSunday", desc := "(I)Ljava/time/LocalDate;" } : Jvm.MethodName) prog_9_method_7_code (9 : Nat) (Option.some (Jvm.ClassFile.FieldType.object "java/time/LocalDate"))).before args0 about1 = true := code_word (m := ⟨14, 0⟩) (meth := k14m0) (c := k14c0) (by decide +kernel) rfl rfl rfl (by decide +kernel)
set_option maxRecDepth 65536 in
theorem w_c13 : (Jvm.Cond.code ({ cls := "java/time/LocalDate", name := "of", desc := "(ILjava/time/Month;I)Ljava/time/LocalDate;" } : Jvm.MethodName) jdk_2323_method_4_code (3 : Nat) (Option.some (Jvm.ClassFile.FieldType.object "java/time/LocalDate"))).before args0 about1 = true := code_word (m := ⟨8, 0⟩) (meth := k8m0) (c := k8c0) (by decide +kernel) rfl rfl rfl (by decide +kernel)
set_option maxRecDepth 65536 in
theorem w_c14 : (Jvm.Cond.code ({ cls := "java/util/Objects", name := "requireNonNull", desc := "(Ljava/lang/Object;Ljava/lang/String;)Ljava/lang/Object;" } : Jvm.MethodName) jdk_31_method_11_code (2 : Nat) (Option.some (Jvm.ClassFile.FieldType.object "java/lang/Object"))).before args0 about1 = true := code_word (m := ⟨19, 1⟩) (meth := k19m1) (c := k19c1) (by decide +kernel) rfl rfl rfl (by decide +kernel)
set_option maxRecDepth 65536 in
theorem w_c15 : (Jvm.Cond.code ({ cls := "java/time/Month", name := "getValue", desc := "()I" } : Jvm.MethodName) jdk_2329_method_6_code (1 : Nat) (Option.some Jvm.ClassFile.FieldType.int)).before args0 about1 = true := code_word (m := ⟨15, 0⟩) (meth := k15m0) (c := k15c0) (by decide +kernel) rfl rfl rfl (by decide +kernel)
set_option maxRecDepth 65536 in
theorem w_c16 : (Jvm.Cond.code ({ cls := "java/lang/Enum", name := "ordinal", desc := "()I" } : Jvm.MethodName) jdk_37_method_2_code (1 : Nat) (Option.some Jvm.ClassFile.FieldType.int)).before args0 about1 = true := code_word (m := ⟨10, 0⟩) (meth := k10m0) (c := k10c0) (by decide +kernel) rfl rfl rfl (by decide +kernel)
set_option maxRecDepth 65536 in
theorem w_c17 : (Jvm.Cond.code ({ cls := "java/time/LocalDate", name := "plusDays", desc := "(J)Ljava/time/LocalDate;" } : Jvm.MethodName) jdk_2323_method_44_code (7 : Nat) (Option.some (Jvm.ClassFile.FieldType.object "java/time/LocalDate"))).before args0 about1 = true := code_word (m := ⟨8, 5⟩) (meth := k8m5) (c := k8c5) (by decide +kernel) rfl rfl rfl (by decide +kernel)
set_option maxRecDepth 65536 in
theorem w_c18 : (Jvm.Cond.code ({ cls := "java/time/LocalDate", name := "lengthOfMonth", desc := "()I" } : Jvm.MethodName) jdk_2323_method_31_code (1 : Nat) (Option.some Jvm.ClassFile.FieldType.int)).before args0 about1 = true := code_word (m := ⟨8, 4⟩) (meth := k8m4) (c := k8c4) (by decide +kernel) rfl rfl rfl (by decide +kernel)
set_option maxRecDepth 65536 in
theorem w_c19 : (Jvm.Cond.code ({ cls := "java/time/LocalDate", name := "equals", desc := "(Ljava/lang/Object;)Z" } : Jvm.MethodName) jdk_2323_method_74_code (2 : Nat) (Option.some Jvm.ClassFile.FieldType.boolean)).before args0 about1 = true := code_word (m := ⟨8, 7⟩) (meth := k8m7) (c := k8c7) (by decide +kernel) rfl rfl rfl (by decide +kernel)
set_option maxRecDepth 65536 in
theorem w_c20 : (Jvm.Cond.code ({ cls := "java/time/LocalDate", name := "compareTo0", desc := "(Ljava/time/LocalDate;)I" } : Jvm.MethodName) jdk_2323_method_70_code (3 : Nat) (Option.some Jvm.ClassFile.FieldType.int)).before args0 about1 = true := code_word (m := ⟨8, 6⟩) (meth := k8m6) (c := k8c6) (by decide +kernel) rfl rfl rfl (by decide +kernel)
def codes1 : List Jvm.Cond := [Jvm.Cond.code x code maxLocals ret, Jvm.Cond.code ({ cls := "com/example/hinta/hinta/HolidayEasterSundayPinLaw", name := "mod", desc := "(JJ)J" } : Jvm.MethodName) method_2_code (6 : Nat) (Option.some Jvm.ClassFile.FieldType.long), Jvm.Cond.code ({ cls := "java/time/LocalDate", name := "of", desc := "(III)Ljava/time/LocalDate;" } : Jvm.MethodName) jdk_2323_method_5_code (3 : Nat) (Option.some (Jvm.ClassFile.FieldType.object "java/time/LocalDate")), Jvm.Cond.code ({ cls := "java/time/temporal/ChronoField", name := "checkValidValue", desc := "(J)J" } : Jvm.MethodName) jdk_2395_method_11_code (3 : Nat) (Option.some Jvm.ClassFile.FieldType.long), Jvm.Cond.code ({ cls := "java/time/temporal/ChronoField", name := "range", desc := "()Ljava/time/temporal/ValueRange;" } : Jvm.MethodName) jdk_2395_method_8_code (1 : Nat) (Option.some (Jvm.ClassFile.FieldType.object "java/time/temporal/ValueRange")), Jvm.Cond.code ({ cls := "java/time/temporal/ValueRange", name := "checkValidValue", desc := "(JLjava/time/temporal/TemporalField;)J" } : Jvm.MethodName) jdk_2423_method_13_code (4 : Nat) (Option.some Jvm.ClassFile.FieldType.long), Jvm.Cond.code ({ cls := "java/time/temporal/ValueRange", name := "isValidValue", desc := "(J)Z" } : Jvm.MethodName) jdk_2423_method_11_code (3 : Nat) (Option.some Jvm.ClassFile.FieldType.boolean), Jvm.Cond.code ({ cls := "java/time/temporal/ValueRange", name := "getMinimum", desc := "()J" } : Jvm.MethodName) jdk_2423_method_6_code (1 : Nat) (Option.some Jvm.ClassFile.FieldType.long), Jvm.Cond.code ({ cls := "java/time/temporal/ValueRange", name := "getMaximum", desc := "()J" } : Jvm.MethodName) jdk_2423_method_9_code (1 : Nat) (Option.some Jvm.ClassFile.FieldType.long), Jvm.Cond.code ({ cls := "java/time/LocalDate", name := "create", desc := "(III)Ljava/time/LocalDate;" } : Jvm.MethodName) jdk_2323_method_12_code (4 : Nat) (Option.some (Jvm.ClassFile.FieldType.object "java/time/LocalDate")), Jvm.Cond.code ({ cls := "java/time/LocalDate", name := "<init>", desc := "(III)V" } : Jvm.MethodName) jdk_2323_method_14_code (4 : Nat) (Option.none : Option Jvm.ClassFile.FieldType), Jvm.Cond.code ({ cls := "java/lang/Object", name := "<init>", desc := "()V" } : Jvm.MethodName) object_method_1_code (1 : Nat) (Option.none : Option Jvm.ClassFile.FieldType), Jvm.Cond.code ({ cls := "com/example/hinta/hinta/Holiday", name := "easterSunday", desc := "(I)Ljava/time/LocalDate;" } : Jvm.MethodName) prog_9_method_7_code (9 : Nat) (Option.some (Jvm.ClassFile.FieldType.object "java/time/LocalDate")), Jvm.Cond.code ({ cls := "java/time/LocalDate", name := "of", desc := "(ILjava/time/Month;I)Ljava/time/LocalDate;" } : Jvm.MethodName) jdk_2323_method_4_code (3 : Nat) (Option.some (Jvm.ClassFile.FieldType.object "java/time/LocalDate")), Jvm.Cond.code ({ cls := "java/util/Objects", name := "requireNonNull", desc := "(Ljava/lang/Object;Ljava/lang/String;)Ljava/lang/Object;" } : Jvm.MethodName) jdk_31_method_11_code (2 : Nat) (Option.some (Jvm.ClassFile.FieldType.object "java/lang/Object")), Jvm.Cond.code ({ cls := "java/time/Month", name := "getValue", desc := "()I" } : Jvm.MethodName) jdk_2329_method_6_code (1 : Nat) (Option.some Jvm.ClassFile.FieldType.int), Jvm.Cond.code ({ cls := "java/lang/Enum", name := "ordinal", desc := "()I" } : Jvm.MethodName) jdk_37_method_2_code (1 : Nat) (Option.some Jvm.ClassFile.FieldType.int), Jvm.Cond.code ({ cls := "java/time/LocalDate", name := "plusDays", desc := "(J)Ljava/time/LocalDate;" } : Jvm.MethodName) jdk_2323_method_44_code (7 : Nat) (Option.some (Jvm.ClassFile.FieldType.object "java/time/LocalDate")), Jvm.Cond.code ({ cls := "java/time/LocalDate", name := "lengthOfMonth", desc := "()I" } : Jvm.MethodName) jdk_2323_method_31_code (1 : Nat) (Option.some Jvm.ClassFile.FieldType.int), Jvm.Cond.code ({ cls := "java/time/LocalDate", name := "equals", desc := "(Ljava/lang/Object;)Z" } : Jvm.MethodName) jdk_2323_method_74_code (2 : Nat) (Option.some Jvm.ClassFile.FieldType.boolean), Jvm.Cond.code ({ cls := "java/time/LocalDate", name := "compareTo0", desc := "(Ljava/time/LocalDate;)I" } : Jvm.MethodName) jdk_2323_method_70_code (3 : Nat) (Option.some Jvm.ClassFile.FieldType.int)]
set_option maxRecDepth 65536 in
theorem codes_eq : words1.filter isCode = codes1 := rfl
theorem w_codes : ∀ c ∈ words1.filter isCode, c.before args0 about1 = true := by
  rw [codes_eq]
  intro c hc
  simp only [codes1, List.mem_cons, List.not_mem_nil, or_false] at hc
  rcases hc with rfl | rfl | rfl | rfl | rfl | rfl | rfl | rfl | rfl | rfl | rfl | rfl | rfl | rfl | rfl | rfl | rfl | rfl | rfl | rfl | rfl
  · exact w_c0
  · exact w_c1
  · exact w_c2
  · exact w_c3
  · exact w_c4
  · exact w_c5
  · exact w_c6
  · exact w_c7
  · exact w_c8
  · exact w_c9
  · exact w_c10
  · exact w_c11
  · exact w_c12
  · exact w_c13
  · exact w_c14
  · exact w_c15
  · exact w_c16
  · exact w_c17
  · exact w_c18
  · exact w_c19
  · exact w_c20
set_option maxRecDepth 65536 in
theorem w_t1 : (words1.take 24).all (fun c => isCode c || c.before args0 about1) = true := by decide +kernel
set_option maxRecDepth 65536 in
theorem w_t2 : ((words1.drop 24).take 24).all (fun c => isCode c || c.before args0 about1) = true := by decide +kernel
set_option maxRecDepth 65536 in
theorem w_t3 : (((words1.drop 24).drop 24).take 24).all (fun c => isCode c || c.before args0 about1) = true := by decide +kernel
set_option maxRecDepth 65536 in
theorem w_t4 : ((((words1.drop 24).drop 24).drop 24).take 24).all (fun c => isCode c || c.before args0 about1) = true := by decide +kernel
set_option maxRecDepth 65536 in
theorem w_t5 : (((((words1.drop 24).drop 24).drop 24).drop 24).take 24).all (fun c => isCode c || c.before args0 about1) = true := by decide +kernel
set_option maxRecDepth 65536 in
theorem w_t6 : ((((((words1.drop 24).drop 24).drop 24).drop 24).drop 24).take 24).all (fun c => isCode c || c.before args0 about1) = true := by decide +kernel
set_option maxRecDepth 65536 in
theorem w_t7 : ((((((words1.drop 24).drop 24).drop 24).drop 24).drop 24).drop 24).all (fun c => isCode c || c.before args0 about1) = true := by decide +kernel
theorem w_tables : (allAtoms (Jvm.Cond.code x code maxLocals ret :: tables_1)).before args0 about1 = true := by
  rw [allAtoms_all]
  show words1.all (fun c => c.before args0 about1) = true
  refine all_split ?_ w_codes
  rw [← List.take_append_drop 24 words1, List.all_append, w_t1, ← List.take_append_drop 24 (words1.drop 24), List.all_append, w_t2, ← List.take_append_drop 24 ((words1.drop 24).drop 24), List.all_append, w_t3, ← List.take_append_drop 24 (((words1.drop 24).drop 24).drop 24), List.all_append, w_t4, ← List.take_append_drop 24 ((((words1.drop 24).drop 24).drop 24).drop 24), List.all_append, w_t5, ← List.take_append_drop 24 (((((words1.drop 24).drop 24).drop 24).drop 24).drop 24), List.all_append, w_t6, w_t7]
  rfl
set_option maxRecDepth 65536 in
theorem w_rest : rest_1_c.before args0 about1 = true := by decide +kernel
set_option maxRecDepth 65536 in
theorem w_case : (Jvm.Cond.and given_1 narrow_1).before args0 about1 = true := by decide +kernel
theorem w_applies : (headSpec (Jvm.Cond.code x code maxLocals ret :: tables_1) room_1).applies x e0.platform about1 = true :=
  (Spec.applies_iff w_frames).mpr ⟨w_running, w_runnable, w_alone, w_named, w_hears, w_ripe, w_room, w_tables⟩
theorem atStart : AtStart classFile x code maxLocals ret World_1 tables_1 room_1 Calls_1 rest_1 Pre_1 launch0 p0 e0 about1 theMethod args0 below0 :=
  ⟨lists_1, trivial, launch0.admits_env _ _ _, launch0.least_env, fairChoices_fair.cas, fairChoices_fair.clock, w_frames, w_args, w_heap, w_applies, trivial, w_rest, w_case⟩
end start1
theorem witness_1 : WitnessClaimed_1 := ⟨start1.p0, start1.e0, start1.about1, start1.theMethod, start1.args0, start1.below0, start1.atStart⟩
end Jvm.Pilot.@@N@@
