import JvmDerived
import JvmDerived.Pilot.@@N@@Statement
import JvmDerived.Pilot.@@N@@Code
set_option maxRecDepth 65536
set_option maxHeartbeats 40000000
set_option linter.unusedVariables false
set_option linter.unusedSimpArgs false
@@BLOCK:NumsL.lean.txt@@
namespace Jvm.OwnN
theorem own_rem32 (x y : Int32) : (x - x / y * y).toInt = x.toInt.tmod y.toInt := by
  have a := (x % y).toInt_lt; have b := (x % y).le_toInt
  rw [Int32.toInt_mod] at a b
  rw [Int32.toInt_sub, Int32.toInt_mul, Int32.toInt_div, Int.bmod_mul_bmod, Int.sub_bmod_bmod, Int.mul_comm, ← Int.tmod_def]
  exact Jvm.Kit.bmod32 b a
theorem own_rem32n {x y : Int32} (hx : 0 ≤ x.toInt) : (x - x / y * y).toInt = x.toInt % y.toInt := by rw [own_rem32, Int.tmod_eq_emod_of_nonneg hx]
end Jvm.OwnN
namespace Jvm.RoadKit
open Sem ClassFile Op Lib Jvm.Stand Jvm.Free Jvm.LawKit
section New
variable {p : Program} {l : Launch} {e : Env} {R : Room} {s : State} {m : MethodId} {args : Array Value} {below : List Frame} {meth : Method} {c : Code} {T : State} {locs : List Loc} {cells slots : Nat}
theorem retI (X : Stand p l e R s m args below meth c T locs cells slots) (hx : p.tables.exec = Jvm.exec) {pc : Nat} {Ls : Array Slot} {z : Int32} {rest : List Value} (hret : meth.sig.returnType = some .int) (hd : decode c.code pc = .ok (.ireturn, 1)) {fs : List Frame}
    (hl : ∀ (f : JFrame) (acts : List Action), f.method = m → f.locked = none → f.entered = [] → (doReturn e (T.setTop f) acts (some (.int z))).1 = T.setFrames fs) : Steps p.tables e below (T.setTop (mkF m pc Ls (.int z :: rest))) (T.setFrames fs) := by
  have hm' : T.vm.method? m = some meth := X.method'
  have hn : narrow .int (.int z) = .int z := rfl
  show Steps p.tables e below (T.setTop { method := m, pc := pc, locals := Ls, stack := _ :: rest, locked := none }) _
  jvm_step X.here [X.here.top, hx, hd, hm', hret, hn]
  first | (intro acts; rw [hl _ acts rfl rfl rfl]) | rw [hl _ _ rfl rfl rfl]
  exact Steps.refl _
/-- the run goes on from S to an end of which P holds -/
def Goes (p : Program) (e : Env) (below : List Frame) (S : State) (P : Outcome → State → Prop) : Prop := ∃ s₂ o, Steps p.tables e below S s₂ ∧ s₂.status = .running ∧ Ended s₂ below o ∧ P o s₂
/-- what every contract here says of the end -/
def Fin (s : State) (Q : Option Value → Heap → List Loc → Prop) (C N : Nat) (o : Outcome) (U : State) : Prop := ∃ v L, o = .returned v ∧ Q v U.heap L ∧ FrameEnd s o U L C N
theorem Goes.of {S S' : State} {P : Outcome → State → Prop} (h : ∀ t, Steps p.tables e below S' t → Steps p.tables e below S t) (g : Goes p e below S' P) : Goes p e below S P := by
  obtain ⟨s₂, o, h1, h2⟩ := g
  exact ⟨s₂, o, h _ h1, h2⟩
theorem Goes.out (X : Stand p l e R s m args below meth c T locs cells slots) {v : Option Value} (hv : meth.sig.returnType = none → v = none) (hlocks : meth.locks = false) {g : JFrame} {Q : Option Value → Heap → List Loc → Prop} {C N : Nat}
    (hst : ∀ fs, (∀ (f : JFrame) (acts : List Action), f.method = m → f.locked = none → f.entered = [] → (doReturn e (T.setTop f) acts v).1 = T.setFrames fs) → Steps p.tables e below (T.setTop g) (T.setFrames fs))
    (hq : Q v T.heap locs) (h1 : cells ≤ C) (h2 : slots ≤ N) : Goes p e below (T.setTop g) (Fin s Q C N) := by
  obtain ⟨fs, hr, hrun, hended, hW, hsame⟩ := X.leave (v := v) hv hlocks
  exact ⟨_, _, hst fs hr, hrun, hended, v, locs, rfl, hq, ⟨_, rfl⟩, hW, hsame.mono h1 h2⟩
theorem Goes.retI (X : Stand p l e R s m args below meth c T locs cells slots) (hx : p.tables.exec = Jvm.exec) (hret : meth.sig.returnType = some .int) (hlocks : meth.locks = false) {pc : Nat} {Ls : Array Slot} {z : Int32} {rest : List Value} (hd : decode c.code pc = .ok (.ireturn, 1)) {Q : Option Value → Heap → List Loc → Prop} {C N : Nat}
    (hq : Q (some (.int z)) T.heap locs) (h1 : cells ≤ C) (h2 : slots ≤ N) : Goes p e below (T.setTop (mkF m pc Ls (.int z :: rest))) (Fin s Q C N) :=
  Goes.out X (v := some (.int z)) (fun h => by rw [hret] at h; cases h) hlocks (fun fs hr => Jvm.RoadKit.retI X hx hret hd hr) hq h1 h2
theorem Goes.retN (X : Stand p l e R s m args below meth c T locs cells slots) (hx : p.tables.exec = Jvm.exec) {t : FieldType} (hret : meth.sig.returnType = some t) (ht : t = .boolean ∨ t = .byte ∨ t = .char ∨ t = .short) (hlocks : meth.locks = false) {pc : Nat} {Ls : Array Slot} {z : Int32} {rest : List Value} (hd : decode c.code pc = .ok (.ireturn, 1)) {Q : Option Value → Heap → List Loc → Prop} {C N : Nat}
    (hq : Q (some (.int (nar t z))) T.heap locs) (h1 : cells ≤ C) (h2 : slots ≤ N) : Goes p e below (T.setTop (mkF m pc Ls (.int z :: rest))) (Fin s Q C N) :=
  Goes.out X (v := some (.int (nar t z))) (fun h => by rw [hret] at h; cases h) hlocks (fun fs hr => Jvm.RoadKit.retN X hx (t := t) hret ht hd hr) hq h1 h2
theorem Goes.retJ (X : Stand p l e R s m args below meth c T locs cells slots) (hx : p.tables.exec = Jvm.exec) (hret : meth.sig.returnType = some .long) (hlocks : meth.locks = false) {pc : Nat} {Ls : Array Slot} {z : Int64} (hd : decode c.code pc = .ok (.lreturn, 1)) {Q : Option Value → Heap → List Loc → Prop} {C N : Nat}
    (hq : Q (some (.long z)) T.heap locs) (h1 : cells ≤ C) (h2 : slots ≤ N) : Goes p e below (T.setTop (mkF m pc Ls [.long z])) (Fin s Q C N) :=
  Goes.out X (v := some (.long z)) (fun h => by rw [hret] at h; cases h) hlocks (fun fs hr => X.lreturnOut hx hret hd hr) hq h1 h2
theorem Goes.retD (X : Stand p l e R s m args below meth c T locs cells slots) (hx : p.tables.exec = Jvm.exec) (hret : meth.sig.returnType = some .double) (hlocks : meth.locks = false) {pc : Nat} {Ls : Array Slot} {z : UInt64} (hd : decode c.code pc = .ok (.dreturn, 1)) {Q : Option Value → Heap → List Loc → Prop} {C N : Nat}
    (hq : Q (some (.double z)) T.heap locs) (h1 : cells ≤ C) (h2 : slots ≤ N) : Goes p e below (T.setTop (mkF m pc Ls [.double z])) (Fin s Q C N) :=
  Goes.out X (v := some (.double z)) (fun h => by rw [hret] at h; cases h) hlocks (fun fs hr => by
    have hm' : T.vm.method? m = some meth := X.method'
    jvm_step X.here [X.here.top, hx, hd, hm', hret, narrow]
    first | (intro acts; rw [hr _ acts rfl rfl rfl]) | rw [hr _ _ rfl rfl rfl]
    exact Steps.refl _) hq h1 h2
theorem Goes.retA (X : Stand p l e R s m args below meth c T locs cells slots) (hx : p.tables.exec = Jvm.exec) {w : Value} {t : FieldType} (hw : w.isRef = true) (hret : meth.sig.returnType = some t) (ht : t.isReference = true) (hlocks : meth.locks = false) {pc : Nat} {Ls : Array Slot} (hd : decode c.code pc = .ok (.areturn, 1)) {Q : Option Value → Heap → List Loc → Prop} {C N : Nat}
    (hq : Q (some w) T.heap locs) (h1 : cells ≤ C) (h2 : slots ≤ N) : Goes p e below (T.setTop (mkF m pc Ls [w])) (Fin s Q C N) :=
  Goes.out X (v := some w) (fun h => by rw [hret] at h; cases h) hlocks (fun fs hr => X.areturnOut hx hw hret ht hd hr) hq h1 h2
theorem Goes.retV (X : Stand p l e R s m args below meth c T locs cells slots) (hx : p.tables.exec = Jvm.exec) (hret : meth.sig.returnType = none) (hlocks : meth.locks = false) {pc : Nat} {Ls : Array Slot} (hd : decode c.code pc = .ok (.return_, 1)) {Q : Option Value → Heap → List Loc → Prop} {C N : Nat}
    (hq : Q none T.heap locs) (h1 : cells ≤ C) (h2 : slots ≤ N) : Goes p e below (T.setTop (mkF m pc Ls [])) (Fin s Q C N) :=
  Goes.out X (v := none) (fun _ => rfl) hlocks (fun fs hr => X.returnOut hx hret hd hr) hq h1 h2
/-- the same of a walk that may have interned -/
def FinW (s : State) (Q : Option Value → Heap → List Loc → Prop) (C N : Nat) (o : Outcome) (U : State) : Prop := ∃ v L, o = .returned v ∧ Q v U.heap L ∧ ReturnedEndW s o U L C N
theorem Goes.outW {vm0 : Vm} (X : Stand p l e R (s.setVm vm0) m args below meth c T locs cells slots) {k0 : Nat} (hS : s.Since vm0 k0) (hk : k0 ≤ T.heap.size) {v : Option Value} (hv : meth.sig.returnType = none → v = none) (hlocks : meth.locks = false) {g : JFrame} {Q : Option Value → Heap → List Loc → Prop} {C N : Nat}
    (hst : ∀ fs, (∀ (f : JFrame) (acts : List Action), f.method = m → f.locked = none → f.entered = [] → (doReturn e (T.setTop f) acts v).1 = T.setFrames fs) → Steps p.tables e below (T.setTop g) (T.setFrames fs))
    (hq : Q v T.heap locs) (h1 : cells ≤ C) (h2 : slots ≤ N) : Goes p e below (T.setTop g) (FinW s Q C N) := by
  obtain ⟨fs, hr, hrun, hended, ha, hb, hc, hsame⟩ := X.leaveW hS hk (v := v) hv hlocks
  exact ⟨_, _, hst fs hr, hrun, hended, v, locs, rfl, hq, ha, hb, hc, hsame.mono h1 h2⟩
theorem Goes.retIW {vm0 : Vm} (X : Stand p l e R (s.setVm vm0) m args below meth c T locs cells slots) {k0 : Nat} (hS : s.Since vm0 k0) (hk : k0 ≤ T.heap.size) (hx : p.tables.exec = Jvm.exec) (hret : meth.sig.returnType = some .int) (hlocks : meth.locks = false) {pc : Nat} {Ls : Array Slot} {z : Int32} {rest : List Value} (hd : decode c.code pc = .ok (.ireturn, 1)) {Q : Option Value → Heap → List Loc → Prop} {C N : Nat}
    (hq : Q (some (.int z)) T.heap locs) (h1 : cells ≤ C) (h2 : slots ≤ N) : Goes p e below (T.setTop (mkF m pc Ls (.int z :: rest))) (FinW s Q C N) :=
  Goes.outW X hS hk (v := some (.int z)) (fun h => by rw [hret] at h; cases h) hlocks (fun fs hr => Jvm.RoadKit.retI X hx hret hd hr) hq h1 h2
theorem Goes.retNW {vm0 : Vm} (X : Stand p l e R (s.setVm vm0) m args below meth c T locs cells slots) {k0 : Nat} (hS : s.Since vm0 k0) (hk : k0 ≤ T.heap.size) (hx : p.tables.exec = Jvm.exec) {t : FieldType} (hret : meth.sig.returnType = some t) (ht : t = .boolean ∨ t = .byte ∨ t = .char ∨ t = .short) (hlocks : meth.locks = false) {pc : Nat} {Ls : Array Slot} {z : Int32} {rest : List Value} (hd : decode c.code pc = .ok (.ireturn, 1)) {Q : Option Value → Heap → List Loc → Prop} {C N : Nat}
    (hq : Q (some (.int (nar t z))) T.heap locs) (h1 : cells ≤ C) (h2 : slots ≤ N) : Goes p e below (T.setTop (mkF m pc Ls (.int z :: rest))) (FinW s Q C N) :=
  Goes.outW X hS hk (v := some (.int (nar t z))) (fun h => by rw [hret] at h; cases h) hlocks (fun fs hr => Jvm.RoadKit.retN X hx (t := t) hret ht hd hr) hq h1 h2
theorem Goes.retJW {vm0 : Vm} (X : Stand p l e R (s.setVm vm0) m args below meth c T locs cells slots) {k0 : Nat} (hS : s.Since vm0 k0) (hk : k0 ≤ T.heap.size) (hx : p.tables.exec = Jvm.exec) (hret : meth.sig.returnType = some .long) (hlocks : meth.locks = false) {pc : Nat} {Ls : Array Slot} {z : Int64} (hd : decode c.code pc = .ok (.lreturn, 1)) {Q : Option Value → Heap → List Loc → Prop} {C N : Nat}
    (hq : Q (some (.long z)) T.heap locs) (h1 : cells ≤ C) (h2 : slots ≤ N) : Goes p e below (T.setTop (mkF m pc Ls [.long z])) (FinW s Q C N) :=
  Goes.outW X hS hk (v := some (.long z)) (fun h => by rw [hret] at h; cases h) hlocks (fun fs hr => X.lreturnOut hx hret hd hr) hq h1 h2
theorem Goes.retDW {vm0 : Vm} (X : Stand p l e R (s.setVm vm0) m args below meth c T locs cells slots) {k0 : Nat} (hS : s.Since vm0 k0) (hk : k0 ≤ T.heap.size) (hx : p.tables.exec = Jvm.exec) (hret : meth.sig.returnType = some .double) (hlocks : meth.locks = false) {pc : Nat} {Ls : Array Slot} {z : UInt64} (hd : decode c.code pc = .ok (.dreturn, 1)) {Q : Option Value → Heap → List Loc → Prop} {C N : Nat}
    (hq : Q (some (.double z)) T.heap locs) (h1 : cells ≤ C) (h2 : slots ≤ N) : Goes p e below (T.setTop (mkF m pc Ls [.double z])) (FinW s Q C N) :=
  Goes.outW X hS hk (v := some (.double z)) (fun h => by rw [hret] at h; cases h) hlocks (fun fs hr => by
    have hm' : T.vm.method? m = some meth := X.method'
    jvm_step X.here [X.here.top, hx, hd, hm', hret, narrow]
    first | (intro acts; rw [hr _ acts rfl rfl rfl]) | rw [hr _ _ rfl rfl rfl]
    exact Steps.refl _) hq h1 h2
theorem Goes.retAW {vm0 : Vm} (X : Stand p l e R (s.setVm vm0) m args below meth c T locs cells slots) {k0 : Nat} (hS : s.Since vm0 k0) (hk : k0 ≤ T.heap.size) (hx : p.tables.exec = Jvm.exec) {w : Value} {t : FieldType} (hw : w.isRef = true) (hret : meth.sig.returnType = some t) (ht : t.isReference = true) (hlocks : meth.locks = false) {pc : Nat} {Ls : Array Slot} (hd : decode c.code pc = .ok (.areturn, 1)) {Q : Option Value → Heap → List Loc → Prop} {C N : Nat}
    (hq : Q (some w) T.heap locs) (h1 : cells ≤ C) (h2 : slots ≤ N) : Goes p e below (T.setTop (mkF m pc Ls [w])) (FinW s Q C N) :=
  Goes.outW X hS hk (v := some w) (fun h => by rw [hret] at h; cases h) hlocks (fun fs hr => X.areturnOut hx hw hret ht hd hr) hq h1 h2
theorem Goes.retVW {vm0 : Vm} (X : Stand p l e R (s.setVm vm0) m args below meth c T locs cells slots) {k0 : Nat} (hS : s.Since vm0 k0) (hk : k0 ≤ T.heap.size) (hx : p.tables.exec = Jvm.exec) (hret : meth.sig.returnType = none) (hlocks : meth.locks = false) {pc : Nat} {Ls : Array Slot} (hd : decode c.code pc = .ok (.return_, 1)) {Q : Option Value → Heap → List Loc → Prop} {C N : Nat}
    (hq : Q none T.heap locs) (h1 : cells ≤ C) (h2 : slots ≤ N) : Goes p e below (T.setTop (mkF m pc Ls [])) (FinW s Q C N) :=
  Goes.outW X hS hk (v := none) (fun _ => rfl) hlocks (fun fs hr => X.returnOut hx hret hd hr) hq h1 h2
/-- .. and that keeps the constants -/
def FinH (Z : State) (EL : List (String × Nat)) (s : State) (Q : Option Value → Heap → List Loc → Prop) (C N : Nat) (o : Outcome) (U : State) : Prop := ∃ v L, o = .returned v ∧ Q v U.heap L ∧ CHr Z EL s.vm s.heap U.vm U.heap ∧ ReturnedEndW s o U L C N
theorem Goes.outH {Z : State} {EL : List (String × Nat)} {vm0 : Vm} (X : Stand p l e R (s.setVm vm0) m args below meth c T locs cells slots) {k0 : Nat} (hS : s.Since vm0 k0) (hk : k0 ≤ T.heap.size) {v : Option Value} (hv : meth.sig.returnType = none → v = none) (hlocks : meth.locks = false) {g : JFrame} {Q : Option Value → Heap → List Loc → Prop} {C N : Nat}
    (hst : ∀ fs, (∀ (f : JFrame) (acts : List Action), f.method = m → f.locked = none → f.entered = [] → (doReturn e (T.setTop f) acts v).1 = T.setFrames fs) → Steps p.tables e below (T.setTop g) (T.setFrames fs))
    (hq : Q v T.heap locs) (hc : CHr Z EL s.vm s.heap T.vm T.heap) (h1 : cells ≤ C) (h2 : slots ≤ N) : Goes p e below (T.setTop g) (FinH Z EL s Q C N) := by
  obtain ⟨fs, hr, hrun, hended, ha, hb, hc', hsame⟩ := X.leaveW hS hk (v := v) hv hlocks
  exact ⟨_, _, hst fs hr, hrun, hended, v, locs, rfl, hq, hc, ha, hb, hc', hsame.mono h1 h2⟩
theorem Goes.retIH {Z : State} {EL : List (String × Nat)} {vm0 : Vm} (X : Stand p l e R (s.setVm vm0) m args below meth c T locs cells slots) {k0 : Nat} (hS : s.Since vm0 k0) (hk : k0 ≤ T.heap.size) (hx : p.tables.exec = Jvm.exec) (hret : meth.sig.returnType = some .int) (hlocks : meth.locks = false) {pc : Nat} {Ls : Array Slot} {z : Int32} {rest : List Value} (hd : decode c.code pc = .ok (.ireturn, 1)) {Q : Option Value → Heap → List Loc → Prop} {C N : Nat}
    (hq : Q (some (.int z)) T.heap locs) (hc : CHr Z EL s.vm s.heap T.vm T.heap) (h1 : cells ≤ C) (h2 : slots ≤ N) : Goes p e below (T.setTop (mkF m pc Ls (.int z :: rest))) (FinH Z EL s Q C N) :=
  Goes.outH X hS hk (v := some (.int z)) (fun h => by rw [hret] at h; cases h) hlocks (fun fs hr => Jvm.RoadKit.retI X hx hret hd hr) hq hc h1 h2
theorem Goes.retNH {Z : State} {EL : List (String × Nat)} {vm0 : Vm} (X : Stand p l e R (s.setVm vm0) m args below meth c T locs cells slots) {k0 : Nat} (hS : s.Since vm0 k0) (hk : k0 ≤ T.heap.size) (hx : p.tables.exec = Jvm.exec) {t : FieldType} (hret : meth.sig.returnType = some t) (ht : t = .boolean ∨ t = .byte ∨ t = .char ∨ t = .short) (hlocks : meth.locks = false) {pc : Nat} {Ls : Array Slot} {z : Int32} {rest : List Value} (hd : decode c.code pc = .ok (.ireturn, 1)) {Q : Option Value → Heap → List Loc → Prop} {C N : Nat}
    (hq : Q (some (.int (nar t z))) T.heap locs) (hc : CHr Z EL s.vm s.heap T.vm T.heap) (h1 : cells ≤ C) (h2 : slots ≤ N) : Goes p e below (T.setTop (mkF m pc Ls (.int z :: rest))) (FinH Z EL s Q C N) :=
  Goes.outH X hS hk (v := some (.int (nar t z))) (fun h => by rw [hret] at h; cases h) hlocks (fun fs hr => Jvm.RoadKit.retN X hx (t := t) hret ht hd hr) hq hc h1 h2
theorem Goes.retJH {Z : State} {EL : List (String × Nat)} {vm0 : Vm} (X : Stand p l e R (s.setVm vm0) m args below meth c T locs cells slots) {k0 : Nat} (hS : s.Since vm0 k0) (hk : k0 ≤ T.heap.size) (hx : p.tables.exec = Jvm.exec) (hret : meth.sig.returnType = some .long) (hlocks : meth.locks = false) {pc : Nat} {Ls : Array Slot} {z : Int64} (hd : decode c.code pc = .ok (.lreturn, 1)) {Q : Option Value → Heap → List Loc → Prop} {C N : Nat}
    (hq : Q (some (.long z)) T.heap locs) (hc : CHr Z EL s.vm s.heap T.vm T.heap) (h1 : cells ≤ C) (h2 : slots ≤ N) : Goes p e below (T.setTop (mkF m pc Ls [.long z])) (FinH Z EL s Q C N) :=
  Goes.outH X hS hk (v := some (.long z)) (fun h => by rw [hret] at h; cases h) hlocks (fun fs hr => X.lreturnOut hx hret hd hr) hq hc h1 h2
theorem Goes.retDH {Z : State} {EL : List (String × Nat)} {vm0 : Vm} (X : Stand p l e R (s.setVm vm0) m args below meth c T locs cells slots) {k0 : Nat} (hS : s.Since vm0 k0) (hk : k0 ≤ T.heap.size) (hx : p.tables.exec = Jvm.exec) (hret : meth.sig.returnType = some .double) (hlocks : meth.locks = false) {pc : Nat} {Ls : Array Slot} {z : UInt64} (hd : decode c.code pc = .ok (.dreturn, 1)) {Q : Option Value → Heap → List Loc → Prop} {C N : Nat}
    (hq : Q (some (.double z)) T.heap locs) (hc : CHr Z EL s.vm s.heap T.vm T.heap) (h1 : cells ≤ C) (h2 : slots ≤ N) : Goes p e below (T.setTop (mkF m pc Ls [.double z])) (FinH Z EL s Q C N) :=
  Goes.outH X hS hk (v := some (.double z)) (fun h => by rw [hret] at h; cases h) hlocks (fun fs hr => by
    have hm' : T.vm.method? m = some meth := X.method'
    jvm_step X.here [X.here.top, hx, hd, hm', hret, narrow]
    first | (intro acts; rw [hr _ acts rfl rfl rfl]) | rw [hr _ _ rfl rfl rfl]
    exact Steps.refl _) hq hc h1 h2
theorem Goes.retAH {Z : State} {EL : List (String × Nat)} {vm0 : Vm} (X : Stand p l e R (s.setVm vm0) m args below meth c T locs cells slots) {k0 : Nat} (hS : s.Since vm0 k0) (hk : k0 ≤ T.heap.size) (hx : p.tables.exec = Jvm.exec) {w : Value} {t : FieldType} (hw : w.isRef = true) (hret : meth.sig.returnType = some t) (ht : t.isReference = true) (hlocks : meth.locks = false) {pc : Nat} {Ls : Array Slot} (hd : decode c.code pc = .ok (.areturn, 1)) {Q : Option Value → Heap → List Loc → Prop} {C N : Nat}
    (hq : Q (some w) T.heap locs) (hc : CHr Z EL s.vm s.heap T.vm T.heap) (h1 : cells ≤ C) (h2 : slots ≤ N) : Goes p e below (T.setTop (mkF m pc Ls [w])) (FinH Z EL s Q C N) :=
  Goes.outH X hS hk (v := some w) (fun h => by rw [hret] at h; cases h) hlocks (fun fs hr => X.areturnOut hx hw hret ht hd hr) hq hc h1 h2
theorem Goes.retVH {Z : State} {EL : List (String × Nat)} {vm0 : Vm} (X : Stand p l e R (s.setVm vm0) m args below meth c T locs cells slots) {k0 : Nat} (hS : s.Since vm0 k0) (hk : k0 ≤ T.heap.size) (hx : p.tables.exec = Jvm.exec) (hret : meth.sig.returnType = none) (hlocks : meth.locks = false) {pc : Nat} {Ls : Array Slot} (hd : decode c.code pc = .ok (.return_, 1)) {Q : Option Value → Heap → List Loc → Prop} {C N : Nat}
    (hq : Q none T.heap locs) (hc : CHr Z EL s.vm s.heap T.vm T.heap) (h1 : cells ≤ C) (h2 : slots ≤ N) : Goes p e below (T.setTop (mkF m pc Ls [])) (FinH Z EL s Q C N) :=
  Goes.outH X hS hk (v := none) (fun _ => rfl) hlocks (fun fs hr => X.returnOut hx hret hd hr) hq hc h1 h2
end New
theorem own_pop2 {tb : Tables} [Ours tb] {e : Env} {below : List Frame} {T target : State} {m : MethodId} {c : Code} {g : JFrame} (h : At T m c below) (hx : tb.exec = Jvm.exec) (hg : g.method = m) {x : Value} {rest : List Value} (hd : decode c.code g.pc = .ok (.pop2, 1)) (hs : g.stack = x :: rest) (hc : x.category = 2)
    (hr : Steps tb e below (T.setTop { g with pc := g.pc + 1, stack := rest }) target) : Steps tb e below (T.setTop g) target := by
  subst hg
  jvm_step h [h.top, hx, hd, hs, hc]
  exact hr
theorem selSelf {s : State} {args : Array Value} {C : String} {y : MethodName} (hsel : (Cond.selects C y y).before args s = true) (hpriv : s.PrivateAt y) (hinst : (Cond.instanceMethod y).before args s = true) (hy : y.cls ≠ "java/lang/invoke/MethodHandle" ∧ y.cls ≠ "java/lang/invoke/VarHandle") : (Cond.selects y.cls y y).before args s = true := by
  obtain ⟨c2, r2, m2, q1, q2, q3, q4, kP, hkP, hkPi⟩ := Cond.selects_spec hsel
  exact Jvm.Stand.selects_self_of_private (findClass_of_methodNamed q3) hkP hkPi hpriv hinst hy
theorem sameM {s : State} {args : Array Value} {C : String} {y y0 : MethodName} (hc : y0.cls = y.cls) (hsel : (Cond.selects C y0 y0).before args s = true) (hinst : (Cond.instanceMethod y).before args s = true) (hy : y.cls ≠ "java/lang/invoke/MethodHandle" ∧ y.cls ≠ "java/lang/invoke/VarHandle") : (Cond.sameMethod y.cls y.cls y.name y.desc).before args s = true := by
  obtain ⟨c2, r2, m2, q1, q2, q3, q4, kP, hkP, hkPi⟩ := Cond.selects_spec hsel
  obtain ⟨mk, methM, hnamed, hmethM, -, -⟩ := Cond.instanceMethod_spec hinst
  have hfound : s.methodFound? y.cls y.name y.desc = some mk := State.methodFound?_of_named hnamed hy
  have e : s.vm.findClass y.cls = some m2.cls := hc ▸ findClass_of_methodNamed q3
  obtain ⟨a, b, c⟩ := y
  simp only [Cond.before, Cond.holds, Cond.value, e, hfound, hnamed, hkP]
  simp [hkPi]
theorem mvMN {Z s : State} {a0 args : Array Value} {own host : String} {x : MethodName} {index : Nat} (hZ : Z.Warmed39 s.vm) (w : (Cond.methodLinkNest own index x host).before a0 Z = true) : (Cond.methodLinkNest own index x host).before args s = true := (Cond.methodLinkNest_wide hZ w :)
theorem selPriv {s : State} {args : Array Value} {y : MethodName} {n : Nat} (hpriv : s.PrivateAt y) (hinst : (Cond.instanceMethod y).before args s = true) (hi : (Cond.instantiable y.cls n).before args s = true) (hy : y.cls ≠ "java/lang/invoke/MethodHandle" ∧ y.cls ≠ "java/lang/invoke/VarHandle") : (Cond.selects y.cls y y).before args s = true := by
  obtain ⟨c, k, h1, h2, -, h3, -⟩ := Cond.instantiable_spec hi
  exact Jvm.Stand.selects_self_of_private h1 h2 (by cases hk : k.isInterface <;> simp_all) hpriv hinst hy
end Jvm.RoadKit
namespace Jvm.Pilot.@@N@@
open Jvm Jvm.ClassFile Sem Op Lib Jvm.Free Jvm.Stand Jvm.LawKit Jvm.RoadKit Bundle Jvm.OwnN Jvm.Pilot.@@N@@.Jvm.D
theorem wd {Z : State} {a0 : Array Value} (hw : ∀ d ∈ tables_1, d.before a0 Z = true) (i : Nat) {c : Jvm.Cond} (h : tables_1[i]? = some c) : c.before a0 Z = true := hw c (List.mem_of_getElem? h)
theorem wr0 {g : JFrame} {r : List Value} {W : Nat} (h1 : g.monitorRoom = 0) (h2 : (r.map fun v => v.category).sum = W) : 2 * g.monitorRoom + (r.map fun v => v.category).sum ≤ W := by rw [h1, h2]; omega
theorem gO {p : Program} {e : Env} {below : List Frame} {S S' : State} {P : Outcome → State → Prop} (h : ∀ t, Steps p.tables e below S' t → Steps p.tables e below S t) (g : Goes p e below S' P) : Goes p e below S P := Goes.of h g
abbrev DC (b : ByteArray) (p : Nat) (i : Instr) (n : Nat) : Prop := decode b p = .ok (i, n)
abbrev Fl0 (Z : State) (h : Heap) (a : Addr) (v : Value) : Prop := Fld Z h a "java/util/ArrayList" "elementData" "[Ljava/lang/Object;" v
abbrev Fl1 (Z : State) (h : Heap) (a : Addr) (v : Value) : Prop := Fld Z h a "java/util/ArrayList" "size" "I" v
abbrev Fl2 (Z : State) (h : Heap) (a : Addr) (v : Value) : Prop := Fld Z h a "java/util/AbstractList" "modCount" "I" v
abbrev Fl3 (Z : State) (h : Heap) (a : Addr) (v : Value) : Prop := Fld Z h a "com/example/hinta/hinta/Statement" "keys" "Ljava/util/List;" v
abbrev Fl4 (Z : State) (h : Heap) (a : Addr) (v : Value) : Prop := Fld Z h a "com/example/hinta/hinta/Statement" "values" "Ljava/util/List;" v
abbrev Fl5 (Z : State) (h : Heap) (a : Addr) (v : Value) : Prop := Fld Z h a "java/lang/String" "coder" "B" v
abbrev Fl6 (Z : State) (h : Heap) (a : Addr) (v : Value) : Prop := Fld Z h a "java/lang/String" "value" "[B" v
abbrev Fl7 (Z : State) (h : Heap) (a : Addr) (v : Value) : Prop := Fld Z h a "java/lang/AbstractStringBuilder" "value" "[B" v
abbrev Fl8 (Z : State) (h : Heap) (a : Addr) (v : Value) : Prop := Fld Z h a "java/lang/AbstractStringBuilder" "coder" "B" v
abbrev Fl9 (Z : State) (h : Heap) (a : Addr) (v : Value) : Prop := Fld Z h a "java/lang/AbstractStringBuilder" "count" "I" v
abbrev cb0 : ByteArray := jdk_22_method_1_code
abbrev cb1 : ByteArray := jdk_39_method_1_code
abbrev cb2 : ByteArray := jdk_38_method_2_code
abbrev cb3 : ByteArray := prog_26_method_1_code
abbrev cb4 : ByteArray := jdk_29_method_65_code
abbrev cb5 : ByteArray := jdk_38_method_6_code
abbrev cb6 : ByteArray := jdk_38_method_7_code
abbrev cb7 : ByteArray := jdk_38_method_24_code
abbrev cb8 : ByteArray := jdk_38_method_25_code
abbrev cb9 : ByteArray := prog_26_method_2_code
abbrev cb10 : ByteArray := jdk_38_method_8_code
abbrev cb11 : ByteArray := jdk_41_method_11_code
abbrev cb12 : ByteArray := jdk_31_method_17_code
abbrev cb13 : ByteArray := jdk_38_method_18_code
abbrev cb14 : ByteArray := jdk_38_method_20_code
abbrev cb15 : ByteArray := jdk_43_method_3_code
abbrev cb16 : ByteArray := jdk_43_method_46_code
abbrev cb17 : ByteArray := jdk_42_method_151_code
abbrev cb18 : ByteArray := jdk_42_method_139_code
abbrev cb19 : ByteArray := jdk_42_method_152_code
abbrev cb20 : ByteArray := jdk_42_method_54_code
abbrev cb21 : ByteArray := jdk_68_method_2_code
abbrev cb22 : ByteArray := jdk_67_method_1_code
abbrev cb23 : ByteArray := jdk_68_method_68_code
abbrev cb24 : ByteArray := jdk_68_method_6_code
abbrev cb25 : ByteArray := jdk_68_method_64_code
abbrev cb26 : ByteArray := jdk_67_method_93_code
abbrev cb27 : ByteArray := jdk_68_method_9_code
abbrev cb28 : ByteArray := jdk_68_method_71_code
abbrev cb29 : ByteArray := jdk_42_method_147_code
abbrev cb30 : ByteArray := jdk_68_method_73_code
abbrev cb31 : ByteArray := jdk_68_method_22_code
abbrev cb32 : ByteArray := jdk_67_method_7_code
abbrev cb33 : ByteArray := jdk_68_method_31_code
abbrev cb34 : ByteArray := jdk_67_method_14_code
abbrev cb35 : ByteArray := jdk_29_method_69_code
abbrev cb36 : ByteArray := jdk_65_method_131_code
abbrev cb37 : ByteArray := jdk_65_method_133_code
abbrev cb38 : ByteArray := jdk_65_method_132_code
abbrev cb39 : ByteArray := jdk_42_method_150_code
abbrev cb40 : ByteArray := jdk_42_method_53_code
abbrev cb41 : ByteArray := jdk_67_method_42_code
abbrev cb42 : ByteArray := jdk_42_method_154_code
abbrev cb43 : ByteArray := jdk_42_method_155_code
abbrev cb44 : ByteArray := jdk_43_method_2_code
abbrev cb45 : ByteArray := jdk_42_method_56_code
abbrev cb46 : ByteArray := method_4_code
abbrev cb47 : ByteArray := prog_26_method_4_code
abbrev cb48 : ByteArray := method_3_code
abbrev mn0 : MethodName := ⟨"java/util/AbstractCollection", "<init>", "()V"⟩
abbrev mn1 : MethodName := ⟨"java/util/AbstractList", "<init>", "()V"⟩
abbrev mn2 : MethodName := ⟨"java/util/ArrayList", "<init>", "()V"⟩
abbrev mn3 : MethodName := ⟨"com/example/hinta/hinta/Statement", "<init>", "()V"⟩
abbrev mn4 : MethodName := ⟨"java/lang/Math", "max", "(II)I"⟩
abbrev mn5 : MethodName := ⟨"java/util/ArrayList", "grow", "(I)[Ljava/lang/Object;"⟩
abbrev mn6 : MethodName := ⟨"java/util/ArrayList", "grow", "()[Ljava/lang/Object;"⟩
abbrev mn7 : MethodName := ⟨"java/util/ArrayList", "add", "(Ljava/lang/Object;[Ljava/lang/Object;I)V"⟩
abbrev mn8 : MethodName := ⟨"java/util/ArrayList", "add", "(Ljava/lang/Object;)Z"⟩
abbrev mn9 : MethodName := ⟨"com/example/hinta/hinta/Statement", "add", "(Ljava/lang/String;Ljava/lang/String;)Lcom/example/hinta/hinta/Statement;"⟩
abbrev mn10 : MethodName := ⟨"java/util/List", "add", "(Ljava/lang/Object;)Z"⟩
abbrev mn11 : MethodName := ⟨"java/util/ArrayList", "size", "()I"⟩
abbrev mn12 : MethodName := ⟨"jdk/internal/util/Preconditions", "checkIndex", "(IILjava/util/function/BiFunction;)I"⟩
abbrev mn13 : MethodName := ⟨"java/util/Objects", "checkIndex", "(II)I"⟩
abbrev mn14 : MethodName := ⟨"java/util/ArrayList", "elementData", "(I)Ljava/lang/Object;"⟩
abbrev mn15 : MethodName := ⟨"java/util/ArrayList", "get", "(I)Ljava/lang/Object;"⟩
abbrev mn16 : MethodName := ⟨"java/lang/StringLatin1", "canEncode", "(C)Z"⟩
abbrev mn17 : MethodName := ⟨"java/lang/StringLatin1", "toBytes", "(C)[B"⟩
abbrev mn18 : MethodName := ⟨"java/lang/String", "<init>", "([BB)V"⟩
abbrev mn19 : MethodName := ⟨"java/lang/String", "valueOf", "(C)Ljava/lang/String;"⟩
abbrev mn20 : MethodName := ⟨"java/lang/String", "coder", "()B"⟩
abbrev mn21 : MethodName := ⟨"java/lang/String", "length", "()I"⟩
abbrev mn22 : MethodName := ⟨"java/lang/AbstractStringBuilder", "<init>", "(I)V"⟩
abbrev mn23 : MethodName := ⟨"java/lang/StringBuilder", "<init>", "()V"⟩
abbrev mn24 : MethodName := ⟨"java/lang/AbstractStringBuilder", "getValue", "()[B"⟩
abbrev mn25 : MethodName := ⟨"java/lang/AbstractStringBuilder", "isLatin1", "()Z"⟩
abbrev mn26 : MethodName := ⟨"java/lang/AbstractStringBuilder", "length", "()I"⟩
abbrev mn27 : MethodName := ⟨"java/lang/StringBuilder", "length", "()I"⟩
abbrev mn28 : MethodName := ⟨"java/lang/AbstractStringBuilder", "ensureCapacityInternal", "(I)V"⟩
abbrev mn29 : MethodName := ⟨"java/lang/AbstractStringBuilder", "inflateIfNeededFor", "(Ljava/lang/String;)V"⟩
abbrev mn30 : MethodName := ⟨"java/lang/String", "getBytes", "([BIB)V"⟩
abbrev mn31 : MethodName := ⟨"java/lang/AbstractStringBuilder", "putStringAt", "(ILjava/lang/String;)V"⟩
abbrev mn32 : MethodName := ⟨"java/lang/AbstractStringBuilder", "append", "(Ljava/lang/String;)Ljava/lang/AbstractStringBuilder;"⟩
abbrev mn33 : MethodName := ⟨"java/lang/StringBuilder", "append", "(Ljava/lang/String;)Ljava/lang/StringBuilder;"⟩
abbrev mn34 : MethodName := ⟨"java/lang/AbstractStringBuilder", "append", "(C)Ljava/lang/AbstractStringBuilder;"⟩
abbrev mn35 : MethodName := ⟨"java/lang/StringBuilder", "append", "(C)Ljava/lang/StringBuilder;"⟩
abbrev mn36 : MethodName := ⟨"java/lang/Math", "min", "(II)I"⟩
abbrev mn37 : MethodName := ⟨"java/util/Arrays", "checkLength", "(II)V"⟩
abbrev mn38 : MethodName := ⟨"java/util/Arrays", "copyOfRangeByte", "([BII)[B"⟩
abbrev mn39 : MethodName := ⟨"java/util/Arrays", "copyOfRange", "([BII)[B"⟩
abbrev mn40 : MethodName := ⟨"java/lang/String", "<init>", "(Ljava/lang/AbstractStringBuilder;Ljava/lang/Void;)V"⟩
abbrev mn41 : MethodName := ⟨"java/lang/String", "<init>", "(Ljava/lang/StringBuilder;)V"⟩
abbrev mn42 : MethodName := ⟨"java/lang/StringBuilder", "toString", "()Ljava/lang/String;"⟩
abbrev mn43 : MethodName := ⟨"java/lang/String", "isLatin1", "()Z"⟩
abbrev mn44 : MethodName := ⟨"java/lang/String", "checkIndex", "(II)V"⟩
abbrev mn45 : MethodName := ⟨"java/lang/StringLatin1", "charAt", "([BI)C"⟩
abbrev mn46 : MethodName := ⟨"java/lang/String", "charAt", "(I)C"⟩
abbrev mn47 : MethodName := ⟨"com/example/hinta/hinta/StatementTextPinLaw", "same", "(Ljava/lang/String;[CI)Z"⟩
abbrev mn48 : MethodName := ⟨"com/example/hinta/hinta/Statement", "text", "()Ljava/lang/String;"⟩
abbrev mn49 : MethodName := ⟨"java/util/List", "size", "()I"⟩
abbrev mn50 : MethodName := ⟨"java/util/List", "get", "(I)Ljava/lang/Object;"⟩
abbrev mn51 : MethodName := ⟨"com/example/hinta/hinta/StatementTextPinLaw", "line", "(Lcom/example/hinta/hinta/Statement;[CIZII)I"⟩
theorem d5_0 : DC cb0 0 (.aload_n 0) 1 := by decide +kernel
theorem d5_1 : DC cb0 1 (.invokespecial 1) 3 := by decide +kernel
theorem d5_4 : DC cb0 4 .return_ 1 := by decide +kernel
theorem pn_0 : plainName "java/util/AbstractCollection" = true := by first | (simp [plainName, overriddenIn]; done) | decide +kernel
abbrev CT (l : Launch) (Z : State) (y : MethodName) (b : ByteArray) (ml : Nat) (rt : Option FieldType) (ws : List Jvm.Cond) (R : Room) (A : Array Value) (h0 : Heap) (Q : Option Value → Heap → List Loc → Prop) : Prop := MetFree l y (head1 (Jvm.Cond.code y b ml rt :: ws) R) (fun a U => a = A ∧ Z.Warmed39 U.vm ∧ U.heap = h0) (fun _ _ _ _ _ => True) (fun _ U o U' => ∃ v L, o = .returned v ∧ Q v U'.heap L ∧ FrameEnd U o U' L R.cells R.slots)
abbrev CTH (l : Launch) (Z : State) (y : MethodName) (b : ByteArray) (ml : Nat) (rt : Option FieldType) (ws : List Jvm.Cond) (R : Room) (A : Array Value) (h0 : Heap) (Q : Option Value → Heap → List Loc → Prop) : Prop := MetFree l y (head1 (Jvm.Cond.code y b ml rt :: ws) R) (fun a U => a = A ∧ Z.Warmed39 U.vm ∧ U.heap = h0 ∧ CHv Z consts_1 U.vm h0) (fun _ _ _ _ _ => True) (fun _ U o U' => ∃ v L, o = .returned v ∧ Q v U'.heap L ∧ CHr Z consts_1 U.vm U.heap U'.vm U'.heap ∧ ReturnedEndW U o U' L R.cells R.slots)
theorem d4_0 : DC cb1 0 (.aload_n 0) 1 := by decide +kernel
theorem d4_1 : DC cb1 1 (.invokespecial 1) 3 := by decide +kernel
theorem d4_4 : DC cb1 4 (.aload_n 0) 1 := by decide +kernel
theorem d4_5 : DC cb1 5 (.iconst 0) 1 := by decide +kernel
theorem d4_6 : DC cb1 6 (.putfield 7) 3 := by decide +kernel
theorem d4_9 : DC cb1 9 .return_ 1 := by decide +kernel
theorem pn_1 : plainName "java/util/AbstractList" = true := by first | (simp [plainName, overriddenIn]; done) | decide +kernel
theorem pd_2 : parseMethodDescriptor "()V" = some ⟨[], none⟩ := by decide +kernel
theorem d3_0 : DC cb2 0 (.aload_n 0) 1 := by decide +kernel
theorem d3_1 : DC cb2 1 (.invokespecial 1) 3 := by decide +kernel
theorem d3_4 : DC cb2 4 (.aload_n 0) 1 := by decide +kernel
theorem d3_5 : DC cb2 5 (.getstatic 39) 3 := by decide +kernel
theorem d3_8 : DC cb2 8 (.putfield 9) 3 := by decide +kernel
theorem d3_11 : DC cb2 11 .return_ 1 := by decide +kernel
theorem pn_3 : plainName "java/util/ArrayList" = true := by first | (simp [plainName, overriddenIn]; done) | decide +kernel
theorem d1_0 : DC cb3 0 (.aload_n 0) 1 := by decide +kernel
theorem d1_1 : DC cb3 1 (.invokespecial 1) 3 := by decide +kernel
theorem d1_4 : DC cb3 4 (.aload_n 0) 1 := by decide +kernel
theorem d1_5 : DC cb3 5 (.new 7) 3 := by decide +kernel
theorem d1_8 : DC cb3 8 .dup 1 := by decide +kernel
theorem d1_9 : DC cb3 9 (.invokespecial 9) 3 := by decide +kernel
theorem d1_12 : DC cb3 12 (.putfield 10) 3 := by decide +kernel
theorem d1_15 : DC cb3 15 (.aload_n 0) 1 := by decide +kernel
theorem d1_16 : DC cb3 16 (.new 7) 3 := by decide +kernel
theorem d1_19 : DC cb3 19 .dup 1 := by decide +kernel
theorem d1_20 : DC cb3 20 (.invokespecial 9) 3 := by decide +kernel
theorem d1_23 : DC cb3 23 (.putfield 16) 3 := by decide +kernel
theorem d1_26 : DC cb3 26 .return_ 1 := by decide +kernel
theorem pn_4 : plainName "com/example/hinta/hinta/Statement" = true := by first | (simp [plainName, overriddenIn]; done) | decide +kernel
theorem d34_0 : DC cb4 0 (.iload_n 0) 1 := by decide +kernel
theorem d34_1 : DC cb4 1 (.iload_n 1) 1 := by decide +kernel
theorem d34_2 : DC cb4 2 (.if_icmp .lt 7) 3 := by decide +kernel
theorem d34_5 : DC cb4 5 (.iload_n 0) 1 := by decide +kernel
theorem d34_6 : DC cb4 6 (.goto 4) 3 := by decide +kernel
theorem d34_10 : DC cb4 10 .ireturn 1 := by decide +kernel
theorem d33_0 : DC cb5 0 (.aload_n 0) 1 := by decide +kernel
theorem d33_1 : DC cb5 1 (.getfield 9) 3 := by decide +kernel
theorem d33_4 : DC cb5 4 .arraylength 1 := by decide +kernel
theorem d33_5 : DC cb5 5 (.istore_n 2) 1 := by decide +kernel
theorem d33_6 : DC cb5 6 (.iload_n 2) 1 := by decide +kernel
theorem d33_7 : DC cb5 7 (.ifCond .gt 13) 3 := by decide +kernel
theorem d33_10 : DC cb5 10 (.aload_n 0) 1 := by decide +kernel
theorem d33_11 : DC cb5 11 (.getfield 9) 3 := by decide +kernel
theorem d33_14 : DC cb5 14 (.getstatic 39) 3 := by decide +kernel
theorem d33_17 : DC cb5 17 (.if_acmp .eq 28) 3 := by decide +kernel
theorem d33_45 : DC cb5 45 (.aload_n 0) 1 := by decide +kernel
theorem d33_46 : DC cb5 46 (.bipush 10) 2 := by decide +kernel
theorem d33_48 : DC cb5 48 (.iload_n 1) 1 := by decide +kernel
theorem d33_49 : DC cb5 49 (.invokestatic 79) 3 := by decide +kernel
theorem d33_52 : DC cb5 52 (.anewarray 7) 3 := by decide +kernel
theorem d33_55 : DC cb5 55 .dup_x1 1 := by decide +kernel
theorem d33_56 : DC cb5 56 (.putfield 9) 3 := by decide +kernel
theorem d33_59 : DC cb5 59 .areturn 1 := by decide +kernel
theorem pd_5 : parseMethodDescriptor "(II)I" = some ⟨[.int, .int], some .int⟩ := by decide +kernel
theorem d32_0 : DC cb6 0 (.aload_n 0) 1 := by decide +kernel
theorem d32_1 : DC cb6 1 (.aload_n 0) 1 := by decide +kernel
theorem d32_2 : DC cb6 2 (.getfield 48) 3 := by decide +kernel
theorem d32_5 : DC cb6 5 (.iconst 1) 1 := by decide +kernel
theorem d32_6 : DC cb6 6 .iadd 1 := by decide +kernel
theorem d32_7 : DC cb6 7 (.invokevirtual 69) 3 := by decide +kernel
theorem d32_10 : DC cb6 10 .areturn 1 := by decide +kernel
theorem pd_6 : parseMethodDescriptor "(I)[Ljava/lang/Object;" = some ⟨[.int], some (.array (.object "java/lang/Object"))⟩ := by decide +kernel
theorem d31_0 : DC cb7 0 (.iload_n 3) 1 := by decide +kernel
theorem d31_1 : DC cb7 1 (.aload_n 2) 1 := by decide +kernel
theorem d31_2 : DC cb7 2 .arraylength 1 := by decide +kernel
theorem d31_3 : DC cb7 3 (.if_icmp .ne 8) 3 := by decide +kernel
theorem d31_6 : DC cb7 6 (.aload_n 0) 1 := by decide +kernel
theorem d31_7 : DC cb7 7 (.invokevirtual 129) 3 := by decide +kernel
theorem d31_10 : DC cb7 10 (.astore_n 2) 1 := by decide +kernel
theorem d31_11 : DC cb7 11 (.aload_n 2) 1 := by decide +kernel
theorem d31_12 : DC cb7 12 (.iload_n 3) 1 := by decide +kernel
theorem d31_13 : DC cb7 13 (.aload_n 1) 1 := by decide +kernel
theorem d31_14 : DC cb7 14 .aastore 1 := by decide +kernel
theorem d31_15 : DC cb7 15 (.aload_n 0) 1 := by decide +kernel
theorem d31_16 : DC cb7 16 (.iload_n 3) 1 := by decide +kernel
theorem d31_17 : DC cb7 17 (.iconst 1) 1 := by decide +kernel
theorem d31_18 : DC cb7 18 .iadd 1 := by decide +kernel
theorem d31_19 : DC cb7 19 (.putfield 48) 3 := by decide +kernel
theorem d31_22 : DC cb7 22 .return_ 1 := by decide +kernel
theorem pd_7 : parseMethodDescriptor "()[Ljava/lang/Object;" = some ⟨[], some (.array (.object "java/lang/Object"))⟩ := by decide +kernel
theorem d30_0 : DC cb8 0 (.aload_n 0) 1 := by decide +kernel
theorem d30_1 : DC cb8 1 .dup 1 := by decide +kernel
theorem d30_2 : DC cb8 2 (.getfield 63) 3 := by decide +kernel
theorem d30_5 : DC cb8 5 (.iconst 1) 1 := by decide +kernel
theorem d30_6 : DC cb8 6 .iadd 1 := by decide +kernel
theorem d30_7 : DC cb8 7 (.putfield 63) 3 := by decide +kernel
theorem d30_10 : DC cb8 10 (.aload_n 0) 1 := by decide +kernel
theorem d30_11 : DC cb8 11 (.aload_n 1) 1 := by decide +kernel
theorem d30_12 : DC cb8 12 (.aload_n 0) 1 := by decide +kernel
theorem d30_13 : DC cb8 13 (.getfield 9) 3 := by decide +kernel
theorem d30_16 : DC cb8 16 (.aload_n 0) 1 := by decide +kernel
theorem d30_17 : DC cb8 17 (.getfield 48) 3 := by decide +kernel
theorem d30_20 : DC cb8 20 (.invokevirtual 131) 3 := by decide +kernel
theorem d30_23 : DC cb8 23 (.iconst 1) 1 := by decide +kernel
theorem d30_24 : DC cb8 24 .ireturn 1 := by decide +kernel
theorem pd_8 : parseMethodDescriptor "(Ljava/lang/Object;[Ljava/lang/Object;I)V" = some ⟨[(.object "java/lang/Object"), (.array (.object "java/lang/Object")), .int], none⟩ := by decide +kernel
theorem d29_0 : DC cb9 0 (.aload_n 0) 1 := by decide +kernel
theorem d29_1 : DC cb9 1 (.getfield 10) 3 := by decide +kernel
theorem d29_4 : DC cb9 4 (.aload_n 1) 1 := by decide +kernel
theorem d29_5 : DC cb9 5 (.invokeinterface 19 2) 5 := by decide +kernel
theorem d29_10 : DC cb9 10 .pop 1 := by decide +kernel
theorem d29_11 : DC cb9 11 (.aload_n 0) 1 := by decide +kernel
theorem d29_12 : DC cb9 12 (.getfield 16) 3 := by decide +kernel
theorem d29_15 : DC cb9 15 (.aload_n 2) 1 := by decide +kernel
theorem d29_16 : DC cb9 16 (.invokeinterface 19 2) 5 := by decide +kernel
theorem d29_21 : DC cb9 21 .pop 1 := by decide +kernel
theorem d29_22 : DC cb9 22 (.aload_n 0) 1 := by decide +kernel
theorem d29_23 : DC cb9 23 .areturn 1 := by decide +kernel
theorem pd_9 : parseMethodDescriptor "(Ljava/lang/Object;)Z" = some ⟨[(.object "java/lang/Object")], some .boolean⟩ := by decide +kernel
theorem d10_0 : DC cb10 0 (.aload_n 0) 1 := by decide +kernel
theorem d10_1 : DC cb10 1 (.getfield 48) 3 := by decide +kernel
theorem d10_4 : DC cb10 4 .ireturn 1 := by decide +kernel
theorem d37_0 : DC cb11 0 (.iload_n 0) 1 := by decide +kernel
theorem d37_1 : DC cb11 1 (.ifCond .lt 8) 3 := by decide +kernel
theorem d37_4 : DC cb11 4 (.iload_n 0) 1 := by decide +kernel
theorem d37_5 : DC cb11 5 (.iload_n 1) 1 := by decide +kernel
theorem d37_6 : DC cb11 6 (.if_icmp .lt 10) 3 := by decide +kernel
theorem d37_16 : DC cb11 16 (.iload_n 0) 1 := by decide +kernel
theorem d37_17 : DC cb11 17 .ireturn 1 := by decide +kernel
theorem pn_10 : plainName "jdk/internal/util/Preconditions" = true := by first | (simp [plainName, overriddenIn]; done) | decide +kernel
theorem d36_0 : DC cb12 0 (.iload_n 0) 1 := by decide +kernel
theorem d36_1 : DC cb12 1 (.iload_n 1) 1 := by decide +kernel
theorem d36_2 : DC cb12 2 .aconst_null 1 := by decide +kernel
theorem d36_3 : DC cb12 3 (.invokestatic 105) 3 := by decide +kernel
theorem d36_6 : DC cb12 6 .ireturn 1 := by decide +kernel
theorem pn_11 : plainName "java/util/Objects" = true := by first | (simp [plainName, overriddenIn]; done) | decide +kernel
theorem pd_12 : parseMethodDescriptor "(IILjava/util/function/BiFunction;)I" = some ⟨[.int, .int, (.object "java/util/function/BiFunction")], some .int⟩ := by decide +kernel
theorem d38_0 : DC cb13 0 (.aload_n 0) 1 := by decide +kernel
theorem d38_1 : DC cb13 1 (.getfield 9) 3 := by decide +kernel
theorem d38_4 : DC cb13 4 (.iload_n 1) 1 := by decide +kernel
theorem d38_5 : DC cb13 5 .aaload 1 := by decide +kernel
theorem d38_6 : DC cb13 6 .areturn 1 := by decide +kernel
theorem d35_0 : DC cb14 0 (.iload_n 1) 1 := by decide +kernel
theorem d35_1 : DC cb14 1 (.aload_n 0) 1 := by decide +kernel
theorem d35_2 : DC cb14 2 (.getfield 48) 3 := by decide +kernel
theorem d35_5 : DC cb14 5 (.invokestatic 118) 3 := by decide +kernel
theorem d35_8 : DC cb14 8 .pop 1 := by decide +kernel
theorem d35_9 : DC cb14 9 (.aload_n 0) 1 := by decide +kernel
theorem d35_10 : DC cb14 10 (.iload_n 1) 1 := by decide +kernel
theorem d35_11 : DC cb14 11 (.invokevirtual 123) 3 := by decide +kernel
theorem d35_14 : DC cb14 14 .areturn 1 := by decide +kernel
theorem pd_13 : parseMethodDescriptor "(I)Ljava/lang/Object;" = some ⟨[.int], some (.object "java/lang/Object")⟩ := by decide +kernel
theorem d26_0 : DC cb15 0 (.iload_n 0) 1 := by decide +kernel
theorem d26_1 : DC cb15 1 (.sipush 255) 3 := by decide +kernel
theorem d26_4 : DC cb15 4 (.if_icmp .gt 7) 3 := by decide +kernel
theorem d26_7 : DC cb15 7 (.iconst 1) 1 := by decide +kernel
theorem d26_8 : DC cb15 8 (.goto 4) 3 := by decide +kernel
theorem d26_12 : DC cb15 12 .ireturn 1 := by decide +kernel
theorem pn_14 : plainName "java/lang/StringLatin1" = true := by first | (simp [plainName, overriddenIn]; done) | decide +kernel
theorem d27_0 : DC cb16 0 (.iconst 1) 1 := by decide +kernel
theorem d27_1 : DC cb16 1 (.newarray .byte) 2 := by decide +kernel
theorem d27_3 : DC cb16 3 .dup 1 := by decide +kernel
theorem d27_4 : DC cb16 4 (.iconst 0) 1 := by decide +kernel
theorem d27_5 : DC cb16 5 (.iload_n 0) 1 := by decide +kernel
theorem d27_6 : DC cb16 6 .i2b 1 := by decide +kernel
theorem d27_7 : DC cb16 7 .bastore 1 := by decide +kernel
theorem d27_8 : DC cb16 8 .areturn 1 := by decide +kernel
theorem d28_0 : DC cb17 0 (.aload_n 0) 1 := by decide +kernel
theorem d28_1 : DC cb17 1 (.invokespecial 1) 3 := by decide +kernel
theorem d28_4 : DC cb17 4 (.aload_n 0) 1 := by decide +kernel
theorem d28_5 : DC cb17 5 (.aload_n 1) 1 := by decide +kernel
theorem d28_6 : DC cb17 6 (.putfield 9) 3 := by decide +kernel
theorem d28_9 : DC cb17 9 (.aload_n 0) 1 := by decide +kernel
theorem d28_10 : DC cb17 10 (.iload_n 2) 1 := by decide +kernel
theorem d28_11 : DC cb17 11 (.putfield 15) 3 := by decide +kernel
theorem d28_14 : DC cb17 14 .return_ 1 := by decide +kernel
theorem pn_15 : plainName "java/lang/String" = true := by first | (simp [plainName, overriddenIn]; done) | decide +kernel
theorem d25_0 : DC cb18 0 (.getstatic 38) 3 := by decide +kernel
theorem d25_3 : DC cb18 3 (.ifCond .eq 23) 3 := by decide +kernel
theorem d25_6 : DC cb18 6 (.iload_n 0) 1 := by decide +kernel
theorem d25_7 : DC cb18 7 (.invokestatic 1015) 3 := by decide +kernel
theorem d25_10 : DC cb18 10 (.ifCond .eq 16) 3 := by decide +kernel
theorem d25_13 : DC cb18 13 (.new 10) 3 := by decide +kernel
theorem d25_16 : DC cb18 16 .dup 1 := by decide +kernel
theorem d25_17 : DC cb18 17 (.iload_n 0) 1 := by decide +kernel
theorem d25_18 : DC cb18 18 (.invokestatic 1018) 3 := by decide +kernel
theorem d25_21 : DC cb18 21 (.iconst 0) 1 := by decide +kernel
theorem d25_22 : DC cb18 22 (.invokespecial 209) 3 := by decide +kernel
theorem d25_25 : DC cb18 25 .areturn 1 := by decide +kernel
theorem pd_16 : parseMethodDescriptor "(C)Z" = some ⟨[.char], some .boolean⟩ := by decide +kernel
theorem pd_17 : parseMethodDescriptor "(C)[B" = some ⟨[.char], some (.array .byte)⟩ := by decide +kernel
theorem pd_18 : parseMethodDescriptor "([BB)V" = some ⟨[(.array .byte), .byte], none⟩ := by decide +kernel
theorem d24_0 : DC cb19 0 (.getstatic 38) 3 := by decide +kernel
theorem d24_3 : DC cb19 3 (.ifCond .eq 10) 3 := by decide +kernel
theorem d24_6 : DC cb19 6 (.aload_n 0) 1 := by decide +kernel
theorem d24_7 : DC cb19 7 (.getfield 15) 3 := by decide +kernel
theorem d24_10 : DC cb19 10 (.goto 4) 3 := by decide +kernel
theorem d24_14 : DC cb19 14 .ireturn 1 := by decide +kernel
theorem d23_0 : DC cb20 0 (.aload_n 0) 1 := by decide +kernel
theorem d23_1 : DC cb20 1 (.getfield 9) 3 := by decide +kernel
theorem d23_4 : DC cb20 4 .arraylength 1 := by decide +kernel
theorem d23_5 : DC cb20 5 (.aload_n 0) 1 := by decide +kernel
theorem d23_6 : DC cb20 6 (.invokevirtual 335) 3 := by decide +kernel
theorem d23_9 : DC cb20 9 .ishr 1 := by decide +kernel
theorem d23_10 : DC cb20 10 .ireturn 1 := by decide +kernel
theorem pd_19 : parseMethodDescriptor "()B" = some ⟨[], some .byte⟩ := by decide +kernel
theorem d9_0 : DC cb21 0 (.aload_n 0) 1 := by decide +kernel
theorem d9_1 : DC cb21 1 (.invokespecial 3) 3 := by decide +kernel
theorem d9_4 : DC cb21 4 (.getstatic 18) 3 := by decide +kernel
theorem d9_7 : DC cb21 7 (.ifCond .eq 18) 3 := by decide +kernel
theorem d9_10 : DC cb21 10 (.aload_n 0) 1 := by decide +kernel
theorem d9_11 : DC cb21 11 (.iload_n 1) 1 := by decide +kernel
theorem d9_12 : DC cb21 12 (.newarray .byte) 2 := by decide +kernel
theorem d9_14 : DC cb21 14 (.putfield 15) 3 := by decide +kernel
theorem d9_17 : DC cb21 17 (.aload_n 0) 1 := by decide +kernel
theorem d9_18 : DC cb21 18 (.iconst 0) 1 := by decide +kernel
theorem d9_19 : DC cb21 19 (.putfield 22) 3 := by decide +kernel
theorem d9_22 : DC cb21 22 (.goto 16) 3 := by decide +kernel
theorem d9_38 : DC cb21 38 .return_ 1 := by decide +kernel
theorem pn_20 : plainName "java/lang/AbstractStringBuilder" = true := by first | (simp [plainName, overriddenIn]; done) | decide +kernel
theorem d8_0 : DC cb22 0 (.aload_n 0) 1 := by decide +kernel
theorem d8_1 : DC cb22 1 (.bipush 16) 2 := by decide +kernel
theorem d8_3 : DC cb22 3 (.invokespecial 1) 3 := by decide +kernel
theorem d8_6 : DC cb22 6 .return_ 1 := by decide +kernel
theorem pn_21 : plainName "java/lang/StringBuilder" = true := by first | (simp [plainName, overriddenIn]; done) | decide +kernel
theorem pd_22 : parseMethodDescriptor "(I)V" = some ⟨[.int], none⟩ := by decide +kernel
theorem d17_0 : DC cb23 0 (.getstatic 18) 3 := by decide +kernel
theorem d17_3 : DC cb23 3 (.ifCond .eq 14) 3 := by decide +kernel
theorem d17_6 : DC cb23 6 (.aload_n 0) 1 := by decide +kernel
theorem d17_7 : DC cb23 7 (.getfield 22) 3 := by decide +kernel
theorem d17_10 : DC cb23 10 (.ifCond .ne 7) 3 := by decide +kernel
theorem d17_13 : DC cb23 13 (.iconst 1) 1 := by decide +kernel
theorem d17_14 : DC cb23 14 (.goto 4) 3 := by decide +kernel
theorem d17_18 : DC cb23 18 .ireturn 1 := by decide +kernel
theorem d16_0 : DC cb24 0 (.aload_n 0) 1 := by decide +kernel
theorem d16_1 : DC cb24 1 (.getfield 79) 3 := by decide +kernel
theorem d16_4 : DC cb24 4 .ireturn 1 := by decide +kernel
theorem d14_0 : DC cb25 0 (.aload_n 0) 1 := by decide +kernel
theorem d14_1 : DC cb25 1 (.getfield 15) 3 := by decide +kernel
theorem d14_4 : DC cb25 4 .areturn 1 := by decide +kernel
theorem d15_0 : DC cb26 0 (.aload_n 0) 1 := by decide +kernel
theorem d15_1 : DC cb26 1 (.invokespecial 343) 3 := by decide +kernel
theorem d15_4 : DC cb26 4 .ireturn 1 := by decide +kernel
theorem pd_23 : parseMethodDescriptor "()I" = some ⟨[], some .int⟩ := by decide +kernel
theorem d41_0 : DC cb27 0 (.aload_n 0) 1 := by decide +kernel
theorem d41_1 : DC cb27 1 (.getfield 15) 3 := by decide +kernel
theorem d41_4 : DC cb27 4 .arraylength 1 := by decide +kernel
theorem d41_5 : DC cb27 5 (.aload_n 0) 1 := by decide +kernel
theorem d41_6 : DC cb27 6 (.getfield 22) 3 := by decide +kernel
theorem d41_9 : DC cb27 9 .ishr 1 := by decide +kernel
theorem d41_10 : DC cb27 10 (.istore_n 2) 1 := by decide +kernel
theorem d41_11 : DC cb27 11 (.iload_n 1) 1 := by decide +kernel
theorem d41_12 : DC cb27 12 (.iload_n 2) 1 := by decide +kernel
theorem d41_13 : DC cb27 13 .isub 1 := by decide +kernel
theorem d41_14 : DC cb27 14 (.ifCond .le 24) 3 := by decide +kernel
theorem d41_38 : DC cb27 38 .return_ 1 := by decide +kernel
theorem d43_0 : DC cb28 0 (.getstatic 18) 3 := by decide +kernel
theorem d43_3 : DC cb28 3 (.ifCond .eq 18) 3 := by decide +kernel
theorem d43_6 : DC cb28 6 (.aload_n 0) 1 := by decide +kernel
theorem d43_7 : DC cb28 7 (.getfield 22) 3 := by decide +kernel
theorem d43_10 : DC cb28 10 (.aload_n 1) 1 := by decide +kernel
theorem d43_11 : DC cb28 11 (.invokevirtual 40) 3 := by decide +kernel
theorem d43_14 : DC cb28 14 (.if_icmp .eq 7) 3 := by decide +kernel
theorem d43_21 : DC cb28 21 .return_ 1 := by decide +kernel
theorem d44_0 : DC cb29 0 (.aload_n 0) 1 := by decide +kernel
theorem d44_1 : DC cb29 1 (.invokevirtual 335) 3 := by decide +kernel
theorem d44_4 : DC cb29 4 (.iload_n 3) 1 := by decide +kernel
theorem d44_5 : DC cb29 5 (.if_icmp .ne 23) 3 := by decide +kernel
theorem d44_8 : DC cb29 8 (.aload_n 0) 1 := by decide +kernel
theorem d44_9 : DC cb29 9 (.getfield 9) 3 := by decide +kernel
theorem d44_12 : DC cb29 12 (.iconst 0) 1 := by decide +kernel
theorem d44_13 : DC cb29 13 (.aload_n 1) 1 := by decide +kernel
theorem d44_14 : DC cb29 14 (.iload_n 2) 1 := by decide +kernel
theorem d44_15 : DC cb29 15 (.iload_n 3) 1 := by decide +kernel
theorem d44_16 : DC cb29 16 .ishl 1 := by decide +kernel
theorem d44_17 : DC cb29 17 (.aload_n 0) 1 := by decide +kernel
theorem d44_18 : DC cb29 18 (.getfield 9) 3 := by decide +kernel
theorem d44_21 : DC cb29 21 .arraylength 1 := by decide +kernel
theorem d44_22 : DC cb29 22 (.invokestatic 212) 3 := by decide +kernel
theorem d44_25 : DC cb29 25 (.goto 18) 3 := by decide +kernel
theorem d44_43 : DC cb29 43 .return_ 1 := by decide +kernel
theorem d42_0 : DC cb30 0 (.aload_n 0) 1 := by decide +kernel
theorem d42_1 : DC cb30 1 (.aload_n 2) 1 := by decide +kernel
theorem d42_2 : DC cb30 2 (.invokevirtual 397) 3 := by decide +kernel
theorem d42_5 : DC cb30 5 (.aload_n 2) 1 := by decide +kernel
theorem d42_6 : DC cb30 6 (.aload_n 0) 1 := by decide +kernel
theorem d42_7 : DC cb30 7 (.getfield 15) 3 := by decide +kernel
theorem d42_10 : DC cb30 10 (.iload_n 1) 1 := by decide +kernel
theorem d42_11 : DC cb30 11 (.aload_n 0) 1 := by decide +kernel
theorem d42_12 : DC cb30 12 (.getfield 22) 3 := by decide +kernel
theorem d42_15 : DC cb30 15 (.invokevirtual 399) 3 := by decide +kernel
theorem d42_18 : DC cb30 18 .return_ 1 := by decide +kernel
theorem pd_24 : parseMethodDescriptor "(Ljava/lang/String;)V" = some ⟨[(.object "java/lang/String")], none⟩ := by decide +kernel
theorem pd_25 : parseMethodDescriptor "([BIB)V" = some ⟨[(.array .byte), .int, .byte], none⟩ := by decide +kernel
theorem d40_0 : DC cb31 0 (.aload_n 1) 1 := by decide +kernel
theorem d40_1 : DC cb31 1 (.ifnonnull 8) 3 := by decide +kernel
theorem d40_9 : DC cb31 9 (.aload_n 1) 1 := by decide +kernel
theorem d40_10 : DC cb31 10 (.invokevirtual 32) 3 := by decide +kernel
theorem d40_13 : DC cb31 13 (.istore_n 2) 1 := by decide +kernel
theorem d40_14 : DC cb31 14 (.aload_n 0) 1 := by decide +kernel
theorem d40_15 : DC cb31 15 (.aload_n 0) 1 := by decide +kernel
theorem d40_16 : DC cb31 16 (.getfield 79) 3 := by decide +kernel
theorem d40_19 : DC cb31 19 (.iload_n 2) 1 := by decide +kernel
theorem d40_20 : DC cb31 20 .iadd 1 := by decide +kernel
theorem d40_21 : DC cb31 21 (.invokevirtual 100) 3 := by decide +kernel
theorem d40_24 : DC cb31 24 (.aload_n 0) 1 := by decide +kernel
theorem d40_25 : DC cb31 25 (.aload_n 0) 1 := by decide +kernel
theorem d40_26 : DC cb31 26 (.getfield 79) 3 := by decide +kernel
theorem d40_29 : DC cb31 29 (.aload_n 1) 1 := by decide +kernel
theorem d40_30 : DC cb31 30 (.invokevirtual 208) 3 := by decide +kernel
theorem d40_33 : DC cb31 33 (.aload_n 0) 1 := by decide +kernel
theorem d40_34 : DC cb31 34 .dup 1 := by decide +kernel
theorem d40_35 : DC cb31 35 (.getfield 79) 3 := by decide +kernel
theorem d40_38 : DC cb31 38 (.iload_n 2) 1 := by decide +kernel
theorem d40_39 : DC cb31 39 .iadd 1 := by decide +kernel
theorem d40_40 : DC cb31 40 (.putfield 79) 3 := by decide +kernel
theorem d40_43 : DC cb31 43 (.aload_n 0) 1 := by decide +kernel
theorem d40_44 : DC cb31 44 .areturn 1 := by decide +kernel
theorem pd_26 : parseMethodDescriptor "(ILjava/lang/String;)V" = some ⟨[.int, (.object "java/lang/String")], none⟩ := by decide +kernel
theorem d39_0 : DC cb32 0 (.aload_n 0) 1 := by decide +kernel
theorem d39_1 : DC cb32 1 (.aload_n 1) 1 := by decide +kernel
theorem d39_2 : DC cb32 2 (.invokespecial 29) 3 := by decide +kernel
theorem d39_5 : DC cb32 5 .pop 1 := by decide +kernel
theorem d39_6 : DC cb32 6 (.aload_n 0) 1 := by decide +kernel
theorem d39_7 : DC cb32 7 .areturn 1 := by decide +kernel
theorem pd_27 : parseMethodDescriptor "(Ljava/lang/String;)Ljava/lang/AbstractStringBuilder;" = some ⟨[(.object "java/lang/String")], some (.object "java/lang/AbstractStringBuilder")⟩ := by decide +kernel
theorem d46_0 : DC cb33 0 (.aload_n 0) 1 := by decide +kernel
theorem d46_1 : DC cb33 1 (.aload_n 0) 1 := by decide +kernel
theorem d46_2 : DC cb33 2 (.getfield 79) 3 := by decide +kernel
theorem d46_5 : DC cb33 5 (.iconst 1) 1 := by decide +kernel
theorem d46_6 : DC cb33 6 .iadd 1 := by decide +kernel
theorem d46_7 : DC cb33 7 (.invokevirtual 100) 3 := by decide +kernel
theorem d46_10 : DC cb33 10 (.aload_n 0) 1 := by decide +kernel
theorem d46_11 : DC cb33 11 (.invokevirtual 83) 3 := by decide +kernel
theorem d46_14 : DC cb33 14 (.ifCond .eq 31) 3 := by decide +kernel
theorem d46_17 : DC cb33 17 (.iload_n 1) 1 := by decide +kernel
theorem d46_18 : DC cb33 18 (.invokestatic 191) 3 := by decide +kernel
theorem d46_21 : DC cb33 21 (.ifCond .eq 24) 3 := by decide +kernel
theorem d46_24 : DC cb33 24 (.aload_n 0) 1 := by decide +kernel
theorem d46_25 : DC cb33 25 (.getfield 15) 3 := by decide +kernel
theorem d46_28 : DC cb33 28 (.aload_n 0) 1 := by decide +kernel
theorem d46_29 : DC cb33 29 .dup 1 := by decide +kernel
theorem d46_30 : DC cb33 30 (.getfield 79) 3 := by decide +kernel
theorem d46_33 : DC cb33 33 .dup_x1 1 := by decide +kernel
theorem d46_34 : DC cb33 34 (.iconst 1) 1 := by decide +kernel
theorem d46_35 : DC cb33 35 .iadd 1 := by decide +kernel
theorem d46_36 : DC cb33 36 (.putfield 79) 3 := by decide +kernel
theorem d46_39 : DC cb33 39 (.iload_n 1) 1 := by decide +kernel
theorem d46_40 : DC cb33 40 .i2b 1 := by decide +kernel
theorem d46_41 : DC cb33 41 .bastore 1 := by decide +kernel
theorem d46_42 : DC cb33 42 (.goto 33) 3 := by decide +kernel
theorem d46_75 : DC cb33 75 (.aload_n 0) 1 := by decide +kernel
theorem d46_76 : DC cb33 76 .areturn 1 := by decide +kernel
theorem pd_28 : parseMethodDescriptor "()Z" = some ⟨[], some .boolean⟩ := by decide +kernel
theorem d45_0 : DC cb34 0 (.aload_n 0) 1 := by decide +kernel
theorem d45_1 : DC cb34 1 (.iload_n 1) 1 := by decide +kernel
theorem d45_2 : DC cb34 2 (.invokespecial 50) 3 := by decide +kernel
theorem d45_5 : DC cb34 5 .pop 1 := by decide +kernel
theorem d45_6 : DC cb34 6 (.aload_n 0) 1 := by decide +kernel
theorem d45_7 : DC cb34 7 .areturn 1 := by decide +kernel
theorem pd_29 : parseMethodDescriptor "(C)Ljava/lang/AbstractStringBuilder;" = some ⟨[.char], some (.object "java/lang/AbstractStringBuilder")⟩ := by decide +kernel
theorem d21_0 : DC cb35 0 (.iload_n 0) 1 := by decide +kernel
theorem d21_1 : DC cb35 1 (.iload_n 1) 1 := by decide +kernel
theorem d21_2 : DC cb35 2 (.if_icmp .gt 7) 3 := by decide +kernel
theorem d21_9 : DC cb35 9 (.iload_n 1) 1 := by decide +kernel
theorem d21_10 : DC cb35 10 .ireturn 1 := by decide +kernel
theorem d20_0 : DC cb36 0 (.iload_n 1) 1 := by decide +kernel
theorem d20_1 : DC cb36 1 (.iload_n 0) 1 := by decide +kernel
theorem d20_2 : DC cb36 2 (.if_icmp .ge 35) 3 := by decide +kernel
theorem d20_37 : DC cb36 37 .return_ 1 := by decide +kernel
theorem pn_30 : plainName "java/util/Arrays" = true := by first | (simp [plainName, overriddenIn]; done) | decide +kernel
theorem d19_0 : DC cb37 0 (.iload_n 1) 1 := by decide +kernel
theorem d19_1 : DC cb37 1 (.iload_n 2) 1 := by decide +kernel
theorem d19_2 : DC cb37 2 (.invokestatic 343) 3 := by decide +kernel
theorem d19_5 : DC cb37 5 (.iload_n 2) 1 := by decide +kernel
theorem d19_6 : DC cb37 6 (.iload_n 1) 1 := by decide +kernel
theorem d19_7 : DC cb37 7 .isub 1 := by decide +kernel
theorem d19_8 : DC cb37 8 (.istore_n 3) 1 := by decide +kernel
theorem d19_9 : DC cb37 9 (.iload_n 3) 1 := by decide +kernel
theorem d19_10 : DC cb37 10 (.newarray .byte) 2 := by decide +kernel
theorem d19_12 : DC cb37 12 (.astore 4) 2 := by decide +kernel
theorem d19_14 : DC cb37 14 (.aload_n 0) 1 := by decide +kernel
theorem d19_15 : DC cb37 15 (.iload_n 1) 1 := by decide +kernel
theorem d19_16 : DC cb37 16 (.aload 4) 2 := by decide +kernel
theorem d19_18 : DC cb37 18 (.iconst 0) 1 := by decide +kernel
theorem d19_19 : DC cb37 19 (.aload_n 0) 1 := by decide +kernel
theorem d19_20 : DC cb37 20 .arraylength 1 := by decide +kernel
theorem d19_21 : DC cb37 21 (.iload_n 1) 1 := by decide +kernel
theorem d19_22 : DC cb37 22 .isub 1 := by decide +kernel
theorem d19_23 : DC cb37 23 (.iload_n 3) 1 := by decide +kernel
theorem d19_24 : DC cb37 24 (.invokestatic 304) 3 := by decide +kernel
theorem d19_27 : DC cb37 27 (.invokestatic 150) 3 := by decide +kernel
theorem d19_30 : DC cb37 30 (.aload 4) 2 := by decide +kernel
theorem d19_32 : DC cb37 32 .areturn 1 := by decide +kernel
theorem pd_31 : parseMethodDescriptor "(II)V" = some ⟨[.int, .int], none⟩ := by decide +kernel
theorem d18_0 : DC cb38 0 (.iload_n 1) 1 := by decide +kernel
theorem d18_1 : DC cb38 1 (.ifCond .ne 9) 3 := by decide +kernel
theorem d18_4 : DC cb38 4 (.iload_n 2) 1 := by decide +kernel
theorem d18_5 : DC cb38 5 (.aload_n 0) 1 := by decide +kernel
theorem d18_6 : DC cb38 6 .arraylength 1 := by decide +kernel
theorem d18_7 : DC cb38 7 (.if_icmp .eq 10) 3 := by decide +kernel
theorem d18_10 : DC cb38 10 (.aload_n 0) 1 := by decide +kernel
theorem d18_11 : DC cb38 11 (.iload_n 1) 1 := by decide +kernel
theorem d18_12 : DC cb38 12 (.iload_n 2) 1 := by decide +kernel
theorem d18_13 : DC cb38 13 (.invokestatic 339) 3 := by decide +kernel
theorem d18_16 : DC cb38 16 .areturn 1 := by decide +kernel
theorem pd_32 : parseMethodDescriptor "([BII)[B" = some ⟨[(.array .byte), .int, .int], some (.array .byte)⟩ := by decide +kernel
theorem d13_0 : DC cb39 0 (.aload_n 0) 1 := by decide +kernel
theorem d13_1 : DC cb39 1 (.invokespecial 1) 3 := by decide +kernel
theorem d13_4 : DC cb39 4 (.aload_n 1) 1 := by decide +kernel
theorem d13_5 : DC cb39 5 (.invokevirtual 552) 3 := by decide +kernel
theorem d13_8 : DC cb39 8 (.astore_n 3) 1 := by decide +kernel
theorem d13_9 : DC cb39 9 (.aload_n 1) 1 := by decide +kernel
theorem d13_10 : DC cb39 10 (.invokevirtual 549) 3 := by decide +kernel
theorem d13_13 : DC cb39 13 (.istore 4) 2 := by decide +kernel
theorem d13_15 : DC cb39 15 (.aload_n 1) 1 := by decide +kernel
theorem d13_16 : DC cb39 16 (.invokevirtual 1047) 3 := by decide +kernel
theorem d13_19 : DC cb39 19 (.ifCond .eq 22) 3 := by decide +kernel
theorem d13_22 : DC cb39 22 (.aload_n 0) 1 := by decide +kernel
theorem d13_23 : DC cb39 23 (.iconst 0) 1 := by decide +kernel
theorem d13_24 : DC cb39 24 (.putfield 15) 3 := by decide +kernel
theorem d13_27 : DC cb39 27 (.aload_n 0) 1 := by decide +kernel
theorem d13_28 : DC cb39 28 (.aload_n 3) 1 := by decide +kernel
theorem d13_29 : DC cb39 29 (.iconst 0) 1 := by decide +kernel
theorem d13_30 : DC cb39 30 (.iload 4) 2 := by decide +kernel
theorem d13_32 : DC cb39 32 (.invokestatic 54) 3 := by decide +kernel
theorem d13_35 : DC cb39 35 (.putfield 9) 3 := by decide +kernel
theorem d13_38 : DC cb39 38 (.goto 59) 3 := by decide +kernel
theorem d13_97 : DC cb39 97 .return_ 1 := by decide +kernel
theorem pd_33 : parseMethodDescriptor "()[B" = some ⟨[], some (.array .byte)⟩ := by decide +kernel
theorem d12_0 : DC cb40 0 (.aload_n 0) 1 := by decide +kernel
theorem d12_1 : DC cb40 1 (.aload_n 1) 1 := by decide +kernel
theorem d12_2 : DC cb40 2 .aconst_null 1 := by decide +kernel
theorem d12_3 : DC cb40 3 (.invokespecial 489) 3 := by decide +kernel
theorem d12_6 : DC cb40 6 .return_ 1 := by decide +kernel
theorem pd_34 : parseMethodDescriptor "(Ljava/lang/AbstractStringBuilder;Ljava/lang/Void;)V" = some ⟨[(.object "java/lang/AbstractStringBuilder"), (.object "java/lang/Void")], none⟩ := by decide +kernel
theorem d11_0 : DC cb41 0 (.new 18) 3 := by decide +kernel
theorem d11_3 : DC cb41 3 .dup 1 := by decide +kernel
theorem d11_4 : DC cb41 4 (.aload_n 0) 1 := by decide +kernel
theorem d11_5 : DC cb41 5 (.invokespecial 137) 3 := by decide +kernel
theorem d11_8 : DC cb41 8 .areturn 1 := by decide +kernel
theorem pd_35 : parseMethodDescriptor "(Ljava/lang/StringBuilder;)V" = some ⟨[(.object "java/lang/StringBuilder")], none⟩ := by decide +kernel
theorem d48_0 : DC cb42 0 (.getstatic 38) 3 := by decide +kernel
theorem d48_3 : DC cb42 3 (.ifCond .eq 14) 3 := by decide +kernel
theorem d48_6 : DC cb42 6 (.aload_n 0) 1 := by decide +kernel
theorem d48_7 : DC cb42 7 (.getfield 15) 3 := by decide +kernel
theorem d48_10 : DC cb42 10 (.ifCond .ne 7) 3 := by decide +kernel
theorem d48_13 : DC cb42 13 (.iconst 1) 1 := by decide +kernel
theorem d48_14 : DC cb42 14 (.goto 4) 3 := by decide +kernel
theorem d48_18 : DC cb42 18 .ireturn 1 := by decide +kernel
theorem d50_0 : DC cb43 0 (.iload_n 0) 1 := by decide +kernel
theorem d50_1 : DC cb43 1 (.iload_n 1) 1 := by decide +kernel
theorem d50_2 : DC cb43 2 (.getstatic 1053) 3 := by decide +kernel
theorem d50_5 : DC cb43 5 (.invokestatic 1059) 3 := by decide +kernel
theorem d50_8 : DC cb43 8 .pop 1 := by decide +kernel
theorem d50_9 : DC cb43 9 .return_ 1 := by decide +kernel
theorem d49_0 : DC cb44 0 (.iload_n 1) 1 := by decide +kernel
theorem d49_1 : DC cb44 1 (.aload_n 0) 1 := by decide +kernel
theorem d49_2 : DC cb44 2 .arraylength 1 := by decide +kernel
theorem d49_3 : DC cb44 3 (.invokestatic 9) 3 := by decide +kernel
theorem d49_6 : DC cb44 6 (.aload_n 0) 1 := by decide +kernel
theorem d49_7 : DC cb44 7 (.iload_n 1) 1 := by decide +kernel
theorem d49_8 : DC cb44 8 .baload 1 := by decide +kernel
theorem d49_9 : DC cb44 9 (.sipush 255) 3 := by decide +kernel
theorem d49_12 : DC cb44 12 .iand 1 := by decide +kernel
theorem d49_13 : DC cb44 13 .i2c 1 := by decide +kernel
theorem d49_14 : DC cb44 14 .ireturn 1 := by decide +kernel
theorem d47_0 : DC cb45 0 (.aload_n 0) 1 := by decide +kernel
theorem d47_1 : DC cb45 1 (.invokevirtual 492) 3 := by decide +kernel
theorem d47_4 : DC cb45 4 (.ifCond .eq 12) 3 := by decide +kernel
theorem d47_7 : DC cb45 7 (.aload_n 0) 1 := by decide +kernel
theorem d47_8 : DC cb45 8 (.getfield 9) 3 := by decide +kernel
theorem d47_11 : DC cb45 11 (.iload_n 1) 1 := by decide +kernel
theorem d47_12 : DC cb45 12 (.invokestatic 495) 3 := by decide +kernel
theorem d47_15 : DC cb45 15 .ireturn 1 := by decide +kernel
theorem pd_36 : parseMethodDescriptor "([BI)C" = some ⟨[(.array .byte), .int], some .char⟩ := by decide +kernel
theorem d22_0 : DC cb46 0 (.aload_n 0) 1 := by decide +kernel
theorem d22_1 : DC cb46 1 (.invokevirtual 36) 3 := by decide +kernel
theorem d22_4 : DC cb46 4 (.iload_n 2) 1 := by decide +kernel
theorem d22_5 : DC cb46 5 (.if_icmp .eq 5) 3 := by decide +kernel
theorem d22_10 : DC cb46 10 (.iload_n 2) 1 := by decide +kernel
theorem d22_11 : DC cb46 11 (.ifCond .le 16) 3 := by decide +kernel
theorem d22_14 : DC cb46 14 (.aload_n 0) 1 := by decide +kernel
theorem d22_15 : DC cb46 15 (.iconst 0) 1 := by decide +kernel
theorem d22_16 : DC cb46 16 (.invokevirtual 40) 3 := by decide +kernel
theorem d22_19 : DC cb46 19 (.aload_n 1) 1 := by decide +kernel
theorem d22_20 : DC cb46 20 (.iconst 0) 1 := by decide +kernel
theorem d22_21 : DC cb46 21 .caload 1 := by decide +kernel
theorem d22_22 : DC cb46 22 (.if_icmp .eq 5) 3 := by decide +kernel
theorem d22_27 : DC cb46 27 (.iload_n 2) 1 := by decide +kernel
theorem d22_28 : DC cb46 28 (.iconst 1) 1 := by decide +kernel
theorem d22_29 : DC cb46 29 (.if_icmp .le 16) 3 := by decide +kernel
theorem d22_32 : DC cb46 32 (.aload_n 0) 1 := by decide +kernel
theorem d22_33 : DC cb46 33 (.iconst 1) 1 := by decide +kernel
theorem d22_34 : DC cb46 34 (.invokevirtual 40) 3 := by decide +kernel
theorem d22_37 : DC cb46 37 (.aload_n 1) 1 := by decide +kernel
theorem d22_38 : DC cb46 38 (.iconst 1) 1 := by decide +kernel
theorem d22_39 : DC cb46 39 .caload 1 := by decide +kernel
theorem d22_40 : DC cb46 40 (.if_icmp .eq 5) 3 := by decide +kernel
theorem d22_45 : DC cb46 45 (.iload_n 2) 1 := by decide +kernel
theorem d22_46 : DC cb46 46 (.iconst 2) 1 := by decide +kernel
theorem d22_47 : DC cb46 47 (.if_icmp .le 16) 3 := by decide +kernel
theorem d22_50 : DC cb46 50 (.aload_n 0) 1 := by decide +kernel
theorem d22_51 : DC cb46 51 (.iconst 2) 1 := by decide +kernel
theorem d22_52 : DC cb46 52 (.invokevirtual 40) 3 := by decide +kernel
theorem d22_55 : DC cb46 55 (.aload_n 1) 1 := by decide +kernel
theorem d22_56 : DC cb46 56 (.iconst 2) 1 := by decide +kernel
theorem d22_57 : DC cb46 57 .caload 1 := by decide +kernel
theorem d22_58 : DC cb46 58 (.if_icmp .eq 5) 3 := by decide +kernel
theorem d22_63 : DC cb46 63 (.iload_n 2) 1 := by decide +kernel
theorem d22_64 : DC cb46 64 (.iconst 3) 1 := by decide +kernel
theorem d22_65 : DC cb46 65 (.if_icmp .le 16) 3 := by decide +kernel
theorem d22_68 : DC cb46 68 (.aload_n 0) 1 := by decide +kernel
theorem d22_69 : DC cb46 69 (.iconst 3) 1 := by decide +kernel
theorem d22_70 : DC cb46 70 (.invokevirtual 40) 3 := by decide +kernel
theorem d22_73 : DC cb46 73 (.aload_n 1) 1 := by decide +kernel
theorem d22_74 : DC cb46 74 (.iconst 3) 1 := by decide +kernel
theorem d22_75 : DC cb46 75 .caload 1 := by decide +kernel
theorem d22_76 : DC cb46 76 (.if_icmp .eq 5) 3 := by decide +kernel
theorem d22_81 : DC cb46 81 (.iload_n 2) 1 := by decide +kernel
theorem d22_82 : DC cb46 82 (.iconst 4) 1 := by decide +kernel
theorem d22_83 : DC cb46 83 (.if_icmp .le 16) 3 := by decide +kernel
theorem d22_86 : DC cb46 86 (.aload_n 0) 1 := by decide +kernel
theorem d22_87 : DC cb46 87 (.iconst 4) 1 := by decide +kernel
theorem d22_88 : DC cb46 88 (.invokevirtual 40) 3 := by decide +kernel
theorem d22_91 : DC cb46 91 (.aload_n 1) 1 := by decide +kernel
theorem d22_92 : DC cb46 92 (.iconst 4) 1 := by decide +kernel
theorem d22_93 : DC cb46 93 .caload 1 := by decide +kernel
theorem d22_94 : DC cb46 94 (.if_icmp .eq 5) 3 := by decide +kernel
theorem d22_99 : DC cb46 99 (.iload_n 2) 1 := by decide +kernel
theorem d22_100 : DC cb46 100 (.iconst 5) 1 := by decide +kernel
theorem d22_101 : DC cb46 101 (.if_icmp .le 16) 3 := by decide +kernel
theorem d22_104 : DC cb46 104 (.aload_n 0) 1 := by decide +kernel
theorem d22_105 : DC cb46 105 (.iconst 5) 1 := by decide +kernel
theorem d22_106 : DC cb46 106 (.invokevirtual 40) 3 := by decide +kernel
theorem d22_109 : DC cb46 109 (.aload_n 1) 1 := by decide +kernel
theorem d22_110 : DC cb46 110 (.iconst 5) 1 := by decide +kernel
theorem d22_111 : DC cb46 111 .caload 1 := by decide +kernel
theorem d22_112 : DC cb46 112 (.if_icmp .eq 5) 3 := by decide +kernel
theorem d22_117 : DC cb46 117 (.iload_n 2) 1 := by decide +kernel
theorem d22_118 : DC cb46 118 (.bipush 6) 2 := by decide +kernel
theorem d22_120 : DC cb46 120 (.if_icmp .le 18) 3 := by decide +kernel
theorem d22_123 : DC cb46 123 (.aload_n 0) 1 := by decide +kernel
theorem d22_124 : DC cb46 124 (.bipush 6) 2 := by decide +kernel
theorem d22_126 : DC cb46 126 (.invokevirtual 40) 3 := by decide +kernel
theorem d22_129 : DC cb46 129 (.aload_n 1) 1 := by decide +kernel
theorem d22_130 : DC cb46 130 (.bipush 6) 2 := by decide +kernel
theorem d22_132 : DC cb46 132 .caload 1 := by decide +kernel
theorem d22_133 : DC cb46 133 (.if_icmp .eq 5) 3 := by decide +kernel
theorem d22_138 : DC cb46 138 (.iload_n 2) 1 := by decide +kernel
theorem d22_139 : DC cb46 139 (.bipush 7) 2 := by decide +kernel
theorem d22_141 : DC cb46 141 (.if_icmp .le 18) 3 := by decide +kernel
theorem d22_144 : DC cb46 144 (.aload_n 0) 1 := by decide +kernel
theorem d22_145 : DC cb46 145 (.bipush 7) 2 := by decide +kernel
theorem d22_147 : DC cb46 147 (.invokevirtual 40) 3 := by decide +kernel
theorem d22_150 : DC cb46 150 (.aload_n 1) 1 := by decide +kernel
theorem d22_151 : DC cb46 151 (.bipush 7) 2 := by decide +kernel
theorem d22_153 : DC cb46 153 .caload 1 := by decide +kernel
theorem d22_154 : DC cb46 154 (.if_icmp .eq 5) 3 := by decide +kernel
theorem d22_159 : DC cb46 159 (.iload_n 2) 1 := by decide +kernel
theorem d22_160 : DC cb46 160 (.bipush 8) 2 := by decide +kernel
theorem d22_162 : DC cb46 162 (.if_icmp .le 18) 3 := by decide +kernel
theorem d22_165 : DC cb46 165 (.aload_n 0) 1 := by decide +kernel
theorem d22_166 : DC cb46 166 (.bipush 8) 2 := by decide +kernel
theorem d22_168 : DC cb46 168 (.invokevirtual 40) 3 := by decide +kernel
theorem d22_171 : DC cb46 171 (.aload_n 1) 1 := by decide +kernel
theorem d22_172 : DC cb46 172 (.bipush 8) 2 := by decide +kernel
theorem d22_174 : DC cb46 174 .caload 1 := by decide +kernel
theorem d22_175 : DC cb46 175 (.if_icmp .eq 5) 3 := by decide +kernel
theorem d22_180 : DC cb46 180 (.iload_n 2) 1 := by decide +kernel
theorem d22_181 : DC cb46 181 (.bipush 9) 2 := by decide +kernel
theorem d22_183 : DC cb46 183 (.if_icmp .le 18) 3 := by decide +kernel
theorem d22_186 : DC cb46 186 (.aload_n 0) 1 := by decide +kernel
theorem d22_187 : DC cb46 187 (.bipush 9) 2 := by decide +kernel
theorem d22_189 : DC cb46 189 (.invokevirtual 40) 3 := by decide +kernel
theorem d22_192 : DC cb46 192 (.aload_n 1) 1 := by decide +kernel
theorem d22_193 : DC cb46 193 (.bipush 9) 2 := by decide +kernel
theorem d22_195 : DC cb46 195 .caload 1 := by decide +kernel
theorem d22_196 : DC cb46 196 (.if_icmp .eq 5) 3 := by decide +kernel
theorem d22_201 : DC cb46 201 (.iload_n 2) 1 := by decide +kernel
theorem d22_202 : DC cb46 202 (.bipush 10) 2 := by decide +kernel
theorem d22_204 : DC cb46 204 (.if_icmp .le 18) 3 := by decide +kernel
theorem d22_207 : DC cb46 207 (.aload_n 0) 1 := by decide +kernel
theorem d22_208 : DC cb46 208 (.bipush 10) 2 := by decide +kernel
theorem d22_210 : DC cb46 210 (.invokevirtual 40) 3 := by decide +kernel
theorem d22_213 : DC cb46 213 (.aload_n 1) 1 := by decide +kernel
theorem d22_214 : DC cb46 214 (.bipush 10) 2 := by decide +kernel
theorem d22_216 : DC cb46 216 .caload 1 := by decide +kernel
theorem d22_217 : DC cb46 217 (.if_icmp .eq 5) 3 := by decide +kernel
theorem d22_222 : DC cb46 222 (.iload_n 2) 1 := by decide +kernel
theorem d22_223 : DC cb46 223 (.bipush 11) 2 := by decide +kernel
theorem d22_225 : DC cb46 225 (.if_icmp .le 18) 3 := by decide +kernel
theorem d22_228 : DC cb46 228 (.aload_n 0) 1 := by decide +kernel
theorem d22_229 : DC cb46 229 (.bipush 11) 2 := by decide +kernel
theorem d22_231 : DC cb46 231 (.invokevirtual 40) 3 := by decide +kernel
theorem d22_234 : DC cb46 234 (.aload_n 1) 1 := by decide +kernel
theorem d22_235 : DC cb46 235 (.bipush 11) 2 := by decide +kernel
theorem d22_237 : DC cb46 237 .caload 1 := by decide +kernel
theorem d22_238 : DC cb46 238 (.if_icmp .eq 5) 3 := by decide +kernel
theorem d22_243 : DC cb46 243 (.iconst 1) 1 := by decide +kernel
theorem d22_244 : DC cb46 244 .ireturn 1 := by decide +kernel
theorem pn_37 : plainName "com/example/hinta/hinta/StatementTextPinLaw" = true := by first | (simp [plainName, overriddenIn]; done) | decide +kernel
theorem pd_38 : parseMethodDescriptor "(I)C" = some ⟨[.int], some .char⟩ := by decide +kernel
theorem d7_0 : DC cb47 0 (.new 44) 3 := by decide +kernel
theorem d7_3 : DC cb47 3 .dup 1 := by decide +kernel
theorem d7_4 : DC cb47 4 (.invokespecial 46) 3 := by decide +kernel
theorem d7_7 : DC cb47 7 (.astore_n 1) 1 := by decide +kernel
theorem d7_8 : DC cb47 8 (.iconst 0) 1 := by decide +kernel
theorem d7_9 : DC cb47 9 (.istore_n 2) 1 := by decide +kernel
theorem d7_10 : DC cb47 10 (.iload_n 2) 1 := by decide +kernel
theorem d7_11 : DC cb47 11 (.aload_n 0) 1 := by decide +kernel
theorem d7_12 : DC cb47 12 (.getfield 10) 3 := by decide +kernel
theorem d7_15 : DC cb47 15 (.invokeinterface 47 1) 5 := by decide +kernel
theorem d7_20 : DC cb47 20 (.if_icmp .ge 53) 3 := by decide +kernel
theorem d7_23 : DC cb47 23 (.aload_n 1) 1 := by decide +kernel
theorem d7_24 : DC cb47 24 (.aload_n 0) 1 := by decide +kernel
theorem d7_25 : DC cb47 25 (.getfield 10) 3 := by decide +kernel
theorem d7_28 : DC cb47 28 (.iload_n 2) 1 := by decide +kernel
theorem d7_29 : DC cb47 29 (.invokeinterface 38 2) 5 := by decide +kernel
theorem d7_34 : DC cb47 34 (.checkcast 42) 3 := by decide +kernel
theorem d7_37 : DC cb47 37 (.invokevirtual 51) 3 := by decide +kernel
theorem d7_40 : DC cb47 40 (.bipush 32) 2 := by decide +kernel
theorem d7_42 : DC cb47 42 (.invokevirtual 55) 3 := by decide +kernel
theorem d7_45 : DC cb47 45 (.aload_n 0) 1 := by decide +kernel
theorem d7_46 : DC cb47 46 (.getfield 16) 3 := by decide +kernel
theorem d7_49 : DC cb47 49 (.iload_n 2) 1 := by decide +kernel
theorem d7_50 : DC cb47 50 (.invokeinterface 38 2) 5 := by decide +kernel
theorem d7_55 : DC cb47 55 (.checkcast 42) 3 := by decide +kernel
theorem d7_58 : DC cb47 58 (.invokevirtual 51) 3 := by decide +kernel
theorem d7_61 : DC cb47 61 (.bipush 10) 2 := by decide +kernel
theorem d7_63 : DC cb47 63 (.invokevirtual 55) 3 := by decide +kernel
theorem d7_66 : DC cb47 66 .pop 1 := by decide +kernel
theorem d7_67 : DC cb47 67 (.iinc 2 1) 3 := by decide +kernel
theorem d7_70 : DC cb47 70 (.goto (-60)) 3 := by decide +kernel
theorem d7_73 : DC cb47 73 (.aload_n 1) 1 := by decide +kernel
theorem d7_74 : DC cb47 74 (.invokevirtual 58) 3 := by decide +kernel
theorem d7_77 : DC cb47 77 .areturn 1 := by decide +kernel
theorem pd_39 : parseMethodDescriptor "()Ljava/lang/String;" = some ⟨[], some (.object "java/lang/String")⟩ := by decide +kernel
theorem pd_40 : parseMethodDescriptor "(Ljava/lang/String;)Ljava/lang/StringBuilder;" = some ⟨[(.object "java/lang/String")], some (.object "java/lang/StringBuilder")⟩ := by decide +kernel
theorem pd_41 : parseMethodDescriptor "(C)Ljava/lang/StringBuilder;" = some ⟨[.char], some (.object "java/lang/StringBuilder")⟩ := by decide +kernel
theorem d6_0 : DC cb48 0 (.iload_n 3) 1 := by decide +kernel
theorem d6_1 : DC cb48 1 (.ifCond .ne 5) 3 := by decide +kernel
theorem d6_4 : DC cb48 4 (.iload_n 2) 1 := by decide +kernel
theorem d6_5 : DC cb48 5 .ireturn 1 := by decide +kernel
theorem d6_6 : DC cb48 6 (.iload 4) 2 := by decide +kernel
theorem d6_8 : DC cb48 8 (.sipush 255) 3 := by decide +kernel
theorem d6_11 : DC cb48 11 .iand 1 := by decide +kernel
theorem d6_12 : DC cb48 12 .i2c 1 := by decide +kernel
theorem d6_13 : DC cb48 13 (.istore 6) 2 := by decide +kernel
theorem d6_15 : DC cb48 15 (.iload 4) 2 := by decide +kernel
theorem d6_17 : DC cb48 17 (.bipush 8) 2 := by decide +kernel
theorem d6_19 : DC cb48 19 .iushr 1 := by decide +kernel
theorem d6_20 : DC cb48 20 (.sipush 255) 3 := by decide +kernel
theorem d6_23 : DC cb48 23 .iand 1 := by decide +kernel
theorem d6_24 : DC cb48 24 .i2c 1 := by decide +kernel
theorem d6_25 : DC cb48 25 (.istore 7) 2 := by decide +kernel
theorem d6_27 : DC cb48 27 (.iload 5) 2 := by decide +kernel
theorem d6_29 : DC cb48 29 (.iconst 1) 1 := by decide +kernel
theorem d6_30 : DC cb48 30 .iand 1 := by decide +kernel
theorem d6_31 : DC cb48 31 (.ifCond .eq 7) 3 := by decide +kernel
theorem d6_34 : DC cb48 34 (.iconst 1) 1 := by decide +kernel
theorem d6_35 : DC cb48 35 (.goto 4) 3 := by decide +kernel
theorem d6_38 : DC cb48 38 (.iconst 0) 1 := by decide +kernel
theorem d6_39 : DC cb48 39 (.istore 8) 2 := by decide +kernel
theorem d6_41 : DC cb48 41 (.iload 5) 2 := by decide +kernel
theorem d6_43 : DC cb48 43 (.iconst 2) 1 := by decide +kernel
theorem d6_44 : DC cb48 44 .iand 1 := by decide +kernel
theorem d6_45 : DC cb48 45 (.ifCond .eq 7) 3 := by decide +kernel
theorem d6_48 : DC cb48 48 (.iconst 1) 1 := by decide +kernel
theorem d6_49 : DC cb48 49 (.goto 4) 3 := by decide +kernel
theorem d6_52 : DC cb48 52 (.iconst 0) 1 := by decide +kernel
theorem d6_53 : DC cb48 53 (.istore 9) 2 := by decide +kernel
theorem d6_55 : DC cb48 55 (.iload 8) 2 := by decide +kernel
theorem d6_57 : DC cb48 57 (.ifCond .eq 11) 3 := by decide +kernel
theorem d6_60 : DC cb48 60 (.iload 6) 2 := by decide +kernel
theorem d6_62 : DC cb48 62 (.invokestatic 24) 3 := by decide +kernel
theorem d6_65 : DC cb48 65 (.goto 5) 3 := by decide +kernel
theorem d6_68 : DC cb48 68 (.ldc 30) 2 := by decide +kernel
theorem d6_70 : DC cb48 70 (.astore 10) 2 := by decide +kernel
theorem d6_72 : DC cb48 72 (.iload 9) 2 := by decide +kernel
theorem d6_74 : DC cb48 74 (.ifCond .eq 11) 3 := by decide +kernel
theorem d6_77 : DC cb48 77 (.iload 7) 2 := by decide +kernel
theorem d6_79 : DC cb48 79 (.invokestatic 24) 3 := by decide +kernel
theorem d6_82 : DC cb48 82 (.goto 5) 3 := by decide +kernel
theorem d6_85 : DC cb48 85 (.ldc 30) 2 := by decide +kernel
theorem d6_87 : DC cb48 87 (.astore 11) 2 := by decide +kernel
theorem d6_89 : DC cb48 89 (.aload_n 0) 1 := by decide +kernel
theorem d6_90 : DC cb48 90 (.aload 10) 2 := by decide +kernel
theorem d6_92 : DC cb48 92 (.aload 11) 2 := by decide +kernel
theorem d6_94 : DC cb48 94 (.invokevirtual 32) 3 := by decide +kernel
theorem d6_97 : DC cb48 97 .pop 1 := by decide +kernel
theorem d6_98 : DC cb48 98 (.iload_n 2) 1 := by decide +kernel
theorem d6_99 : DC cb48 99 (.istore 12) 2 := by decide +kernel
theorem d6_101 : DC cb48 101 (.iload 8) 2 := by decide +kernel
theorem d6_103 : DC cb48 103 (.ifCond .eq 15) 3 := by decide +kernel
theorem d6_106 : DC cb48 106 (.aload_n 1) 1 := by decide +kernel
theorem d6_107 : DC cb48 107 (.iload 12) 2 := by decide +kernel
theorem d6_109 : DC cb48 109 (.iload 6) 2 := by decide +kernel
theorem d6_111 : DC cb48 111 .castore 1 := by decide +kernel
theorem d6_112 : DC cb48 112 (.iload 12) 2 := by decide +kernel
theorem d6_114 : DC cb48 114 (.iconst 1) 1 := by decide +kernel
theorem d6_115 : DC cb48 115 .iadd 1 := by decide +kernel
theorem d6_116 : DC cb48 116 (.istore 12) 2 := by decide +kernel
theorem d6_118 : DC cb48 118 (.aload_n 1) 1 := by decide +kernel
theorem d6_119 : DC cb48 119 (.iload 12) 2 := by decide +kernel
theorem d6_121 : DC cb48 121 (.bipush 32) 2 := by decide +kernel
theorem d6_123 : DC cb48 123 .castore 1 := by decide +kernel
theorem d6_124 : DC cb48 124 (.iload 12) 2 := by decide +kernel
theorem d6_126 : DC cb48 126 (.iconst 1) 1 := by decide +kernel
theorem d6_127 : DC cb48 127 .iadd 1 := by decide +kernel
theorem d6_128 : DC cb48 128 (.istore 12) 2 := by decide +kernel
theorem d6_130 : DC cb48 130 (.iload 9) 2 := by decide +kernel
theorem d6_132 : DC cb48 132 (.ifCond .eq 15) 3 := by decide +kernel
theorem d6_135 : DC cb48 135 (.aload_n 1) 1 := by decide +kernel
theorem d6_136 : DC cb48 136 (.iload 12) 2 := by decide +kernel
theorem d6_138 : DC cb48 138 (.iload 7) 2 := by decide +kernel
theorem d6_140 : DC cb48 140 .castore 1 := by decide +kernel
theorem d6_141 : DC cb48 141 (.iload 12) 2 := by decide +kernel
theorem d6_143 : DC cb48 143 (.iconst 1) 1 := by decide +kernel
theorem d6_144 : DC cb48 144 .iadd 1 := by decide +kernel
theorem d6_145 : DC cb48 145 (.istore 12) 2 := by decide +kernel
theorem d6_147 : DC cb48 147 (.aload_n 1) 1 := by decide +kernel
theorem d6_148 : DC cb48 148 (.iload 12) 2 := by decide +kernel
theorem d6_150 : DC cb48 150 (.bipush 10) 2 := by decide +kernel
theorem d6_152 : DC cb48 152 .castore 1 := by decide +kernel
theorem d6_153 : DC cb48 153 (.iload 12) 2 := by decide +kernel
theorem d6_155 : DC cb48 155 (.iconst 1) 1 := by decide +kernel
theorem d6_156 : DC cb48 156 .iadd 1 := by decide +kernel
theorem d6_157 : DC cb48 157 (.istore 12) 2 := by decide +kernel
theorem d6_159 : DC cb48 159 (.iload 12) 2 := by decide +kernel
theorem d6_161 : DC cb48 161 .ireturn 1 := by decide +kernel
theorem pd_42 : parseMethodDescriptor "(C)Ljava/lang/String;" = some ⟨[.char], some (.object "java/lang/String")⟩ := by decide +kernel
theorem pd_43 : parseMethodDescriptor "(Ljava/lang/String;Ljava/lang/String;)Lcom/example/hinta/hinta/Statement;" = some ⟨[(.object "java/lang/String"), (.object "java/lang/String")], some (.object "com/example/hinta/hinta/Statement")⟩ := by decide +kernel
theorem pd_44 : parseMethodDescriptor "(Lcom/example/hinta/hinta/Statement;[CIZII)I" = some ⟨[(.object "com/example/hinta/hinta/Statement"), (.array .char), .int, .boolean, .int, .int], some .int⟩ := by decide +kernel
theorem pd_45 : parseMethodDescriptor "(Ljava/lang/String;[CI)Z" = some ⟨[(.object "java/lang/String"), (.array .char), .int], some .boolean⟩ := by decide +kernel
theorem own_wS {Z : State} {a0 : Array Value} (hw : ∀ d ∈ tables_1, d.before a0 Z = true) : ∀ a ∈ Bundle.stringAtoms, a.before a0 Z = true := by
  intro d hd
  simp only [Bundle.stringAtoms, List.mem_cons, List.not_mem_nil, or_false] at hd
  rcases hd with rfl | rfl | rfl | rfl | rfl | rfl | rfl
  · first | exact (wd hw 61 rfl) | exact (wd hw 84 rfl) | exact (wd hw 62 rfl) | exact (wd hw 135 rfl) | exact (wd hw 115 rfl) | exact (wd hw 201 rfl) | exact (wd hw 202 rfl)
  · first | exact (wd hw 61 rfl) | exact (wd hw 84 rfl) | exact (wd hw 62 rfl) | exact (wd hw 135 rfl) | exact (wd hw 115 rfl) | exact (wd hw 201 rfl) | exact (wd hw 202 rfl)
  · first | exact (wd hw 61 rfl) | exact (wd hw 84 rfl) | exact (wd hw 62 rfl) | exact (wd hw 135 rfl) | exact (wd hw 115 rfl) | exact (wd hw 201 rfl) | exact (wd hw 202 rfl)
  · first | exact (wd hw 61 rfl) | exact (wd hw 84 rfl) | exact (wd hw 62 rfl) | exact (wd hw 135 rfl) | exact (wd hw 115 rfl) | exact (wd hw 201 rfl) | exact (wd hw 202 rfl)
  · first | exact (wd hw 61 rfl) | exact (wd hw 84 rfl) | exact (wd hw 62 rfl) | exact (wd hw 135 rfl) | exact (wd hw 115 rfl) | exact (wd hw 201 rfl) | exact (wd hw 202 rfl)
  · first | exact (wd hw 61 rfl) | exact (wd hw 84 rfl) | exact (wd hw 62 rfl) | exact (wd hw 135 rfl) | exact (wd hw 115 rfl) | exact (wd hw 201 rfl) | exact (wd hw 202 rfl)
  · first | exact (wd hw 61 rfl) | exact (wd hw 84 rfl) | exact (wd hw 62 rfl) | exact (wd hw 135 rfl) | exact (wd hw 115 rfl) | exact (wd hw 201 rfl) | exact (wd hw 202 rfl)
theorem own_EW {Z : State} {a0 : Array Value} (hw : ∀ d ∈ tables_1, d.before a0 Z = true) : EW Z a0 consts_1 := (EW.cons (wd hw 200 rfl) (by decide) EW.nil)
theorem own_arvty {Z : State} {h : Heap} {a b : Addr} {k k' : ClassId} {t t' : FieldType} {z z' : Int32} {vs vs' : List Value} {d d' : Value} (A : Arv Z h a k t z vs d) (B : Arv Z h b k' t' z' vs' d') (q : t ≠ t') : a ≠ b := fun e => by
  subst e
  obtain ⟨c, ⟨A1, ⟨-, kA, hA, cA, eA⟩, -⟩, -⟩ := A
  obtain ⟨c', ⟨B1, ⟨-, kB, hB, cB, eB⟩, -⟩, -⟩ := B
  cases A1.symm.trans B1
  cases hA.symm.trans hB
  have := eA.symm.trans eB
  injection this with _ e
  exact q e
def own_vb (us : List Int32) : List Value := us.map fun c => .int c.toInt8.toInt32
def own_vc (us : List Int32) : List Value := us.map fun c => .int c
theorem own_nb (c : Int32) : nar .byte (c.toInt8.toInt32) = c.toInt8.toInt32 := by
  show (c.toInt8.toInt32).toInt8.toInt32 = _
  rw [Int8.toInt8_toInt32]
theorem ef_5 (m : MethodId) (x0 : Addr) : entryFrame m #[(.ref x0)] 1 = mkF m 0 #[.val (.ref x0)] [] := by first | (simp [entryFrame, mkF, argsToLocals, Value.category]; done) | rfl
def Q5 (Z : State) (a1 : Addr) (h0 : Heap) (n0 : Nat) (v : Option Value) (h : Heap) (L : List Loc) : Prop := v = none ∧ Fr n0 L ∧ h = h0
theorem rm5 (l : Launch) (Z : State) (a0 : Array Value) (hw : ∀ d ∈ tables_1, d.before a0 Z = true) (ws : List Jvm.Cond) (a1 : Addr) (h0 : Heap) (n0 : Nat) (Z0 : n0 ≤ h0.size)  :
 CT l Z mn0 jdk_22_method_1_code 1 none ws (⟨1, 0, 0, 12⟩ : Room) #[(.ref a1)] h0 (Q5 Z a1 h0 n0) := by
 refine MetFree.of_bodySF (plainFor_of_name pn_0) hisR ?_
 intro p e s m args below meth c s₁ Bd hml0 hP hK
 obtain ⟨rfl, hZ, hh⟩ := hP
 have hx := Bd.exec
 have hby := Bd.bytes
 have hml : c.maxLocals = 1 := hml0
 have hown : s.vm.findClass "java/util/AbstractCollection" = some m.cls := findClass_of_methodNamed Bd.named
 have hnm := (name_of_methodNamed Bd.named Bd.method).1
 have hlocks : meth.locks = false := BodyLoose.notSynchronized Bd
 have X0 : Stand p l e (⟨1, 0, 0, 12⟩ : Room) s m #[(.ref a1)] below meth c s₁ [] 0 0 := Stand.of_body Bd
 have e0 : s₁.heap = h0 := by rw [← hh, Bd.state]; rfl
 have N0 := Fr.nil n0
 show Goes p e below (s₁.setTop (entryFrame m #[(.ref a1)] 1)) (Fin s (Q5 Z a1 h0 n0) (⟨1, 0, 0, 12⟩ : Room).cells (⟨1, 0, 0, 12⟩ : Room).slots)
 refine Goes.of (fun t k => castTop (ef_5 m a1) k) ?_
 refine gO (fun t k => XS.aloadN X0.here hx rfl (hb hby d5_0) rfl rfl k) ?_
 obtain ⟨T100, X100, e100, st100⟩ := initO X0 hx hZ hown (wd hw 28 rfl) (wd hw 8 rfl) (wd hw 9 rfl) e0 (g := (mkF m 1 #[.val (.ref a1)] [(.ref a1)])) rfl (by rw [hml]; rfl) rfl (hb hby d5_1) (by decide) (W := 0) (wr0 rfl rfl) (by decide)
 refine Goes.of st100 ?_
 show Goes p e below (T100.setTop (mkF m 4 #[.val (.ref a1)] [])) _
 exact Goes.retV X100 hx Bd.returns hlocks (hb hby d5_4) (⟨rfl, N0, e100⟩) (by decide) (by decide)
theorem ef_4 (m : MethodId) (x0 : Addr) : entryFrame m #[(.ref x0)] 1 = mkF m 0 #[.val (.ref x0)] [] := by first | (simp [entryFrame, mkF, argsToLocals, Value.category]; done) | rfl
def Q4 (Z : State) (a1 : Addr) (h0 : Heap) (n0 : Nat) (v : Option Value) (h : Heap) (L : List Loc) : Prop := v = none ∧ Fr n0 L ∧ Keep h0 h [a1] ∧ Exa Z h a1 "java/util/ArrayList" ∧ Fl0 Z h a1 .null ∧ Fl1 Z h a1 (.int 0) ∧ Fl2 Z h a1 (.int 0)
theorem rm4 (l : Launch) (Z : State) (a0 : Array Value) (hw : ∀ d ∈ tables_1, d.before a0 Z = true) (ws : List Jvm.Cond) (a1 : Addr) (h0 : Heap) (n0 : Nat) (Z0 : n0 ≤ h0.size) (E_a1 : Exa Z h0 a1 "java/util/ArrayList") (F_e_a1 : Fl0 Z h0 a1 .null) (F_s_a1 : Fl1 Z h0 a1 (.int 0)) (F_m_a1 : Fl2 Z h0 a1 (.int 0)) (G_a1 : n0 ≤ a1) :
 CT l Z mn1 jdk_39_method_1_code 1 none ws (⟨2, 0, 0, 24⟩ : Room) #[(.ref a1)] h0 (Q4 Z a1 h0 n0) := by
 refine MetFree.of_bodySF (plainFor_of_name pn_1) hisR ?_
 intro p e s m args below meth c s₁ Bd hml0 hP hK
 obtain ⟨rfl, hZ, hh⟩ := hP
 have hx := Bd.exec
 have hby := Bd.bytes
 have hml : c.maxLocals = 1 := hml0
 have hown : s.vm.findClass "java/util/AbstractList" = some m.cls := findClass_of_methodNamed Bd.named
 have hnm := (name_of_methodNamed Bd.named Bd.method).1
 have hlocks : meth.locks = false := BodyLoose.notSynchronized Bd
 have X0 : Stand p l e (⟨2, 0, 0, 24⟩ : Room) s m #[(.ref a1)] below meth c s₁ [] 0 0 := Stand.of_body Bd
 have e0 : s₁.heap = h0 := by rw [← hh, Bd.state]; rfl
 have N0 := Fr.nil n0
 show Goes p e below (s₁.setTop (entryFrame m #[(.ref a1)] 1)) (Fin s (Q4 Z a1 h0 n0) (⟨2, 0, 0, 24⟩ : Room).cells (⟨2, 0, 0, 24⟩ : Room).slots)
 refine Goes.of (fun t k => castTop (ef_4 m a1) k) ?_
 have K0 : Keep h0 h0 [a1] := Keep.refl _ _
 refine gO (fun t k => XS.aloadN X0.here hx rfl (hb hby d4_0) rfl rfl k) ?_
 obtain ⟨_, _, ⟨T100, L100, k100, n100⟩, -, X100, ⟨Lc100, hQ100, l100, y100, z100⟩, st100⟩ := X0.specialBack hx (y := mn0) rfl hown (mvT hZ (wd hw 22 rfl)) (mvT hZ (wd hw 23 rfl)) (mvT hZ (wd hw 27 rfl)) (by decide) (backOf (W := 0) (rm5 l Z a0 hw [] a1  h0 n0 Z0 ) hZ (wd hw 27 rfl) (wd hw 26 rfl) (by decide) (by decide)) (g := (mkF m 1 #[.val (.ref a1)] [(.ref a1)])) rfl (by rw [hml]; rfl) (Steps.refl _) (a := a1) (argsL := []) (rest := []) (lenOf pd_2 rfl) rfl (wr0 rfl rfl) (hb hby d4_1) (fun _ _ => ⟨rfl, e0, (by decide : 0 + 0 ≤ _), (by decide : 0 + 0 ≤ _)⟩)
 dsimp only [Pt.U, Pt.locs, Pt.cells, Pt.slots] at X100 l100 y100 z100 st100 hQ100
 subst l100 y100 z100
 obtain ⟨rfl, N100q, e100⟩ := hQ100
 have N100 := Fr.app N0 N100q
 refine Goes.of (fun t k => st100.trans k) ?_
 refine gO (fun t k => XS.aloadN X100.here hx rfl (hb hby d4_4) rfl rfl k) ?_
 refine gO (fun t k => XS.iconst X100.here hx rfl (hb hby d4_5) k) ?_
 show Goes p e below (T100.setTop (mkF m 6 #[.val (.ref a1)] [(.int 0), (.ref a1)])) _
 obtain ⟨T101, h101, X101, e101, W101, st101⟩ := putF X100 hx hZ hown (host := "") (Or.inl (wd hw 29 rfl)) Via.refl e100 F_m_a1 E_a1 (Or.inl (wd hw 30 rfl)) (wd hw 11 rfl) (ty := .int) (by decide) rfl rfl (g := (mkF m 6 #[.val (.ref a1)] [(.int 0), (.ref a1)])) rfl rfl (hb hby d4_6)
 have f102 := F_m_a1.same W101
 have K103 : Keep h0 h101 [a1] := K0.wr W101 (Or.inl (List.mem_of_getElem? (i := 0) rfl))
 have f105 := F_e_a1.other W101 (Or.inr (slot_ne (Or.inl (wd hw 33 rfl)) (Or.inl (wd hw 30 rfl)) (by decide) (t := (.array (.object "java/lang/Object"))) (t' := .int) (by decide) (by decide)))
 have f106 := F_s_a1.other W101 (Or.inr (slot_ne (Or.inl (wd hw 77 rfl)) (Or.inl (wd hw 30 rfl)) (by decide) (t := .int) (t' := .int) (by decide) (by decide)))
 have f108 := E_a1.wr W101
 have N101 := Fr.snoc X101 N100 G_a1
 refine Goes.of st101 ?_
 show Goes p e below (T101.setTop (mkF m 9 #[.val (.ref a1)] [])) _
 have eh : T101.heap = h101 := e101
 exact Goes.retV X101 hx Bd.returns hlocks (hb hby d4_9) (⟨rfl, N101, by rw [eh]; exact K103, by rw [eh]; exact f108, by rw [eh]; exact f105, by rw [eh]; exact f106, by rw [eh]; exact f102⟩) (by decide) (by decide)
theorem ef_3 (m : MethodId) (x0 : Addr) : entryFrame m #[(.ref x0)] 1 = mkF m 0 #[.val (.ref x0)] [] := by first | (simp [entryFrame, mkF, argsToLocals, Value.category]; done) | rfl
def Q3 (Z : State) (a1 aE : Addr) (h0 : Heap) (n0 : Nat) (v : Option Value) (h : Heap) (L : List Loc) : Prop := v = none ∧ Fr n0 L ∧ Keep h0 h [a1] ∧ Exa Z h a1 "java/util/ArrayList" ∧ Fl0 Z h a1 (.ref aE) ∧ Fl1 Z h a1 (.int 0) ∧ Fl2 Z h a1 (.int 0)
theorem rm3 (l : Launch) (Z : State) (a0 : Array Value) (hw : ∀ d ∈ tables_1, d.before a0 Z = true) (ws : List Jvm.Cond) (a1 aE : Addr) (h0 : Heap) (n0 : Nat) (Z0 : n0 ≤ h0.size) (O0 : Old Z n0 h0) (SE : Sta Z Z.heap "java/util/ArrayList" "DEFAULTCAPACITY_EMPTY_ELEMENTDATA" "[Ljava/lang/Object;" (.ref aE)) (E_a1 : Exa Z h0 a1 "java/util/ArrayList") (F_e_a1 : Fl0 Z h0 a1 .null) (F_s_a1 : Fl1 Z h0 a1 (.int 0)) (F_m_a1 : Fl2 Z h0 a1 (.int 0)) (G_a1 : n0 ≤ a1) :
 CT l Z mn2 jdk_38_method_2_code 1 none ws (⟨3, 0, 0, 36⟩ : Room) #[(.ref a1)] h0 (Q3 Z a1 aE h0 n0) := by
 refine MetFree.of_bodySF (plainFor_of_name pn_3) hisR ?_
 intro p e s m args below meth c s₁ Bd hml0 hP hK
 obtain ⟨rfl, hZ, hh⟩ := hP
 have hx := Bd.exec
 have hby := Bd.bytes
 have hml : c.maxLocals = 1 := hml0
 have hown : s.vm.findClass "java/util/ArrayList" = some m.cls := findClass_of_methodNamed Bd.named
 have hnm := (name_of_methodNamed Bd.named Bd.method).1
 have hlocks : meth.locks = false := BodyLoose.notSynchronized Bd
 have X0 : Stand p l e (⟨3, 0, 0, 36⟩ : Room) s m #[(.ref a1)] below meth c s₁ [] 0 0 := Stand.of_body Bd
 have e0 : s₁.heap = h0 := by rw [← hh, Bd.state]; rfl
 have N0 := Fr.nil n0
 show Goes p e below (s₁.setTop (entryFrame m #[(.ref a1)] 1)) (Fin s (Q3 Z a1 aE h0 n0) (⟨3, 0, 0, 36⟩ : Room).cells (⟨3, 0, 0, 36⟩ : Room).slots)
 refine Goes.of (fun t k => castTop (ef_3 m a1) k) ?_
 have K0 : Keep h0 h0 [a1] := Keep.refl _ _
 refine gO (fun t k => XS.aloadN X0.here hx rfl (hb hby d3_0) rfl rfl k) ?_
 obtain ⟨_, _, ⟨T100, L100, k100, n100⟩, -, X100, ⟨Lc100, hQ100, l100, y100, z100⟩, st100⟩ := X0.specialBack hx (y := mn1) rfl hown (mvT hZ (wd hw 16 rfl)) (mvT hZ (wd hw 17 rfl)) (mvT hZ (wd hw 21 rfl)) (by decide) (backOf (W := 0) (rm4 l Z a0 hw [] a1  h0 n0 Z0 E_a1 F_e_a1 F_s_a1 F_m_a1 G_a1) hZ (wd hw 21 rfl) (wd hw 20 rfl) (by decide) (by decide)) (g := (mkF m 1 #[.val (.ref a1)] [(.ref a1)])) rfl (by rw [hml]; rfl) (Steps.refl _) (a := a1) (argsL := []) (rest := []) (lenOf pd_2 rfl) rfl (wr0 rfl rfl) (hb hby d3_1) (fun _ _ => ⟨rfl, e0, (by decide : 0 + 0 ≤ _), (by decide : 0 + 0 ≤ _)⟩)
 dsimp only [Pt.U, Pt.locs, Pt.cells, Pt.slots] at X100 l100 y100 z100 st100 hQ100
 subst l100 y100 z100
 obtain ⟨rfl, N100q, K100, E100, F100_e, F100_s, F100_m⟩ := hQ100
 have N100 := Fr.app N0 N100q
 have K101 : Keep h0 T100.heap [a1] := K0.trans K100 (allS (Or.inl (List.mem_of_getElem? (i := 0) rfl)) all0)
 have f103 := O0.keep K100 (allS G_a1 all0)
 refine Goes.of (fun t k => st100.trans k) ?_
 refine gO (fun t k => XS.aloadN X100.here hx rfl (hb hby d3_4) rfl rfl k) ?_
 obtain ⟨T108, X108, e108, st108⟩ := getS2 X100 hx hZ hown (host := "") (Or.inl (wd hw 31 rfl)) Via.refl rfl (SE.ext f103.2) (g := (mkF m 5 #[.val (.ref a1)] [(.ref a1)])) rfl (hb hby d3_5)
 refine Goes.of st108 ?_
 obtain ⟨T109, h109, X109, e109, W109, st109⟩ := putF X108 hx hZ hown (host := "") (Or.inl (wd hw 32 rfl)) Via.refl e108 F100_e E100 (Or.inl (wd hw 33 rfl)) (wd hw 11 rfl) (ty := (.array (.object "java/lang/Object"))) (by decide) rfl rfl (g := (mkF m 8 #[.val (.ref a1)] [(.ref aE), (.ref a1)])) rfl rfl (hb hby d3_8)
 have f110 := F100_e.same W109
 have K111 : Keep h0 h109 [a1] := K101.wr W109 (Or.inl (List.mem_of_getElem? (i := 0) rfl))
 have f114 := E100.wr W109
 have f116 := F100_s.other W109 (Or.inr (slot_ne (Or.inl (wd hw 77 rfl)) (Or.inl (wd hw 33 rfl)) (by decide) (t := .int) (t' := (.array (.object "java/lang/Object"))) (by decide) (by decide)))
 have f117 := F100_m.other W109 (Or.inr (slot_ne (Or.inl (wd hw 30 rfl)) (Or.inl (wd hw 33 rfl)) (by decide) (t := .int) (t' := (.array (.object "java/lang/Object"))) (by decide) (by decide)))
 have N109 := Fr.snoc X109 N100 G_a1
 refine Goes.of st109 ?_
 show Goes p e below (T109.setTop (mkF m 11 #[.val (.ref a1)] [])) _
 have eh : T109.heap = h109 := e109
 exact Goes.retV X109 hx Bd.returns hlocks (hb hby d3_11) (⟨rfl, N109, by rw [eh]; exact K111, by rw [eh]; exact f114, by rw [eh]; exact f110, by rw [eh]; exact f116, by rw [eh]; exact f117⟩) (by decide) (by decide)
theorem ef_1 (m : MethodId) (x0 : Addr) : entryFrame m #[(.ref x0)] 1 = mkF m 0 #[.val (.ref x0)] [] := by first | (simp [entryFrame, mkF, argsToLocals, Value.category]; done) | rfl
def Q1 (Z : State) (a1 aE : Addr) (h0 : Heap) (n0 : Nat) (v : Option Value) (h : Heap) (L : List Loc) : Prop := ∃ x y : Addr, v = none ∧ Fr n0 L ∧ Keep h0 h [a1] ∧ h0.size ≤ x ∧ h0.size ≤ y ∧ x ≠ y ∧ Exa Z h a1 "com/example/hinta/hinta/Statement" ∧ Fl3 Z h a1 (.ref x) ∧ Fl4 Z h a1 (.ref y) ∧ Exa Z h x "java/util/ArrayList" ∧ Fl0 Z h x (.ref aE) ∧ Fl1 Z h x (.int 0) ∧ Fl2 Z h x (.int 0) ∧ Exa Z h y "java/util/ArrayList" ∧ Fl0 Z h y (.ref aE) ∧ Fl1 Z h y (.int 0) ∧ Fl2 Z h y (.int 0)
theorem rm1 (l : Launch) (Z : State) (a0 : Array Value) (hw : ∀ d ∈ tables_1, d.before a0 Z = true) (ws : List Jvm.Cond) (a1 aE : Addr) (h0 : Heap) (n0 : Nat) (Z0 : n0 ≤ h0.size) (O0 : Old Z n0 h0) (SE : Sta Z Z.heap "java/util/ArrayList" "DEFAULTCAPACITY_EMPTY_ELEMENTDATA" "[Ljava/lang/Object;" (.ref aE)) (E_a1 : Exa Z h0 a1 "com/example/hinta/hinta/Statement") (F_k_a1 : Fl3 Z h0 a1 .null) (F_v_a1 : Fl4 Z h0 a1 .null) (G_a1 : n0 ≤ a1) :
 CT l Z mn3 prog_26_method_1_code 1 none ws (⟨4, 2, 6, 50⟩ : Room) #[(.ref a1)] h0 (Q1 Z a1 aE h0 n0) := by
 refine MetFree.of_bodySF (plainFor_of_name pn_4) hisR ?_
 intro p e s m args below meth c s₁ Bd hml0 hP hK
 obtain ⟨rfl, hZ, hh⟩ := hP
 have hx := Bd.exec
 have hby := Bd.bytes
 have hml : c.maxLocals = 1 := hml0
 have hown : s.vm.findClass "com/example/hinta/hinta/Statement" = some m.cls := findClass_of_methodNamed Bd.named
 have hnm := (name_of_methodNamed Bd.named Bd.method).1
 have hlocks : meth.locks = false := BodyLoose.notSynchronized Bd
 have X0 : Stand p l e (⟨4, 2, 6, 50⟩ : Room) s m #[(.ref a1)] below meth c s₁ [] 0 0 := Stand.of_body Bd
 have e0 : s₁.heap = h0 := by rw [← hh, Bd.state]; rfl
 have N0 := Fr.nil n0
 show Goes p e below (s₁.setTop (entryFrame m #[(.ref a1)] 1)) (Fin s (Q1 Z a1 aE h0 n0) (⟨4, 2, 6, 50⟩ : Room).cells (⟨4, 2, 6, 50⟩ : Room).slots)
 refine Goes.of (fun t k => castTop (ef_1 m a1) k) ?_
 have K0 : Keep h0 h0 [a1] := Keep.refl _ _
 refine gO (fun t k => XS.aloadN X0.here hx rfl (hb hby d1_0) rfl rfl k) ?_
 obtain ⟨T100, X100, e100, st100⟩ := initO X0 hx hZ hown (wd hw 7 rfl) (wd hw 8 rfl) (wd hw 9 rfl) e0 (g := (mkF m 1 #[.val (.ref a1)] [(.ref a1)])) rfl (by rw [hml]; rfl) rfl (hb hby d1_1) (by decide) (W := 0) (wr0 rfl rfl) (by decide)
 refine Goes.of st100 ?_
 refine gO (fun t k => XS.aloadN X100.here hx rfl (hb hby d1_4) rfl rfl k) ?_
 obtain ⟨T101, h101, X101, e101, E101, A101, D101, -, st101⟩ := newO X100 hx hZ hown (wd hw 10 rfl) (wd hw 11 rfl) (wd hw 12 rfl) e100 (g := (mkF m 5 #[.val (.ref a1)] [(.ref a1)])) rfl (hb hby d1_5) (by decide) (by decide)
 obtain ⟨b101, g101⟩ : ∃ z, z = h0.size := ⟨_, rfl⟩
 rw [← g101] at A101 D101 st101
 have g102 : n0 ≤ b101 := Nat.le_trans Z0 (Nat.le_of_eq g101.symm)
 have z103 := Nat.le_trans Z0 E101.1
 have z104 : h0.size ≤ b101 := Nat.le_trans K0.1 (Nat.le_of_eq g101.symm)
 have q105 : a1 ≠ b101 := Nat.ne_of_lt (Nat.lt_of_lt_of_le F_k_a1.lt (Nat.le_of_eq g101.symm))
 have f106 := O0.ext E101
 have f107 := F_k_a1.ext E101
 have f108 := F_v_a1.ext E101
 have f109 := E_a1.ext E101
 have K110 : Keep h0 h101 [a1] := K0.ext E101
 have f111 : Fld Z h101 b101 "java/util/AbstractList" "modCount" "I" (.int 0) := D101 (Or.inl (wd hw 30 rfl)) (ty := .int) (by decide)
 have f112 : Fld Z h101 b101 "java/util/ArrayList" "elementData" "[Ljava/lang/Object;" .null := D101 (Or.inl (wd hw 33 rfl)) (ty := (.array (.object "java/lang/Object"))) (by decide)
 have f113 : Fld Z h101 b101 "java/util/ArrayList" "size" "I" (.int 0) := D101 (Or.inl (wd hw 77 rfl)) (ty := .int) (by decide)
 refine Goes.of st101 ?_
 refine gO (fun t k => XS.dup X101.here hx rfl (hb hby d1_8) rfl rfl k) ?_
 show Goes p e below (T101.setTop (mkF m 9 #[.val (.ref a1)] [(.ref b101), (.ref b101), (.ref a1)])) _
 obtain ⟨_, _, ⟨T114, L114, k114, n114⟩, -, X114, ⟨Lc114, hQ114, l114, y114, z114⟩, st114⟩ := X101.specialBack hx (y := mn2) rfl hown (mvT hZ (wd hw 13 rfl)) (mvT hZ (wd hw 14 rfl)) (mvT hZ (wd hw 15 rfl)) (by decide) (backOf (W := 2) (rm3 l Z a0 hw [] b101 aE h101 n0 z103 f106 SE A101 f112 f113 f111 g102) hZ (wd hw 15 rfl) (wd hw 12 rfl) (by decide) (by decide)) (g := (mkF m 9 #[.val (.ref a1)] [(.ref b101), (.ref b101), (.ref a1)])) rfl (by rw [hml]; rfl) (Steps.refl _) (a := b101) (argsL := []) (rest := [(.ref b101), (.ref a1)]) (lenOf pd_2 rfl) rfl (wr0 rfl rfl) (hb hby d1_9) (fun _ _ => ⟨rfl, e101, (by decide : 1 + 0 ≤ _), (by decide : 3 + 0 ≤ _)⟩)
 dsimp only [Pt.U, Pt.locs, Pt.cells, Pt.slots] at X114 l114 y114 z114 st114 hQ114
 subst l114 y114 z114
 obtain ⟨rfl, N114q, K114, E114, F114_e, F114_s, F114_m⟩ := hQ114
 have N114 := Fr.app N0 N114q
 have K115 : Keep h0 T114.heap [a1] := K110.trans K114 (allS (Or.inr z104) all0)
 have z116 := Nat.le_trans z103 K114.1
 have f117 := f106.keep K114 (allS g102 all0)
 have f118 := f107.keep K114 (ninS q105 nin0)
 have f119 := f108.keep K114 (ninS q105 nin0)
 have f120 := f109.keep K114
 refine Goes.of (fun t k => st114.trans k) ?_
 obtain ⟨T125, h125, X125, e125, W125, st125⟩ := putF X114 hx hZ hown (host := "") (Or.inl (wd hw 34 rfl)) Via.refl rfl f118 f120 (Or.inr ⟨(wd hw 35 rfl), rfl, hnm⟩) (wd hw 2 rfl) (ty := (.object "java/util/List")) (by decide) rfl rfl (g := (mkF m 12 #[.val (.ref a1)] [(.ref b101), (.ref a1)])) rfl rfl (hb hby d1_12)
 have f126 := f118.same W125
 have K127 : Keep h0 h125 [a1] := K115.wr W125 (Or.inl (List.mem_of_getElem? (i := 0) rfl))
 have z128 := Nat.le_trans z116 (Keep.of_wr W125).1
 have f129 := f117.wr W125 G_a1
 have f131 := f119.other W125 (Or.inr (slot_ne (Or.inr (wd hw 37 rfl)) (Or.inr (wd hw 35 rfl)) (by decide) (t := (.object "java/util/List")) (t' := (.object "java/util/List")) (by decide) (by decide)))
 have f132 := f120.wr W125
 have f133 := E114.wr W125
 have f134 := F114_e.other W125 (Or.inl (Ne.symm q105))
 have f135 := F114_s.other W125 (Or.inl (Ne.symm q105))
 have f136 := F114_m.other W125 (Or.inl (Ne.symm q105))
 have N125 := Fr.snoc X125 N114 G_a1
 refine Goes.of st125 ?_
 refine gO (fun t k => XS.aloadN X125.here hx rfl (hb hby d1_15) rfl rfl k) ?_
 obtain ⟨T137, h137, X137, e137, E137, A137, D137, -, st137⟩ := newO X125 hx hZ hown (wd hw 10 rfl) (wd hw 11 rfl) (wd hw 12 rfl) e125 (g := (mkF m 16 #[.val (.ref a1)] [(.ref a1)])) rfl (hb hby d1_16) (by decide) (by decide)
 obtain ⟨b137, g137⟩ : ∃ z, z = h125.size := ⟨_, rfl⟩
 rw [← g137] at A137 D137 st137
 have g138 : n0 ≤ b137 := Nat.le_trans z128 (Nat.le_of_eq g137.symm)
 have z139 := Nat.le_trans z128 E137.1
 have z140 : h0.size ≤ b137 := Nat.le_trans K127.1 (Nat.le_of_eq g137.symm)
 have q141 : a1 ≠ b137 := Nat.ne_of_lt (Nat.lt_of_lt_of_le f126.lt (Nat.le_of_eq g137.symm))
 have q142 : b101 ≠ b137 := Nat.ne_of_lt (Nat.lt_of_lt_of_le f133.lt (Nat.le_of_eq g137.symm))
 have f143 := f129.ext E137
 have f144 := f126.ext E137
 have f145 := f131.ext E137
 have f146 := f132.ext E137
 have f147 := f133.ext E137
 have f148 := f134.ext E137
 have f149 := f135.ext E137
 have f150 := f136.ext E137
 have K151 : Keep h0 h137 [a1] := K127.ext E137
 have f152 : Fld Z h137 b137 "java/util/AbstractList" "modCount" "I" (.int 0) := D137 (Or.inl (wd hw 30 rfl)) (ty := .int) (by decide)
 have f153 : Fld Z h137 b137 "java/util/ArrayList" "elementData" "[Ljava/lang/Object;" .null := D137 (Or.inl (wd hw 33 rfl)) (ty := (.array (.object "java/lang/Object"))) (by decide)
 have f154 : Fld Z h137 b137 "java/util/ArrayList" "size" "I" (.int 0) := D137 (Or.inl (wd hw 77 rfl)) (ty := .int) (by decide)
 refine Goes.of st137 ?_
 refine gO (fun t k => XS.dup X137.here hx rfl (hb hby d1_19) rfl rfl k) ?_
 obtain ⟨_, _, ⟨T155, L155, k155, n155⟩, -, X155, ⟨Lc155, hQ155, l155, y155, z155⟩, st155⟩ := X137.specialBack hx (y := mn2) rfl hown (mvT hZ (wd hw 13 rfl)) (mvT hZ (wd hw 14 rfl)) (mvT hZ (wd hw 15 rfl)) (by decide) (backOf (W := 2) (rm3 l Z a0 hw [] b137 aE h137 n0 z139 f143 SE A137 f153 f154 f152 g138) hZ (wd hw 15 rfl) (wd hw 12 rfl) (by decide) (by decide)) (g := (mkF m 20 #[.val (.ref a1)] [(.ref b137), (.ref b137), (.ref a1)])) rfl (by rw [hml]; rfl) (Steps.refl _) (a := b137) (argsL := []) (rest := [(.ref b137), (.ref a1)]) (lenOf pd_2 rfl) rfl (wr0 rfl rfl) (hb hby d1_20) (fun _ _ => ⟨rfl, e137, (by decide : 2 + 0 ≤ _), (by decide : 6 + 0 ≤ _)⟩)
 dsimp only [Pt.U, Pt.locs, Pt.cells, Pt.slots] at X155 l155 y155 z155 st155 hQ155
 subst l155 y155 z155
 obtain ⟨rfl, N155q, K155, E155, F155_e, F155_s, F155_m⟩ := hQ155
 have N155 := Fr.app N125 N155q
 have K156 : Keep h0 T155.heap [a1] := K151.trans K155 (allS (Or.inr z140) all0)
 have f159 := f144.keep K155 (ninS q141 nin0)
 have f160 := f145.keep K155 (ninS q141 nin0)
 have f161 := f146.keep K155
 have f162 := f147.keep K155
 have f163 := f148.keep K155 (ninS q142 nin0)
 have f164 := f149.keep K155 (ninS q142 nin0)
 have f165 := f150.keep K155 (ninS q142 nin0)
 refine Goes.of (fun t k => st155.trans k) ?_
 obtain ⟨T170, h170, X170, e170, W170, st170⟩ := putF X155 hx hZ hown (host := "") (Or.inl (wd hw 36 rfl)) Via.refl rfl f160 f161 (Or.inr ⟨(wd hw 37 rfl), rfl, hnm⟩) (wd hw 2 rfl) (ty := (.object "java/util/List")) (by decide) rfl rfl (g := (mkF m 23 #[.val (.ref a1)] [(.ref b137), (.ref a1)])) rfl rfl (hb hby d1_23)
 have f171 := f160.same W170
 have K172 : Keep h0 h170 [a1] := K156.wr W170 (Or.inl (List.mem_of_getElem? (i := 0) rfl))
 have f175 := f159.other W170 (Or.inr (slot_ne (Or.inr (wd hw 35 rfl)) (Or.inr (wd hw 37 rfl)) (by decide) (t := (.object "java/util/List")) (t' := (.object "java/util/List")) (by decide) (by decide)))
 have f177 := f161.wr W170
 have f178 := f162.wr W170
 have f179 := f163.other W170 (Or.inl (Ne.symm q105))
 have f180 := f164.other W170 (Or.inl (Ne.symm q105))
 have f181 := f165.other W170 (Or.inl (Ne.symm q105))
 have f182 := E155.wr W170
 have f183 := F155_e.other W170 (Or.inl (Ne.symm q141))
 have f184 := F155_s.other W170 (Or.inl (Ne.symm q141))
 have f185 := F155_m.other W170 (Or.inl (Ne.symm q141))
 have N170 := Fr.snoc X170 N155 G_a1
 refine Goes.of st170 ?_
 show Goes p e below (T170.setTop (mkF m 26 #[.val (.ref a1)] [])) _
 have eh : T170.heap = h170 := e170
 exact Goes.retV X170 hx Bd.returns hlocks (hb hby d1_26) (⟨b101, b137, rfl, N170, by rw [eh]; exact K172, z104, z140, q142, by rw [eh]; exact f177, by rw [eh]; exact f175, by rw [eh]; exact f171, by rw [eh]; exact f178, by rw [eh]; exact f179, by rw [eh]; exact f180, by rw [eh]; exact f181, by rw [eh]; exact f182, by rw [eh]; exact f183, by rw [eh]; exact f184, by rw [eh]; exact f185⟩) (by decide) (by decide)
theorem ef_34 (m : MethodId) (x0 x1 : Int32) : entryFrame m #[(.int x0), (.int x1)] 2 = mkF m 0 #[.val (.int x0), .val (.int x1)] [] := by first | (simp [entryFrame, mkF, argsToLocals, Value.category]; done) | rfl
def Q34 (Z : State)  (h0 : Heap) (n0 : Nat) (v : Option Value) (h : Heap) (L : List Loc) : Prop := v = some (.int 10) ∧ Fr n0 L ∧ h = h0
theorem rm34 (l : Launch) (Z : State) (a0 : Array Value) (hw : ∀ d ∈ tables_1, d.before a0 Z = true) (ws : List Jvm.Cond)  (h0 : Heap) (n0 : Nat) (Z0 : n0 ≤ h0.size)  :
 CT l Z mn4 jdk_29_method_65_code 2 (some .int) ws (⟨0, 0, 0, 0⟩ : Room) #[(.int 10), (.int 1)] h0 (Q34 Z  h0 n0) := by
 refine MetFree.of_bodySF (Jvm.Free.JP.mathPlain rfl (by decide +kernel)) hisR ?_
 intro p e s m args below meth c s₁ Bd hml0 hP hK
 obtain ⟨rfl, hZ, hh⟩ := hP
 have hx := Bd.exec
 have hby := Bd.bytes
 have hml : c.maxLocals = 2 := hml0
 have hown : s.vm.findClass "java/lang/Math" = some m.cls := findClass_of_methodNamed Bd.named
 have hnm := (name_of_methodNamed Bd.named Bd.method).1
 have hlocks : meth.locks = false := BodyLoose.notSynchronized Bd
 have X0 : Stand p l e (⟨0, 0, 0, 0⟩ : Room) s m #[(.int 10), (.int 1)] below meth c s₁ [] 0 0 := Stand.of_body Bd
 have e0 : s₁.heap = h0 := by rw [← hh, Bd.state]; rfl
 have N0 := Fr.nil n0
 show Goes p e below (s₁.setTop (entryFrame m #[(.int 10), (.int 1)] 2)) (Fin s (Q34 Z  h0 n0) (⟨0, 0, 0, 0⟩ : Room).cells (⟨0, 0, 0, 0⟩ : Room).slots)
 refine Goes.of (fun t k => castTop (ef_34 m (10 : Int32) (1 : Int32)) k) ?_
 refine gO (fun t k => XS.iloadN X0.here hx rfl (hb hby d34_0) rfl k) ?_
 refine gO (fun t k => XS.iloadN X0.here hx rfl (hb hby d34_1) rfl k) ?_
 refine gO (fun t k => XS.icmpNo X0.here hx rfl (hb hby d34_2) rfl (flt (by decide)).1 k) ?_
 refine gO (fun t k => XS.iloadN X0.here hx rfl (hb hby d34_5) rfl k) ?_
 show Goes p e below (s₁.setTop (mkF m 6 #[.val (.int 10), .val (.int 1)] [(.int 10)])) _
 refine gO (fun t k => XS.goto X0.here hx rfl (pc0 := 6) (pc' := 10) rfl (hb hby d34_6) (by decide) (by decide) k) ?_
 show Goes p e below (s₁.setTop (mkF m 10 #[.val (.int 10), .val (.int 1)] [(.int 10)])) _
 exact Goes.retI X0 hx Bd.returns hlocks (hb hby d34_10) (⟨rfl, N0, e0⟩) (by decide) (by decide)
theorem ef_33 (m : MethodId) (x0 : Addr) (x1 : Int32) : entryFrame m #[(.ref x0), (.int x1)] 4 = mkF m 0 #[.val (.ref x0), .val (.int x1), .unset, .unset] [] := by first | (simp [entryFrame, mkF, argsToLocals, Value.category]; done) | rfl
def Q33 (Z : State) (a1 aE : Addr) (kE : ClassId) (h0 : Heap) (n0 : Nat) (v : Option Value) (h : Heap) (L : List Loc) : Prop := ∃ (d : Addr) (k : ClassId), v = some (.ref d) ∧ Fr n0 L ∧ Keep h0 h [a1] ∧ h0.size ≤ d ∧ Ovr Z k "java/lang/Object" ∧ Exa Z h a1 "java/util/ArrayList" ∧ Fl0 Z h a1 (.ref d) ∧ Fl1 Z h a1 (.int 0) ∧ Fl2 Z h a1 (.int 1) ∧ Arv Z h d k (.object "java/lang/Object") (10 : Int32) [.null, .null, .null, .null, .null, .null, .null, .null, .null, .null] .null
theorem rm33 (l : Launch) (Z : State) (a0 : Array Value) (hw : ∀ d ∈ tables_1, d.before a0 Z = true) (ws : List Jvm.Cond) (a1 aE : Addr) (kE : ClassId) (h0 : Heap) (n0 : Nat) (Z0 : n0 ≤ h0.size) (O0 : Old Z n0 h0) (SE : Sta Z Z.heap "java/util/ArrayList" "DEFAULTCAPACITY_EMPTY_ELEMENTDATA" "[Ljava/lang/Object;" (.ref aE)) (AE : Arv Z Z.heap aE kE (.object "java/lang/Object") (0 : Int32) [] .null) (E_a1 : Exa Z h0 a1 "java/util/ArrayList") (F_e_a1 : Fl0 Z h0 a1 (.ref aE)) (F_s_a1 : Fl1 Z h0 a1 (.int 0)) (F_m_a1 : Fl2 Z h0 a1 (.int 1)) (G_a1 : n0 ≤ a1) :
 CT l Z mn5 jdk_38_method_6_code 4 (some (.array (.object "java/lang/Object"))) ws (⟨1, 1, 10, 14⟩ : Room) #[(.ref a1), (.int 1)] h0 (Q33 Z a1 aE kE h0 n0) := by
 refine MetFree.of_bodySF (plainFor_of_name pn_3) hisR ?_
 intro p e s m args below meth c s₁ Bd hml0 hP hK
 obtain ⟨rfl, hZ, hh⟩ := hP
 have hx := Bd.exec
 have hby := Bd.bytes
 have hml : c.maxLocals = 4 := hml0
 have hown : s.vm.findClass "java/util/ArrayList" = some m.cls := findClass_of_methodNamed Bd.named
 have hnm := (name_of_methodNamed Bd.named Bd.method).1
 have hlocks : meth.locks = false := BodyLoose.notSynchronized Bd
 have X0 : Stand p l e (⟨1, 1, 10, 14⟩ : Room) s m #[(.ref a1), (.int 1)] below meth c s₁ [] 0 0 := Stand.of_body Bd
 have e0 : s₁.heap = h0 := by rw [← hh, Bd.state]; rfl
 have N0 := Fr.nil n0
 show Goes p e below (s₁.setTop (entryFrame m #[(.ref a1), (.int 1)] 4)) (Fin s (Q33 Z a1 aE kE h0 n0) (⟨1, 1, 10, 14⟩ : Room).cells (⟨1, 1, 10, 14⟩ : Room).slots)
 refine Goes.of (fun t k => castTop (ef_33 m a1 (1 : Int32)) k) ?_
 have K0 : Keep h0 h0 [a1] := Keep.refl _ _
 refine gO (fun t k => XS.aloadN X0.here hx rfl (hb hby d33_0) rfl rfl k) ?_
 obtain ⟨T100, X100, e100, st100⟩ := getF X0 hx hZ hown (host := "") (Or.inl (wd hw 32 rfl)) Via.refl e0 F_e_a1 (g := (mkF m 1 #[.val (.ref a1), .val (.int 1), .unset, .unset] [(.ref a1)])) rfl rfl (hb hby d33_1)
 refine Goes.of st100 ?_
 have Vc101 := (AE.ext O0.2)
 obtain ⟨clc101, Arc101, qc101, Sc101, Nc101, Hc101, Gc101⟩ := Vc101
 refine Goes.of (X100.arraylength hx (by rw [e100]; exact Arc101.1) (State.isArrayOf_alike hZ.alike Arc101.2.1) (g := (mkF m 4 #[.val (.ref a1), .val (.int 1), .unset, .unset] [(.ref aE)])) rfl rfl (hb hby d33_4)) ?_
 rw [len_of Sc101 Nc101]
 refine gO (fun t k => XS.istoreN X100.here hx rfl (hb hby d33_5) rfl (l' := #[.val (.ref a1), .val (.int 1), .val (.int 0), .unset]) rfl k) ?_
 refine gO (fun t k => XS.iloadN X100.here hx rfl (hb hby d33_6) rfl k) ?_
 refine gO (fun t k => XS.ifNo X100.here hx rfl (hb hby d33_7) rfl ((if0 _ _).trans (flt (by decide)).2.2.1) k) ?_
 show Goes p e below (T100.setTop (mkF m 10 #[.val (.ref a1), .val (.int 1), .val (.int 0), .unset] [])) _
 refine gO (fun t k => XS.aloadN X100.here hx rfl (hb hby d33_10) rfl rfl k) ?_
 obtain ⟨T102, X102, e102, st102⟩ := getF X100 hx hZ hown (host := "") (Or.inl (wd hw 32 rfl)) Via.refl e100 F_e_a1 (g := (mkF m 11 #[.val (.ref a1), .val (.int 1), .val (.int 0), .unset] [(.ref a1)])) rfl rfl (hb hby d33_11)
 refine Goes.of st102 ?_
 obtain ⟨T103, X103, e103, st103⟩ := getS2 X102 hx hZ hown (host := "") (Or.inl (wd hw 31 rfl)) Via.refl e102 (SE.ext O0.2) (g := (mkF m 14 #[.val (.ref a1), .val (.int 1), .val (.int 0), .unset] [(.ref aE)])) rfl (hb hby d33_14)
 refine Goes.of st103 ?_
 show Goes p e below (T103.setTop (mkF m 17 #[.val (.ref a1), .val (.int 1), .val (.int 0), .unset] [(.ref aE), (.ref aE)])) _
 refine gO (fun t k => Jvm.RoadKit.acmp (g := (mkF m 17 #[.val (.ref a1), .val (.int 1), .val (.int 0), .unset] [(.ref aE), (.ref aE)])) X103 hx rfl rfl rfl (pc0 := 17) (pc' := 45) (same := true) rfl (hb hby d33_17) rfl (decide_eq_true (congrArg Value.ref rfl)) (by decide) (by decide) k) ?_
 refine gO (fun t k => XS.aloadN X103.here hx rfl (hb hby d33_45) rfl rfl k) ?_
 refine gO (fun t k => XS.bipush X103.here hx rfl (hb hby d33_46) k) ?_
 refine gO (fun t k => XS.iloadN X103.here hx rfl (hb hby d33_48) rfl k) ?_
 show Goes p e below (T103.setTop (mkF m 49 #[.val (.ref a1), .val (.int 1), .val (.int 0), .unset] [(.int 1), (.int 10), (.ref a1)])) _
 obtain ⟨_, _, ⟨T104, L104, k104, n104⟩, -, X104, ⟨Lc104, hQ104, l104, y104, z104⟩, st104⟩ := Jvm.LawKit.callS X103 hx (y := mn4) hown (mvT hZ (wd hw 194 rfl)) (mvT hZ (wd hw 195 rfl)) (mvT hZ (wd hw 128 rfl)) (mvT hZ (wd hw 196 rfl)) (by decide) (backOf (W := 1) (rm34 l Z a0 hw []   h0 n0 Z0 ) hZ (wd hw 196 rfl) (wd hw 128 rfl) (by decide) (by decide)) (g := (mkF m 49 #[.val (.ref a1), .val (.int 1), .val (.int 0), .unset] [(.int 1), (.int 10), (.ref a1)])) rfl (by rw [hml]; rfl) (argsL := [(.int 10), (.int 1)]) (rest := [(.ref a1)]) (lenOf pd_5 rfl) rfl (wr0 rfl rfl) (hb hby d33_49) (fun _ _ => ⟨rfl, e103, (by decide : 0 + 0 ≤ _), (by decide : 0 + 0 ≤ _)⟩)
 dsimp only [Pt.U, Pt.locs, Pt.cells, Pt.slots] at X104 l104 y104 z104 st104 hQ104
 subst l104 y104 z104
 obtain ⟨rfl, N104q, e104⟩ := hQ104
 have N104 := Fr.app N0 N104q
 refine Goes.of st104 ?_
 obtain ⟨T105, h105, k105, X105, e105, E105, A105, O105, st105⟩ := newR X104 hx hZ hown (wd hw 197 rfl) (wd hw 198 rfl) e104 (g := (mkF m 52 #[.val (.ref a1), .val (.int 1), .val (.int 0), .unset] [(.int 10), (.ref a1)])) rfl (hb hby d33_52) rfl (by decide) (cap := 10) (by decide) (by decide) (by decide) (by decide)
 obtain ⟨b105, g105⟩ : ∃ z, z = h0.size := ⟨_, rfl⟩
 rw [← g105] at A105 st105
 have z108 : h0.size ≤ b105 := Nat.le_trans K0.1 (Nat.le_of_eq g105.symm)
 have q110 : a1 ≠ b105 := Nat.ne_of_lt (Nat.lt_of_lt_of_le F_e_a1.lt (Nat.le_of_eq g105.symm))
 have f112 := F_e_a1.ext E105
 have f113 := F_s_a1.ext E105
 have f114 := F_m_a1.ext E105
 have f115 := E_a1.ext E105
 have K116 : Keep h0 h105 [a1] := K0.ext E105
 have V105 : Arv Z h105 b105 k105 (.object "java/lang/Object") (10 : Int32) [.null, .null, .null, .null, .null, .null, .null, .null, .null, .null] .null := (Arv.new A105 (by decide)).pad (pad_rep [] .null 10)
 refine Goes.of st105 ?_
 show Goes p e below (T105.setTop (mkF m 55 #[.val (.ref a1), .val (.int 1), .val (.int 0), .unset] [(.ref b105), (.ref a1)])) _
 refine gO (fun t k => XS.dupX1 X105.here hx rfl (hb hby d33_55) rfl rfl rfl k) ?_
 obtain ⟨T117, h117, X117, e117, W117, st117⟩ := putF X105 hx hZ hown (host := "") (Or.inl (wd hw 32 rfl)) Via.refl e105 f112 f115 (Or.inl (wd hw 33 rfl)) (wd hw 11 rfl) (ty := (.array (.object "java/lang/Object"))) (by decide) rfl rfl (g := (mkF m 56 #[.val (.ref a1), .val (.int 1), .val (.int 0), .unset] [(.ref b105), (.ref a1), (.ref b105)])) rfl rfl (hb hby d33_56)
 have f118 := f112.same W117
 have K119 : Keep h0 h117 [a1] := K116.wr W117 (Or.inl (List.mem_of_getElem? (i := 0) rfl))
 have f124 := f113.other W117 (Or.inr (slot_ne (Or.inl (wd hw 77 rfl)) (Or.inl (wd hw 33 rfl)) (by decide) (t := .int) (t' := (.array (.object "java/lang/Object"))) (by decide) (by decide)))
 have f125 := f114.other W117 (Or.inr (slot_ne (Or.inl (wd hw 30 rfl)) (Or.inl (wd hw 33 rfl)) (by decide) (t := .int) (t' := (.array (.object "java/lang/Object"))) (by decide) (by decide)))
 have f126 := f115.wr W117
 have f127 := V105.other W117 (Ne.symm q110)
 have N117 := Fr.snoc X117 N104 G_a1
 refine Goes.of st117 ?_
 show Goes p e below (T117.setTop (mkF m 59 #[.val (.ref a1), .val (.int 1), .val (.int 0), .unset] [(.ref b105)])) _
 have eh : T117.heap = h117 := e117
 exact Goes.retA X117 hx (by rfl) Bd.returns (by rfl) hlocks (hb hby d33_59) (⟨b105, _, rfl, N117, by rw [eh]; exact K119, z108, O105, by rw [eh]; exact f126, by rw [eh]; exact f118, by rw [eh]; exact f124, by rw [eh]; exact f125, by rw [eh]; exact f127⟩) (by decide) (by decide)
theorem ef_32 (m : MethodId) (x0 : Addr) : entryFrame m #[(.ref x0)] 1 = mkF m 0 #[.val (.ref x0)] [] := by first | (simp [entryFrame, mkF, argsToLocals, Value.category]; done) | rfl
def Q32 (Z : State) (a1 aE : Addr) (kE : ClassId) (h0 : Heap) (n0 : Nat) (v : Option Value) (h : Heap) (L : List Loc) : Prop := ∃ (d : Addr) (k : ClassId), v = some (.ref d) ∧ Fr n0 L ∧ Keep h0 h [a1] ∧ h0.size ≤ d ∧ Ovr Z k "java/lang/Object" ∧ Exa Z h a1 "java/util/ArrayList" ∧ Fl0 Z h a1 (.ref d) ∧ Fl1 Z h a1 (.int 0) ∧ Fl2 Z h a1 (.int 1) ∧ Arv Z h d k (.object "java/lang/Object") (10 : Int32) [.null, .null, .null, .null, .null, .null, .null, .null, .null, .null] .null
theorem rm32 (l : Launch) (Z : State) (a0 : Array Value) (hw : ∀ d ∈ tables_1, d.before a0 Z = true) (ws : List Jvm.Cond) (a1 aE : Addr) (kE : ClassId) (h0 : Heap) (n0 : Nat) (Z0 : n0 ≤ h0.size) (O0 : Old Z n0 h0) (SE : Sta Z Z.heap "java/util/ArrayList" "DEFAULTCAPACITY_EMPTY_ELEMENTDATA" "[Ljava/lang/Object;" (.ref aE)) (AE : Arv Z Z.heap aE kE (.object "java/lang/Object") (0 : Int32) [] .null) (E_a1 : Exa Z h0 a1 "java/util/ArrayList") (F_e_a1 : Fl0 Z h0 a1 (.ref aE)) (F_s_a1 : Fl1 Z h0 a1 (.int 0)) (F_m_a1 : Fl2 Z h0 a1 (.int 1)) (G_a1 : n0 ≤ a1) :
 CT l Z mn6 jdk_38_method_7_code 1 (some (.array (.object "java/lang/Object"))) ws (⟨2, 1, 10, 29⟩ : Room) #[(.ref a1)] h0 (Q32 Z a1 aE kE h0 n0) := by
 refine MetFree.of_bodySF (plainFor_of_name pn_3) hisR ?_
 intro p e s m args below meth c s₁ Bd hml0 hP hK
 obtain ⟨rfl, hZ, hh⟩ := hP
 have hx := Bd.exec
 have hby := Bd.bytes
 have hml : c.maxLocals = 1 := hml0
 have hown : s.vm.findClass "java/util/ArrayList" = some m.cls := findClass_of_methodNamed Bd.named
 have hnm := (name_of_methodNamed Bd.named Bd.method).1
 have hlocks : meth.locks = false := BodyLoose.notSynchronized Bd
 have X0 : Stand p l e (⟨2, 1, 10, 29⟩ : Room) s m #[(.ref a1)] below meth c s₁ [] 0 0 := Stand.of_body Bd
 have e0 : s₁.heap = h0 := by rw [← hh, Bd.state]; rfl
 have N0 := Fr.nil n0
 show Goes p e below (s₁.setTop (entryFrame m #[(.ref a1)] 1)) (Fin s (Q32 Z a1 aE kE h0 n0) (⟨2, 1, 10, 29⟩ : Room).cells (⟨2, 1, 10, 29⟩ : Room).slots)
 refine Goes.of (fun t k => castTop (ef_32 m a1) k) ?_
 have K0 : Keep h0 h0 [a1] := Keep.refl _ _
 refine gO (fun t k => XS.aloadN X0.here hx rfl (hb hby d32_0) rfl rfl k) ?_
 refine gO (fun t k => XS.aloadN X0.here hx rfl (hb hby d32_1) rfl rfl k) ?_
 obtain ⟨T100, X100, e100, st100⟩ := getF X0 hx hZ hown (host := "") (Or.inl (wd hw 76 rfl)) Via.refl e0 F_s_a1 (g := (mkF m 2 #[.val (.ref a1)] [(.ref a1), (.ref a1)])) rfl rfl (hb hby d32_2)
 refine Goes.of st100 ?_
 refine gO (fun t k => XS.iconst X100.here hx rfl (hb hby d32_5) k) ?_
 refine gO (fun t k => XS.iadd X100.here hx rfl (hb hby d32_6) rfl k) ?_
 show Goes p e below (T100.setTop (mkF m 7 #[.val (.ref a1)] [(.int 1), (.ref a1)])) _
 obtain ⟨cq101, q101, q101'⟩ := E_a1.cell
 obtain ⟨_, _, ⟨T101, L101, k101, n101⟩, -, X101, ⟨Lc101, hQ101, l101, y101, z101⟩, st101⟩ := X100.privateBack hx (y := mn5) hown (mvT hZ (wd hw 189 rfl)) (mvT hZ (wd hw 190 rfl)) (mvT hZ (wd hw 192 rfl)) (Cond.privateMethod_at (mvP hZ (wd hw 191 rfl) (args := #[]))) (mvT hZ (wd hw 193 rfl)) (by decide) (backOf (W := 0) (rm33 l Z a0 hw [] a1 aE kE h0 n0 Z0 O0 SE AE E_a1 F_e_a1 F_s_a1 F_m_a1 G_a1) hZ (wd hw 193 rfl) (wd hw 12 rfl) (by decide) (by decide)) (g := (mkF m 7 #[.val (.ref a1)] [(.int 1), (.ref a1)])) rfl (by rw [hml]; rfl) (Steps.refl _) (a := a1) (by rw [e100]; exact q101) q101' (argsL := [(.int 1)]) (rest := []) (lenOf pd_6 rfl) rfl (wr0 rfl rfl) (hb hby d32_7) (fun _ _ => ⟨rfl, e100, (by decide : 0 + 1 ≤ _), (by decide : 0 + 10 ≤ _)⟩)
 dsimp only [Pt.U, Pt.locs, Pt.cells, Pt.slots] at X101 l101 y101 z101 st101 hQ101
 subst l101 y101 z101
 obtain ⟨d101, k101d, rfl, N101q, K101, z101d, O101, E101, F101_e, F101_s, F101_m, V101⟩ := hQ101
 have N101 := Fr.app N0 N101q
 have z105 : h0.size ≤ d101 := Nat.le_trans K0.1 z101d
 have K106 : Keep h0 T101.heap [a1] := K0.trans K101 (allS (Or.inl (List.mem_of_getElem? (i := 0) rfl)) all0)
 refine Goes.of (fun t k => st101.trans k) ?_
 show Goes p e below (T101.setTop (mkF m 10 #[.val (.ref a1)] [(.ref d101)])) _
 have eh : T101.heap = T101.heap := rfl
 exact Goes.retA X101 hx (by rfl) Bd.returns (by rfl) hlocks (hb hby d32_10) (⟨d101, _, rfl, N101, by rw [eh]; exact K106, z105, O101, by rw [eh]; exact E101, by rw [eh]; exact F101_e, by rw [eh]; exact F101_s, by rw [eh]; exact F101_m, by rw [eh]; exact V101⟩) (by decide) (by decide)
theorem ef_31 (m : MethodId) (x0 x1 x2 : Addr) (x3 : Int32) : entryFrame m #[(.ref x0), (.ref x1), (.ref x2), (.int x3)] 4 = mkF m 0 #[.val (.ref x0), .val (.ref x1), .val (.ref x2), .val (.int x3)] [] := by first | (simp [entryFrame, mkF, argsToLocals, Value.category]; done) | rfl
def Q31 (Z : State) (a1 a2 aE : Addr) (kE : ClassId) (h0 : Heap) (n0 : Nat) (v : Option Value) (h : Heap) (L : List Loc) : Prop := ∃ (d : Addr) (k : ClassId), v = none ∧ Fr n0 L ∧ Keep h0 h [a1] ∧ h0.size ≤ d ∧ Ovr Z k "java/lang/Object" ∧ Exa Z h a1 "java/util/ArrayList" ∧ Fl0 Z h a1 (.ref d) ∧ Fl1 Z h a1 (.int 1) ∧ Fl2 Z h a1 (.int 1) ∧ Arv Z h d k (.object "java/lang/Object") (10 : Int32) [(.ref a2), .null, .null, .null, .null, .null, .null, .null, .null, .null] .null
theorem rm31 (l : Launch) (Z : State) (a0 : Array Value) (hw : ∀ d ∈ tables_1, d.before a0 Z = true) (ws : List Jvm.Cond) (a1 a2 aE : Addr) (kE : ClassId) (h0 : Heap) (n0 : Nat) (Z0 : n0 ≤ h0.size) (O0 : Old Z n0 h0) (SE : Sta Z Z.heap "java/util/ArrayList" "DEFAULTCAPACITY_EMPTY_ELEMENTDATA" "[Ljava/lang/Object;" (.ref aE)) (AE : Arv Z Z.heap aE kE (.object "java/lang/Object") (0 : Int32) [] .null) (E_a1 : Exa Z h0 a1 "java/util/ArrayList") (F_e_a1 : Fl0 Z h0 a1 (.ref aE)) (F_s_a1 : Fl1 Z h0 a1 (.int 0)) (F_m_a1 : Fl2 Z h0 a1 (.int 1)) (G_a1 : n0 ≤ a1) (Es : Exa Z h0 a2 "java/lang/String") :
 CT l Z mn7 jdk_38_method_24_code 4 none ws (⟨3, 1, 10, 41⟩ : Room) #[(.ref a1), (.ref a2), (.ref aE), (.int 0)] h0 (Q31 Z a1 a2 aE kE h0 n0) := by
 refine MetFree.of_bodySF (plainFor_of_name pn_3) hisR ?_
 intro p e s m args below meth c s₁ Bd hml0 hP hK
 obtain ⟨rfl, hZ, hh⟩ := hP
 have hx := Bd.exec
 have hby := Bd.bytes
 have hml : c.maxLocals = 4 := hml0
 have hown : s.vm.findClass "java/util/ArrayList" = some m.cls := findClass_of_methodNamed Bd.named
 have hnm := (name_of_methodNamed Bd.named Bd.method).1
 have hlocks : meth.locks = false := BodyLoose.notSynchronized Bd
 have X0 : Stand p l e (⟨3, 1, 10, 41⟩ : Room) s m #[(.ref a1), (.ref a2), (.ref aE), (.int 0)] below meth c s₁ [] 0 0 := Stand.of_body Bd
 have e0 : s₁.heap = h0 := by rw [← hh, Bd.state]; rfl
 have N0 := Fr.nil n0
 show Goes p e below (s₁.setTop (entryFrame m #[(.ref a1), (.ref a2), (.ref aE), (.int 0)] 4)) (Fin s (Q31 Z a1 a2 aE kE h0 n0) (⟨3, 1, 10, 41⟩ : Room).cells (⟨3, 1, 10, 41⟩ : Room).slots)
 refine Goes.of (fun t k => castTop (ef_31 m a1 a2 aE (0 : Int32)) k) ?_
 have K0 : Keep h0 h0 [a1] := Keep.refl _ _
 refine gO (fun t k => XS.iloadN X0.here hx rfl (hb hby d31_0) rfl k) ?_
 refine gO (fun t k => XS.aloadN X0.here hx rfl (hb hby d31_1) rfl rfl k) ?_
 have Vc100 := (AE.ext O0.2)
 obtain ⟨clc100, Arc100, qc100, Sc100, Nc100, Hc100, Gc100⟩ := Vc100
 refine Goes.of (X0.arraylength hx (by rw [e0]; exact Arc100.1) (State.isArrayOf_alike hZ.alike Arc100.2.1) (g := (mkF m 2 #[.val (.ref a1), .val (.ref a2), .val (.ref aE), .val (.int 0)] [(.ref aE), (.int 0)])) rfl rfl (hb hby d31_2)) ?_
 rw [len_of Sc100 Nc100]
 refine gO (fun t k => XS.icmpNo X0.here hx rfl (hb hby d31_3) rfl (teq (by decide)).2 k) ?_
 refine gO (fun t k => XS.aloadN X0.here hx rfl (hb hby d31_6) rfl rfl k) ?_
 show Goes p e below (s₁.setTop (mkF m 7 #[.val (.ref a1), .val (.ref a2), .val (.ref aE), .val (.int 0)] [(.ref a1)])) _
 obtain ⟨cq101, q101, q101'⟩ := E_a1.cell
 obtain ⟨_, _, ⟨T101, L101, k101, n101⟩, -, X101, ⟨Lc101, hQ101, l101, y101, z101⟩, st101⟩ := X0.privateBack hx (y := mn6) hown (mvT hZ (wd hw 184 rfl)) (mvT hZ (wd hw 185 rfl)) (mvT hZ (wd hw 187 rfl)) (Cond.privateMethod_at (mvP hZ (wd hw 186 rfl) (args := #[]))) (mvT hZ (wd hw 188 rfl)) (by decide) (backOf (W := 0) (rm32 l Z a0 hw [] a1 aE kE h0 n0 Z0 O0 SE AE E_a1 F_e_a1 F_s_a1 F_m_a1 G_a1) hZ (wd hw 188 rfl) (wd hw 12 rfl) (by decide) (by decide)) (g := (mkF m 7 #[.val (.ref a1), .val (.ref a2), .val (.ref aE), .val (.int 0)] [(.ref a1)])) rfl (by rw [hml]; rfl) (Steps.refl _) (a := a1) (by rw [e0]; exact q101) q101' (argsL := []) (rest := []) (lenOf pd_7 rfl) rfl (wr0 rfl rfl) (hb hby d31_7) (fun _ _ => ⟨rfl, e0, (by decide : 0 + 1 ≤ _), (by decide : 0 + 10 ≤ _)⟩)
 dsimp only [Pt.U, Pt.locs, Pt.cells, Pt.slots] at X101 l101 y101 z101 st101 hQ101
 subst l101 y101 z101
 obtain ⟨d101, k101d, rfl, N101q, K101, z101d, O101, E101, F101_e, F101_s, F101_m, V101⟩ := hQ101
 have N101 := Fr.app N0 N101q
 have q103 : a1 ≠ d101 := Nat.ne_of_lt (Nat.lt_of_lt_of_le F_e_a1.lt z101d)
 have g105 : n0 ≤ d101 := Nat.le_trans Z0 z101d
 have z106 : h0.size ≤ d101 := Nat.le_trans K0.1 z101d
 have K107 : Keep h0 T101.heap [a1] := K0.trans K101 (allS (Or.inl (List.mem_of_getElem? (i := 0) rfl)) all0)
 have f116 := Es.keep K101
 refine Goes.of (fun t k => st101.trans k) ?_
 refine gO (fun t k => XS.astoreN X101.here hx rfl (hb hby d31_10) rfl rfl (l' := #[.val (.ref a1), .val (.ref a2), .val (.ref d101), .val (.int 0)]) rfl k) ?_
 refine gO (fun t k => XS.aloadN X101.here hx rfl (hb hby d31_11) rfl rfl k) ?_
 refine gO (fun t k => XS.iloadN X101.here hx rfl (hb hby d31_12) rfl k) ?_
 refine gO (fun t k => XS.aloadN X101.here hx rfl (hb hby d31_13) rfl rfl k) ?_
 show Goes p e below (T101.setTop (mkF m 14 #[.val (.ref a1), .val (.ref a2), .val (.ref d101), .val (.int 0)] [(.ref a2), (.int 0), (.ref d101)])) _
 have Vc117 := V101
 obtain ⟨clc117, Arc117, qc117, Sc117, Nc117, Hc117, Gc117⟩ := Vc117
 have hin118 : ¬ ((0 : Int32) < 0 ∨ clc117.slots.size ≤ ((0 : Int32)).toNatClampNeg) := inb_of Sc117 ⟨by decide, by decide⟩
 obtain ⟨T119, h119, X119, e119, W119, st119⟩ := stR X101 hx hZ rfl Arc117 (j := (0 : Int32)) hin118 rfl (Sto.ofV Arc117 qc117 O101 (Ins.of_exa f116 (wd hw 199 rfl))) (g := (mkF m 14 #[.val (.ref a1), .val (.ref a2), .val (.ref d101), .val (.int 0)] [(.ref a2), (.int 0), (.ref d101)])) rfl rfl (hb hby d31_14)
 have V119 : Arv Z h119 d101 k101d (.object "java/lang/Object") (10 : Int32) [(.ref a2), .null, .null, .null, .null, .null, .null, .null, .null, .null] .null := Arv.set Arc117 qc117 Sc117 Nc117 Hc117 Gc117 rfl W119 0 rfl (Nat.le_of_ble_eq_true rfl)
 have K120 : Keep h0 h119 [a1] := K107.wr W119 (Or.inr z106)
 have f123 := E101.wr W119
 have f125 := F101_e.other W119 (Or.inl q103)
 have f126 := F101_s.other W119 (Or.inl q103)
 have f127 := F101_m.other W119 (Or.inl q103)
 have N119 := Fr.snoc X119 N101 g105
 refine Goes.of st119 ?_
 refine gO (fun t k => XS.aloadN X119.here hx rfl (hb hby d31_15) rfl rfl k) ?_
 refine gO (fun t k => XS.iloadN X119.here hx rfl (hb hby d31_16) rfl k) ?_
 refine gO (fun t k => XS.iconst X119.here hx rfl (hb hby d31_17) k) ?_
 refine gO (fun t k => XS.iadd X119.here hx rfl (hb hby d31_18) rfl k) ?_
 show Goes p e below (T119.setTop (mkF m 19 #[.val (.ref a1), .val (.ref a2), .val (.ref d101), .val (.int 0)] [(.int 1), (.ref a1)])) _
 obtain ⟨T129, h129, X129, e129, W129, st129⟩ := putF X119 hx hZ hown (host := "") (Or.inl (wd hw 76 rfl)) Via.refl e119 f126 f123 (Or.inl (wd hw 77 rfl)) (wd hw 11 rfl) (ty := .int) (by decide) rfl rfl (g := (mkF m 19 #[.val (.ref a1), .val (.ref a2), .val (.ref d101), .val (.int 0)] [(.int 1), (.ref a1)])) rfl rfl (hb hby d31_19)
 have f130 := f126.same W129
 have K131 : Keep h0 h129 [a1] := K120.wr W129 (Or.inl (List.mem_of_getElem? (i := 0) rfl))
 have f134 := f123.wr W129
 have f136 := f125.other W129 (Or.inr (slot_ne (Or.inl (wd hw 33 rfl)) (Or.inl (wd hw 77 rfl)) (by decide) (t := (.array (.object "java/lang/Object"))) (t' := .int) (by decide) (by decide)))
 have f138 := f127.other W129 (Or.inr (slot_ne (Or.inl (wd hw 30 rfl)) (Or.inl (wd hw 77 rfl)) (by decide) (t := .int) (t' := .int) (by decide) (by decide)))
 have f139 := V119.other W129 (Ne.symm q103)
 have N129 := Fr.snoc X129 N119 G_a1
 refine Goes.of st129 ?_
 show Goes p e below (T129.setTop (mkF m 22 #[.val (.ref a1), .val (.ref a2), .val (.ref d101), .val (.int 0)] [])) _
 have eh : T129.heap = h129 := e129
 exact Goes.retV X129 hx Bd.returns hlocks (hb hby d31_22) (⟨d101, _, rfl, N129, by rw [eh]; exact K131, z106, O101, by rw [eh]; exact f134, by rw [eh]; exact f136, by rw [eh]; exact f130, by rw [eh]; exact f138, by rw [eh]; exact f139⟩) (by decide) (by decide)
theorem ef_30 (m : MethodId) (x0 x1 : Addr) : entryFrame m #[(.ref x0), (.ref x1)] 2 = mkF m 0 #[.val (.ref x0), .val (.ref x1)] [] := by first | (simp [entryFrame, mkF, argsToLocals, Value.category]; done) | rfl
def Q30 (Z : State) (a1 a2 aE : Addr) (kE : ClassId) (h0 : Heap) (n0 : Nat) (v : Option Value) (h : Heap) (L : List Loc) : Prop := ∃ (d : Addr) (k : ClassId), v = some (.int 1) ∧ Fr n0 L ∧ Keep h0 h [a1] ∧ h0.size ≤ d ∧ Ovr Z k "java/lang/Object" ∧ Exa Z h a1 "java/util/ArrayList" ∧ Fl0 Z h a1 (.ref d) ∧ Fl1 Z h a1 (.int 1) ∧ Fl2 Z h a1 (.int 1) ∧ Arv Z h d k (.object "java/lang/Object") (10 : Int32) [(.ref a2), .null, .null, .null, .null, .null, .null, .null, .null, .null] .null
theorem rm30 (l : Launch) (Z : State) (a0 : Array Value) (hw : ∀ d ∈ tables_1, d.before a0 Z = true) (ws : List Jvm.Cond) (a1 a2 aE : Addr) (kE : ClassId) (h0 : Heap) (n0 : Nat) (Z0 : n0 ≤ h0.size) (O0 : Old Z n0 h0) (SE : Sta Z Z.heap "java/util/ArrayList" "DEFAULTCAPACITY_EMPTY_ELEMENTDATA" "[Ljava/lang/Object;" (.ref aE)) (AE : Arv Z Z.heap aE kE (.object "java/lang/Object") (0 : Int32) [] .null) (E_a1 : Exa Z h0 a1 "java/util/ArrayList") (F_e_a1 : Fl0 Z h0 a1 (.ref aE)) (F_s_a1 : Fl1 Z h0 a1 (.int 0)) (F_m_a1 : Fl2 Z h0 a1 (.int 0)) (G_a1 : n0 ≤ a1) (Es : Exa Z h0 a2 "java/lang/String") :
 CT l Z mn8 jdk_38_method_25_code 2 (some .boolean) ws (⟨4, 1, 10, 56⟩ : Room) #[(.ref a1), (.ref a2)] h0 (Q30 Z a1 a2 aE kE h0 n0) := by
 refine MetFree.of_bodySF (plainFor_of_name pn_3) hisR ?_
 intro p e s m args below meth c s₁ Bd hml0 hP hK
 obtain ⟨rfl, hZ, hh⟩ := hP
 have hx := Bd.exec
 have hby := Bd.bytes
 have hml : c.maxLocals = 2 := hml0
 have hown : s.vm.findClass "java/util/ArrayList" = some m.cls := findClass_of_methodNamed Bd.named
 have hnm := (name_of_methodNamed Bd.named Bd.method).1
 have hlocks : meth.locks = false := BodyLoose.notSynchronized Bd
 have X0 : Stand p l e (⟨4, 1, 10, 56⟩ : Room) s m #[(.ref a1), (.ref a2)] below meth c s₁ [] 0 0 := Stand.of_body Bd
 have e0 : s₁.heap = h0 := by rw [← hh, Bd.state]; rfl
 have N0 := Fr.nil n0
 show Goes p e below (s₁.setTop (entryFrame m #[(.ref a1), (.ref a2)] 2)) (Fin s (Q30 Z a1 a2 aE kE h0 n0) (⟨4, 1, 10, 56⟩ : Room).cells (⟨4, 1, 10, 56⟩ : Room).slots)
 refine Goes.of (fun t k => castTop (ef_30 m a1 a2) k) ?_
 have K0 : Keep h0 h0 [a1] := Keep.refl _ _
 refine gO (fun t k => XS.aloadN X0.here hx rfl (hb hby d30_0) rfl rfl k) ?_
 refine gO (fun t k => XS.dup X0.here hx rfl (hb hby d30_1) rfl rfl k) ?_
 obtain ⟨T100, X100, e100, st100⟩ := getF X0 hx hZ hown (host := "") (Or.inl (wd hw 177 rfl)) (Via.of (wd hw 178 rfl)) e0 F_m_a1 (g := (mkF m 2 #[.val (.ref a1), .val (.ref a2)] [(.ref a1), (.ref a1)])) rfl rfl (hb hby d30_2)
 refine Goes.of st100 ?_
 refine gO (fun t k => XS.iconst X100.here hx rfl (hb hby d30_5) k) ?_
 refine gO (fun t k => XS.iadd X100.here hx rfl (hb hby d30_6) rfl k) ?_
 show Goes p e below (T100.setTop (mkF m 7 #[.val (.ref a1), .val (.ref a2)] [(.int 1), (.ref a1)])) _
 obtain ⟨T101, h101, X101, e101, W101, st101⟩ := putF X100 hx hZ hown (host := "") (Or.inl (wd hw 177 rfl)) (Via.of (wd hw 178 rfl)) e100 F_m_a1 E_a1 (Or.inl (wd hw 30 rfl)) (wd hw 11 rfl) (ty := .int) (by decide) rfl rfl (g := (mkF m 7 #[.val (.ref a1), .val (.ref a2)] [(.int 1), (.ref a1)])) rfl rfl (hb hby d30_7)
 have f102 := F_m_a1.same W101
 have K103 : Keep h0 h101 [a1] := K0.wr W101 (Or.inl (List.mem_of_getElem? (i := 0) rfl))
 have z106 := Nat.le_trans Z0 (Keep.of_wr W101).1
 have f107 := O0.wr W101 G_a1
 have f108 := F_e_a1.other W101 (Or.inr (slot_ne (Or.inl (wd hw 33 rfl)) (Or.inl (wd hw 30 rfl)) (by decide) (t := (.array (.object "java/lang/Object"))) (t' := .int) (by decide) (by decide)))
 have f109 := F_s_a1.other W101 (Or.inr (slot_ne (Or.inl (wd hw 77 rfl)) (Or.inl (wd hw 30 rfl)) (by decide) (t := .int) (t' := .int) (by decide) (by decide)))
 have f111 := E_a1.wr W101
 have f112 := Es.wr W101
 have N101 := Fr.snoc X101 N0 G_a1
 refine Goes.of st101 ?_
 refine gO (fun t k => XS.aloadN X101.here hx rfl (hb hby d30_10) rfl rfl k) ?_
 refine gO (fun t k => XS.aloadN X101.here hx rfl (hb hby d30_11) rfl rfl k) ?_
 refine gO (fun t k => XS.aloadN X101.here hx rfl (hb hby d30_12) rfl rfl k) ?_
 show Goes p e below (T101.setTop (mkF m 13 #[.val (.ref a1), .val (.ref a2)] [(.ref a1), (.ref a2), (.ref a1)])) _
 obtain ⟨T113, X113, e113, st113⟩ := getF X101 hx hZ hown (host := "") (Or.inl (wd hw 32 rfl)) Via.refl e101 f108 (g := (mkF m 13 #[.val (.ref a1), .val (.ref a2)] [(.ref a1), (.ref a2), (.ref a1)])) rfl rfl (hb hby d30_13)
 refine Goes.of st113 ?_
 refine gO (fun t k => XS.aloadN X113.here hx rfl (hb hby d30_16) rfl rfl k) ?_
 obtain ⟨T114, X114, e114, st114⟩ := getF X113 hx hZ hown (host := "") (Or.inl (wd hw 76 rfl)) Via.refl e113 f109 (g := (mkF m 17 #[.val (.ref a1), .val (.ref a2)] [(.ref a1), (.ref aE), (.ref a2), (.ref a1)])) rfl rfl (hb hby d30_17)
 refine Goes.of st114 ?_
 obtain ⟨cq115, q115, q115'⟩ := f111.cell
 obtain ⟨_, _, ⟨T115, L115, k115, n115⟩, -, X115, ⟨Lc115, hQ115, l115, y115, z115⟩, st115⟩ := X114.privateBack hx (y := mn7) hown (mvT hZ (wd hw 179 rfl)) (mvT hZ (wd hw 180 rfl)) (mvT hZ (wd hw 182 rfl)) (Cond.privateMethod_at (mvP hZ (wd hw 181 rfl) (args := #[]))) (mvT hZ (wd hw 183 rfl)) (by decide) (backOf (W := 0) (rm31 l Z a0 hw [] a1 a2 aE kE h101 n0 z106 f107 SE AE f111 f108 f109 f102 G_a1 f112) hZ (wd hw 183 rfl) (wd hw 12 rfl) (by decide) (by decide)) (g := (mkF m 20 #[.val (.ref a1), .val (.ref a2)] [(.int 0), (.ref aE), (.ref a2), (.ref a1)])) rfl (by rw [hml]; rfl) (Steps.refl _) (a := a1) (by rw [e114]; exact q115) q115' (argsL := [(.ref a2), (.ref aE), (.int 0)]) (rest := []) (lenOf pd_8 rfl) rfl (wr0 rfl rfl) (hb hby d30_20) (fun _ _ => ⟨rfl, e114, (by decide : 0 + 1 ≤ _), (by decide : 0 + 10 ≤ _)⟩)
 dsimp only [Pt.U, Pt.locs, Pt.cells, Pt.slots] at X115 l115 y115 z115 st115 hQ115
 subst l115 y115 z115
 obtain ⟨d115, k115d, rfl, N115q, K115, z115d, O115, E115, F115_e, F115_s, F115_m, V115⟩ := hQ115
 have N115 := Fr.app N101 N115q
 have z120 : h0.size ≤ d115 := Nat.le_trans K103.1 z115d
 have K121 : Keep h0 T115.heap [a1] := K103.trans K115 (allS (Or.inl (List.mem_of_getElem? (i := 0) rfl)) all0)
 refine Goes.of (fun t k => st115.trans k) ?_
 refine gO (fun t k => XS.iconst X115.here hx rfl (hb hby d30_23) k) ?_
 show Goes p e below (T115.setTop (mkF m 24 #[.val (.ref a1), .val (.ref a2)] [(.int 1)])) _
 have eh : T115.heap = T115.heap := rfl
 exact Goes.retN (t := .boolean) X115 hx Bd.returns (by simp) hlocks (hb hby d30_24) (⟨d115, _, rfl, N115, by rw [eh]; exact K121, z120, O115, by rw [eh]; exact E115, by rw [eh]; exact F115_e, by rw [eh]; exact F115_s, by rw [eh]; exact F115_m, by rw [eh]; exact V115⟩) (by decide) (by decide)
theorem ef_31_10 (m : MethodId) (x0 x1 x2 : Addr) (x3 : Int32) : entryFrame m #[(.ref x0), (.ref x1), (.ref x2), (.int x3)] 4 = mkF m 0 #[.val (.ref x0), .val (.ref x1), .val (.ref x2), .val (.int x3)] [] := by first | (simp [entryFrame, mkF, argsToLocals, Value.category]; done) | rfl
def Q31_10 (Z : State) (a1 a2 d : Addr) (k : ClassId) (x0 : Addr) (h0 : Heap) (n0 : Nat) (v : Option Value) (h : Heap) (L : List Loc) : Prop := v = none ∧ Fr n0 L ∧ Keep h0 h [a1, d] ∧ Exa Z h a1 "java/util/ArrayList" ∧ Fl0 Z h a1 (.ref d) ∧ Fl1 Z h a1 (.int 2) ∧ Fl2 Z h a1 (.int 2) ∧ Arv Z h d k (.object "java/lang/Object") (10 : Int32) [(.ref x0), (.ref a2), .null, .null, .null, .null, .null, .null, .null, .null] .null
theorem rm31_10 (l : Launch) (Z : State) (a0 : Array Value) (hw : ∀ d ∈ tables_1, d.before a0 Z = true) (ws : List Jvm.Cond) (a1 a2 d : Addr) (k : ClassId) (x0 : Addr) (h0 : Heap) (n0 : Nat) (Z0 : n0 ≤ h0.size) (E_a1 : Exa Z h0 a1 "java/util/ArrayList") (F_e_a1 : Fl0 Z h0 a1 (.ref d)) (F_s_a1 : Fl1 Z h0 a1 (.int 1)) (F_m_a1 : Fl2 Z h0 a1 (.int 2)) (G_a1 : n0 ≤ a1) (A : Arv Z h0 d k (.object "java/lang/Object") (10 : Int32) [(.ref x0), .null, .null, .null, .null, .null, .null, .null, .null, .null] .null) (G_d : n0 ≤ d) (Ov : Ovr Z k "java/lang/Object") (Es : Exa Z h0 a2 "java/lang/String") :
 CT l Z mn7 jdk_38_method_24_code 4 none ws (⟨0, 0, 0, 0⟩ : Room) #[(.ref a1), (.ref a2), (.ref d), (.int 1)] h0 (Q31_10 Z a1 a2 d k x0 h0 n0) := by
 refine MetFree.of_bodySF (plainFor_of_name pn_3) hisR ?_
 intro p e s m args below meth c s₁ Bd hml0 hP hK
 obtain ⟨rfl, hZ, hh⟩ := hP
 have hx := Bd.exec
 have hby := Bd.bytes
 have hml : c.maxLocals = 4 := hml0
 have hown : s.vm.findClass "java/util/ArrayList" = some m.cls := findClass_of_methodNamed Bd.named
 have hnm := (name_of_methodNamed Bd.named Bd.method).1
 have hlocks : meth.locks = false := BodyLoose.notSynchronized Bd
 have X0 : Stand p l e (⟨0, 0, 0, 0⟩ : Room) s m #[(.ref a1), (.ref a2), (.ref d), (.int 1)] below meth c s₁ [] 0 0 := Stand.of_body Bd
 have e0 : s₁.heap = h0 := by rw [← hh, Bd.state]; rfl
 have N0 := Fr.nil n0
 show Goes p e below (s₁.setTop (entryFrame m #[(.ref a1), (.ref a2), (.ref d), (.int 1)] 4)) (Fin s (Q31_10 Z a1 a2 d k x0 h0 n0) (⟨0, 0, 0, 0⟩ : Room).cells (⟨0, 0, 0, 0⟩ : Room).slots)
 refine Goes.of (fun t k => castTop (ef_31_10 m a1 a2 d (1 : Int32)) k) ?_
 have K0 : Keep h0 h0 [a1, d] := Keep.refl _ _
 refine gO (fun t k => XS.iloadN X0.here hx rfl (hb hby d31_0) rfl k) ?_
 refine gO (fun t k => XS.aloadN X0.here hx rfl (hb hby d31_1) rfl rfl k) ?_
 have Vc100 := A
 obtain ⟨clc100, Arc100, qc100, Sc100, Nc100, Hc100, Gc100⟩ := Vc100
 refine Goes.of (X0.arraylength hx (by rw [e0]; exact Arc100.1) (State.isArrayOf_alike hZ.alike Arc100.2.1) (g := (mkF m 2 #[.val (.ref a1), .val (.ref a2), .val (.ref d), .val (.int 1)] [(.ref d), (.int 1)])) rfl rfl (hb hby d31_2)) ?_
 rw [len_of Sc100 Nc100]
 refine gO (fun t k => XS.icmpYes X0.here hx rfl (pc0 := 3) (pc' := 11) rfl (hb hby d31_3) rfl (feq (by decide)).2 (by decide) (by decide) k) ?_
 refine gO (fun t k => XS.aloadN X0.here hx rfl (hb hby d31_11) rfl rfl k) ?_
 show Goes p e below (s₁.setTop (mkF m 12 #[.val (.ref a1), .val (.ref a2), .val (.ref d), .val (.int 1)] [(.ref d)])) _
 refine gO (fun t k => XS.iloadN X0.here hx rfl (hb hby d31_12) rfl k) ?_
 refine gO (fun t k => XS.aloadN X0.here hx rfl (hb hby d31_13) rfl rfl k) ?_
 have Vc101 := A
 obtain ⟨clc101, Arc101, qc101, Sc101, Nc101, Hc101, Gc101⟩ := Vc101
 have hin102 : ¬ ((1 : Int32) < 0 ∨ clc101.slots.size ≤ ((1 : Int32)).toNatClampNeg) := inb_of Sc101 ⟨by decide, by decide⟩
 obtain ⟨T103, h103, X103, e103, W103, st103⟩ := stR X0 hx hZ e0 Arc101 (j := (1 : Int32)) hin102 rfl (Sto.ofV Arc101 qc101 Ov (Ins.of_exa Es (wd hw 199 rfl))) (g := (mkF m 14 #[.val (.ref a1), .val (.ref a2), .val (.ref d), .val (.int 1)] [(.ref a2), (.int 1), (.ref d)])) rfl rfl (hb hby d31_14)
 have V103 : Arv Z h103 d k (.object "java/lang/Object") (10 : Int32) [(.ref x0), (.ref a2), .null, .null, .null, .null, .null, .null, .null, .null] .null := Arv.set Arc101 qc101 Sc101 Nc101 Hc101 Gc101 rfl W103 1 rfl (Nat.le_of_ble_eq_true rfl)
 have K104 : Keep h0 h103 [a1, d] := K0.wr W103 (Or.inl (List.mem_of_getElem? (i := 1) rfl))
 have q105 : a1 ≠ d := Exa.neArv E_a1 A (wd hw 11 rfl)
 have f109 := F_e_a1.other W103 (Or.inl q105)
 have f110 := F_s_a1.other W103 (Or.inl q105)
 have f111 := F_m_a1.other W103 (Or.inl q105)
 have f112 := E_a1.wr W103
 have N103 := Fr.snoc X103 N0 G_d
 refine Goes.of st103 ?_
 refine gO (fun t k => XS.aloadN X103.here hx rfl (hb hby d31_15) rfl rfl k) ?_
 refine gO (fun t k => XS.iloadN X103.here hx rfl (hb hby d31_16) rfl k) ?_
 refine gO (fun t k => XS.iconst X103.here hx rfl (hb hby d31_17) k) ?_
 show Goes p e below (T103.setTop (mkF m 18 #[.val (.ref a1), .val (.ref a2), .val (.ref d), .val (.int 1)] [(.int 1), (.int 1), (.ref a1)])) _
 refine gO (fun t k => XS.iadd X103.here hx rfl (hb hby d31_18) rfl k) ?_
 obtain ⟨T114, h114, X114, e114, W114, st114⟩ := putF X103 hx hZ hown (host := "") (Or.inl (wd hw 76 rfl)) Via.refl e103 f110 f112 (Or.inl (wd hw 77 rfl)) (wd hw 11 rfl) (ty := .int) (by decide) rfl rfl (g := (mkF m 19 #[.val (.ref a1), .val (.ref a2), .val (.ref d), .val (.int 1)] [(.int 2), (.ref a1)])) rfl rfl (hb hby d31_19)
 have f115 := f110.same W114
 have K116 : Keep h0 h114 [a1, d] := K104.wr W114 (Or.inl (List.mem_of_getElem? (i := 0) rfl))
 have f119 := V103.other W114 (Ne.symm q105)
 have f120 := f109.other W114 (Or.inr (slot_ne (Or.inl (wd hw 33 rfl)) (Or.inl (wd hw 77 rfl)) (by decide) (t := (.array (.object "java/lang/Object"))) (t' := .int) (by decide) (by decide)))
 have f122 := f111.other W114 (Or.inr (slot_ne (Or.inl (wd hw 30 rfl)) (Or.inl (wd hw 77 rfl)) (by decide) (t := .int) (t' := .int) (by decide) (by decide)))
 have f123 := f112.wr W114
 have N114 := Fr.snoc X114 N103 G_a1
 refine Goes.of st114 ?_
 show Goes p e below (T114.setTop (mkF m 22 #[.val (.ref a1), .val (.ref a2), .val (.ref d), .val (.int 1)] [])) _
 have eh : T114.heap = h114 := e114
 exact Goes.retV X114 hx Bd.returns hlocks (hb hby d31_22) (⟨rfl, N114, by rw [eh]; exact K116, by rw [eh]; exact f123, by rw [eh]; exact f120, by rw [eh]; exact f115, by rw [eh]; exact f122, by rw [eh]; exact f119⟩) (by decide) (by decide)
theorem ef_30_11 (m : MethodId) (x0 x1 : Addr) : entryFrame m #[(.ref x0), (.ref x1)] 2 = mkF m 0 #[.val (.ref x0), .val (.ref x1)] [] := by first | (simp [entryFrame, mkF, argsToLocals, Value.category]; done) | rfl
def Q30_11 (Z : State) (a1 a2 d : Addr) (k : ClassId) (x0 : Addr) (h0 : Heap) (n0 : Nat) (v : Option Value) (h : Heap) (L : List Loc) : Prop := v = some (.int 1) ∧ Fr n0 L ∧ Keep h0 h [a1, d] ∧ Exa Z h a1 "java/util/ArrayList" ∧ Fl0 Z h a1 (.ref d) ∧ Fl1 Z h a1 (.int 2) ∧ Fl2 Z h a1 (.int 2) ∧ Arv Z h d k (.object "java/lang/Object") (10 : Int32) [(.ref x0), (.ref a2), .null, .null, .null, .null, .null, .null, .null, .null] .null
theorem rm30_11 (l : Launch) (Z : State) (a0 : Array Value) (hw : ∀ d ∈ tables_1, d.before a0 Z = true) (ws : List Jvm.Cond) (a1 a2 d : Addr) (k : ClassId) (x0 : Addr) (h0 : Heap) (n0 : Nat) (Z0 : n0 ≤ h0.size) (E_a1 : Exa Z h0 a1 "java/util/ArrayList") (F_e_a1 : Fl0 Z h0 a1 (.ref d)) (F_s_a1 : Fl1 Z h0 a1 (.int 1)) (F_m_a1 : Fl2 Z h0 a1 (.int 1)) (G_a1 : n0 ≤ a1) (A : Arv Z h0 d k (.object "java/lang/Object") (10 : Int32) [(.ref x0), .null, .null, .null, .null, .null, .null, .null, .null, .null] .null) (G_d : n0 ≤ d) (Ov : Ovr Z k "java/lang/Object") (Es : Exa Z h0 a2 "java/lang/String") :
 CT l Z mn8 jdk_38_method_25_code 2 (some .boolean) ws (⟨1, 0, 0, 15⟩ : Room) #[(.ref a1), (.ref a2)] h0 (Q30_11 Z a1 a2 d k x0 h0 n0) := by
 refine MetFree.of_bodySF (plainFor_of_name pn_3) hisR ?_
 intro p e s m args below meth c s₁ Bd hml0 hP hK
 obtain ⟨rfl, hZ, hh⟩ := hP
 have hx := Bd.exec
 have hby := Bd.bytes
 have hml : c.maxLocals = 2 := hml0
 have hown : s.vm.findClass "java/util/ArrayList" = some m.cls := findClass_of_methodNamed Bd.named
 have hnm := (name_of_methodNamed Bd.named Bd.method).1
 have hlocks : meth.locks = false := BodyLoose.notSynchronized Bd
 have X0 : Stand p l e (⟨1, 0, 0, 15⟩ : Room) s m #[(.ref a1), (.ref a2)] below meth c s₁ [] 0 0 := Stand.of_body Bd
 have e0 : s₁.heap = h0 := by rw [← hh, Bd.state]; rfl
 have N0 := Fr.nil n0
 show Goes p e below (s₁.setTop (entryFrame m #[(.ref a1), (.ref a2)] 2)) (Fin s (Q30_11 Z a1 a2 d k x0 h0 n0) (⟨1, 0, 0, 15⟩ : Room).cells (⟨1, 0, 0, 15⟩ : Room).slots)
 refine Goes.of (fun t k => castTop (ef_30_11 m a1 a2) k) ?_
 have K0 : Keep h0 h0 [a1, d] := Keep.refl _ _
 refine gO (fun t k => XS.aloadN X0.here hx rfl (hb hby d30_0) rfl rfl k) ?_
 refine gO (fun t k => XS.dup X0.here hx rfl (hb hby d30_1) rfl rfl k) ?_
 obtain ⟨T100, X100, e100, st100⟩ := getF X0 hx hZ hown (host := "") (Or.inl (wd hw 177 rfl)) (Via.of (wd hw 178 rfl)) e0 F_m_a1 (g := (mkF m 2 #[.val (.ref a1), .val (.ref a2)] [(.ref a1), (.ref a1)])) rfl rfl (hb hby d30_2)
 refine Goes.of st100 ?_
 refine gO (fun t k => XS.iconst X100.here hx rfl (hb hby d30_5) k) ?_
 refine gO (fun t k => XS.iadd X100.here hx rfl (hb hby d30_6) rfl k) ?_
 show Goes p e below (T100.setTop (mkF m 7 #[.val (.ref a1), .val (.ref a2)] [(.int 2), (.ref a1)])) _
 obtain ⟨T101, h101, X101, e101, W101, st101⟩ := putF X100 hx hZ hown (host := "") (Or.inl (wd hw 177 rfl)) (Via.of (wd hw 178 rfl)) e100 F_m_a1 E_a1 (Or.inl (wd hw 30 rfl)) (wd hw 11 rfl) (ty := .int) (by decide) rfl rfl (g := (mkF m 7 #[.val (.ref a1), .val (.ref a2)] [(.int 2), (.ref a1)])) rfl rfl (hb hby d30_7)
 have f102 := F_m_a1.same W101
 have K103 : Keep h0 h101 [a1, d] := K0.wr W101 (Or.inl (List.mem_of_getElem? (i := 0) rfl))
 have q104 : d ≠ a1 := Ne.symm (Exa.neArv E_a1 A (wd hw 11 rfl))
 have z106 := Nat.le_trans Z0 (Keep.of_wr W101).1
 have f107 := A.other W101 q104
 have f108 := F_e_a1.other W101 (Or.inr (slot_ne (Or.inl (wd hw 33 rfl)) (Or.inl (wd hw 30 rfl)) (by decide) (t := (.array (.object "java/lang/Object"))) (t' := .int) (by decide) (by decide)))
 have f109 := F_s_a1.other W101 (Or.inr (slot_ne (Or.inl (wd hw 77 rfl)) (Or.inl (wd hw 30 rfl)) (by decide) (t := .int) (t' := .int) (by decide) (by decide)))
 have f111 := E_a1.wr W101
 have f112 := Es.wr W101
 have N101 := Fr.snoc X101 N0 G_a1
 refine Goes.of st101 ?_
 refine gO (fun t k => XS.aloadN X101.here hx rfl (hb hby d30_10) rfl rfl k) ?_
 refine gO (fun t k => XS.aloadN X101.here hx rfl (hb hby d30_11) rfl rfl k) ?_
 refine gO (fun t k => XS.aloadN X101.here hx rfl (hb hby d30_12) rfl rfl k) ?_
 show Goes p e below (T101.setTop (mkF m 13 #[.val (.ref a1), .val (.ref a2)] [(.ref a1), (.ref a2), (.ref a1)])) _
 obtain ⟨T113, X113, e113, st113⟩ := getF X101 hx hZ hown (host := "") (Or.inl (wd hw 32 rfl)) Via.refl e101 f108 (g := (mkF m 13 #[.val (.ref a1), .val (.ref a2)] [(.ref a1), (.ref a2), (.ref a1)])) rfl rfl (hb hby d30_13)
 refine Goes.of st113 ?_
 refine gO (fun t k => XS.aloadN X113.here hx rfl (hb hby d30_16) rfl rfl k) ?_
 obtain ⟨T114, X114, e114, st114⟩ := getF X113 hx hZ hown (host := "") (Or.inl (wd hw 76 rfl)) Via.refl e113 f109 (g := (mkF m 17 #[.val (.ref a1), .val (.ref a2)] [(.ref a1), (.ref d), (.ref a2), (.ref a1)])) rfl rfl (hb hby d30_17)
 refine Goes.of st114 ?_
 obtain ⟨cq115, q115, q115'⟩ := f111.cell
 obtain ⟨_, _, ⟨T115, L115, k115, n115⟩, -, X115, ⟨Lc115, hQ115, l115, y115, z115⟩, st115⟩ := X114.privateBack hx (y := mn7) hown (mvT hZ (wd hw 179 rfl)) (mvT hZ (wd hw 180 rfl)) (mvT hZ (wd hw 182 rfl)) (Cond.privateMethod_at (mvP hZ (wd hw 181 rfl) (args := #[]))) (mvT hZ (wd hw 183 rfl)) (by decide) (backOf (W := 0) (rm31_10 l Z a0 hw [] a1 a2 d k x0 h101 n0 z106 f111 f108 f109 f102 G_a1 f107 G_d Ov f112) hZ (wd hw 183 rfl) (wd hw 12 rfl) (by decide) (by decide)) (g := (mkF m 20 #[.val (.ref a1), .val (.ref a2)] [(.int 1), (.ref d), (.ref a2), (.ref a1)])) rfl (by rw [hml]; rfl) (Steps.refl _) (a := a1) (by rw [e114]; exact q115) q115' (argsL := [(.ref a2), (.ref d), (.int 1)]) (rest := []) (lenOf pd_8 rfl) rfl (wr0 rfl rfl) (hb hby d30_20) (fun _ _ => ⟨rfl, e114, (by decide : 0 + 0 ≤ _), (by decide : 0 + 0 ≤ _)⟩)
 dsimp only [Pt.U, Pt.locs, Pt.cells, Pt.slots] at X115 l115 y115 z115 st115 hQ115
 subst l115 y115 z115
 obtain ⟨rfl, N115q, K115, E115, F115_e, F115_s, F115_m, V115⟩ := hQ115
 have N115 := Fr.app N101 N115q
 have K116 : Keep h0 T115.heap [a1, d] := K103.trans K115 (allS (Or.inl (List.mem_of_getElem? (i := 0) rfl)) (allS (Or.inl (List.mem_of_getElem? (i := 1) rfl)) all0))
 refine Goes.of (fun t k => st115.trans k) ?_
 refine gO (fun t k => XS.iconst X115.here hx rfl (hb hby d30_23) k) ?_
 show Goes p e below (T115.setTop (mkF m 24 #[.val (.ref a1), .val (.ref a2)] [(.int 1)])) _
 have eh : T115.heap = T115.heap := rfl
 exact Goes.retN (t := .boolean) X115 hx Bd.returns (by simp) hlocks (hb hby d30_24) (⟨rfl, N115, by rw [eh]; exact K116, by rw [eh]; exact E115, by rw [eh]; exact F115_e, by rw [eh]; exact F115_s, by rw [eh]; exact F115_m, by rw [eh]; exact V115⟩) (by decide) (by decide)
theorem ef_31_12 (m : MethodId) (x0 x1 x2 : Addr) (x3 : Int32) : entryFrame m #[(.ref x0), (.ref x1), (.ref x2), (.int x3)] 4 = mkF m 0 #[.val (.ref x0), .val (.ref x1), .val (.ref x2), .val (.int x3)] [] := by first | (simp [entryFrame, mkF, argsToLocals, Value.category]; done) | rfl
def Q31_12 (Z : State) (a1 a2 d : Addr) (k : ClassId) (x0 x1 : Addr) (h0 : Heap) (n0 : Nat) (v : Option Value) (h : Heap) (L : List Loc) : Prop := v = none ∧ Fr n0 L ∧ Keep h0 h [a1, d] ∧ Exa Z h a1 "java/util/ArrayList" ∧ Fl0 Z h a1 (.ref d) ∧ Fl1 Z h a1 (.int 3) ∧ Fl2 Z h a1 (.int 3) ∧ Arv Z h d k (.object "java/lang/Object") (10 : Int32) [(.ref x0), (.ref x1), (.ref a2), .null, .null, .null, .null, .null, .null, .null] .null
theorem rm31_12 (l : Launch) (Z : State) (a0 : Array Value) (hw : ∀ d ∈ tables_1, d.before a0 Z = true) (ws : List Jvm.Cond) (a1 a2 d : Addr) (k : ClassId) (x0 x1 : Addr) (h0 : Heap) (n0 : Nat) (Z0 : n0 ≤ h0.size) (E_a1 : Exa Z h0 a1 "java/util/ArrayList") (F_e_a1 : Fl0 Z h0 a1 (.ref d)) (F_s_a1 : Fl1 Z h0 a1 (.int 2)) (F_m_a1 : Fl2 Z h0 a1 (.int 3)) (G_a1 : n0 ≤ a1) (A : Arv Z h0 d k (.object "java/lang/Object") (10 : Int32) [(.ref x0), (.ref x1), .null, .null, .null, .null, .null, .null, .null, .null] .null) (G_d : n0 ≤ d) (Ov : Ovr Z k "java/lang/Object") (Es : Exa Z h0 a2 "java/lang/String") :
 CT l Z mn7 jdk_38_method_24_code 4 none ws (⟨0, 0, 0, 0⟩ : Room) #[(.ref a1), (.ref a2), (.ref d), (.int 2)] h0 (Q31_12 Z a1 a2 d k x0 x1 h0 n0) := by
 refine MetFree.of_bodySF (plainFor_of_name pn_3) hisR ?_
 intro p e s m args below meth c s₁ Bd hml0 hP hK
 obtain ⟨rfl, hZ, hh⟩ := hP
 have hx := Bd.exec
 have hby := Bd.bytes
 have hml : c.maxLocals = 4 := hml0
 have hown : s.vm.findClass "java/util/ArrayList" = some m.cls := findClass_of_methodNamed Bd.named
 have hnm := (name_of_methodNamed Bd.named Bd.method).1
 have hlocks : meth.locks = false := BodyLoose.notSynchronized Bd
 have X0 : Stand p l e (⟨0, 0, 0, 0⟩ : Room) s m #[(.ref a1), (.ref a2), (.ref d), (.int 2)] below meth c s₁ [] 0 0 := Stand.of_body Bd
 have e0 : s₁.heap = h0 := by rw [← hh, Bd.state]; rfl
 have N0 := Fr.nil n0
 show Goes p e below (s₁.setTop (entryFrame m #[(.ref a1), (.ref a2), (.ref d), (.int 2)] 4)) (Fin s (Q31_12 Z a1 a2 d k x0 x1 h0 n0) (⟨0, 0, 0, 0⟩ : Room).cells (⟨0, 0, 0, 0⟩ : Room).slots)
 refine Goes.of (fun t k => castTop (ef_31_12 m a1 a2 d (2 : Int32)) k) ?_
 have K0 : Keep h0 h0 [a1, d] := Keep.refl _ _
 refine gO (fun t k => XS.iloadN X0.here hx rfl (hb hby d31_0) rfl k) ?_
 refine gO (fun t k => XS.aloadN X0.here hx rfl (hb hby d31_1) rfl rfl k) ?_
 have Vc100 := A
 obtain ⟨clc100, Arc100, qc100, Sc100, Nc100, Hc100, Gc100⟩ := Vc100
 refine Goes.of (X0.arraylength hx (by rw [e0]; exact Arc100.1) (State.isArrayOf_alike hZ.alike Arc100.2.1) (g := (mkF m 2 #[.val (.ref a1), .val (.ref a2), .val (.ref d), .val (.int 2)] [(.ref d), (.int 2)])) rfl rfl (hb hby d31_2)) ?_
 rw [len_of Sc100 Nc100]
 refine gO (fun t k => XS.icmpYes X0.here hx rfl (pc0 := 3) (pc' := 11) rfl (hb hby d31_3) rfl (feq (by decide)).2 (by decide) (by decide) k) ?_
 refine gO (fun t k => XS.aloadN X0.here hx rfl (hb hby d31_11) rfl rfl k) ?_
 show Goes p e below (s₁.setTop (mkF m 12 #[.val (.ref a1), .val (.ref a2), .val (.ref d), .val (.int 2)] [(.ref d)])) _
 refine gO (fun t k => XS.iloadN X0.here hx rfl (hb hby d31_12) rfl k) ?_
 refine gO (fun t k => XS.aloadN X0.here hx rfl (hb hby d31_13) rfl rfl k) ?_
 have Vc101 := A
 obtain ⟨clc101, Arc101, qc101, Sc101, Nc101, Hc101, Gc101⟩ := Vc101
 have hin102 : ¬ ((2 : Int32) < 0 ∨ clc101.slots.size ≤ ((2 : Int32)).toNatClampNeg) := inb_of Sc101 ⟨by decide, by decide⟩
 obtain ⟨T103, h103, X103, e103, W103, st103⟩ := stR X0 hx hZ e0 Arc101 (j := (2 : Int32)) hin102 rfl (Sto.ofV Arc101 qc101 Ov (Ins.of_exa Es (wd hw 199 rfl))) (g := (mkF m 14 #[.val (.ref a1), .val (.ref a2), .val (.ref d), .val (.int 2)] [(.ref a2), (.int 2), (.ref d)])) rfl rfl (hb hby d31_14)
 have V103 : Arv Z h103 d k (.object "java/lang/Object") (10 : Int32) [(.ref x0), (.ref x1), (.ref a2), .null, .null, .null, .null, .null, .null, .null] .null := Arv.set Arc101 qc101 Sc101 Nc101 Hc101 Gc101 rfl W103 2 rfl (Nat.le_of_ble_eq_true rfl)
 have K104 : Keep h0 h103 [a1, d] := K0.wr W103 (Or.inl (List.mem_of_getElem? (i := 1) rfl))
 have q105 : a1 ≠ d := Exa.neArv E_a1 A (wd hw 11 rfl)
 have f109 := F_e_a1.other W103 (Or.inl q105)
 have f110 := F_s_a1.other W103 (Or.inl q105)
 have f111 := F_m_a1.other W103 (Or.inl q105)
 have f112 := E_a1.wr W103
 have N103 := Fr.snoc X103 N0 G_d
 refine Goes.of st103 ?_
 refine gO (fun t k => XS.aloadN X103.here hx rfl (hb hby d31_15) rfl rfl k) ?_
 refine gO (fun t k => XS.iloadN X103.here hx rfl (hb hby d31_16) rfl k) ?_
 refine gO (fun t k => XS.iconst X103.here hx rfl (hb hby d31_17) k) ?_
 show Goes p e below (T103.setTop (mkF m 18 #[.val (.ref a1), .val (.ref a2), .val (.ref d), .val (.int 2)] [(.int 1), (.int 2), (.ref a1)])) _
 refine gO (fun t k => XS.iadd X103.here hx rfl (hb hby d31_18) rfl k) ?_
 obtain ⟨T114, h114, X114, e114, W114, st114⟩ := putF X103 hx hZ hown (host := "") (Or.inl (wd hw 76 rfl)) Via.refl e103 f110 f112 (Or.inl (wd hw 77 rfl)) (wd hw 11 rfl) (ty := .int) (by decide) rfl rfl (g := (mkF m 19 #[.val (.ref a1), .val (.ref a2), .val (.ref d), .val (.int 2)] [(.int 3), (.ref a1)])) rfl rfl (hb hby d31_19)
 have f115 := f110.same W114
 have K116 : Keep h0 h114 [a1, d] := K104.wr W114 (Or.inl (List.mem_of_getElem? (i := 0) rfl))
 have f119 := V103.other W114 (Ne.symm q105)
 have f120 := f109.other W114 (Or.inr (slot_ne (Or.inl (wd hw 33 rfl)) (Or.inl (wd hw 77 rfl)) (by decide) (t := (.array (.object "java/lang/Object"))) (t' := .int) (by decide) (by decide)))
 have f122 := f111.other W114 (Or.inr (slot_ne (Or.inl (wd hw 30 rfl)) (Or.inl (wd hw 77 rfl)) (by decide) (t := .int) (t' := .int) (by decide) (by decide)))
 have f123 := f112.wr W114
 have N114 := Fr.snoc X114 N103 G_a1
 refine Goes.of st114 ?_
 show Goes p e below (T114.setTop (mkF m 22 #[.val (.ref a1), .val (.ref a2), .val (.ref d), .val (.int 2)] [])) _
 have eh : T114.heap = h114 := e114
 exact Goes.retV X114 hx Bd.returns hlocks (hb hby d31_22) (⟨rfl, N114, by rw [eh]; exact K116, by rw [eh]; exact f123, by rw [eh]; exact f120, by rw [eh]; exact f115, by rw [eh]; exact f122, by rw [eh]; exact f119⟩) (by decide) (by decide)
theorem ef_30_13 (m : MethodId) (x0 x1 : Addr) : entryFrame m #[(.ref x0), (.ref x1)] 2 = mkF m 0 #[.val (.ref x0), .val (.ref x1)] [] := by first | (simp [entryFrame, mkF, argsToLocals, Value.category]; done) | rfl
def Q30_13 (Z : State) (a1 a2 d : Addr) (k : ClassId) (x0 x1 : Addr) (h0 : Heap) (n0 : Nat) (v : Option Value) (h : Heap) (L : List Loc) : Prop := v = some (.int 1) ∧ Fr n0 L ∧ Keep h0 h [a1, d] ∧ Exa Z h a1 "java/util/ArrayList" ∧ Fl0 Z h a1 (.ref d) ∧ Fl1 Z h a1 (.int 3) ∧ Fl2 Z h a1 (.int 3) ∧ Arv Z h d k (.object "java/lang/Object") (10 : Int32) [(.ref x0), (.ref x1), (.ref a2), .null, .null, .null, .null, .null, .null, .null] .null
theorem rm30_13 (l : Launch) (Z : State) (a0 : Array Value) (hw : ∀ d ∈ tables_1, d.before a0 Z = true) (ws : List Jvm.Cond) (a1 a2 d : Addr) (k : ClassId) (x0 x1 : Addr) (h0 : Heap) (n0 : Nat) (Z0 : n0 ≤ h0.size) (E_a1 : Exa Z h0 a1 "java/util/ArrayList") (F_e_a1 : Fl0 Z h0 a1 (.ref d)) (F_s_a1 : Fl1 Z h0 a1 (.int 2)) (F_m_a1 : Fl2 Z h0 a1 (.int 2)) (G_a1 : n0 ≤ a1) (A : Arv Z h0 d k (.object "java/lang/Object") (10 : Int32) [(.ref x0), (.ref x1), .null, .null, .null, .null, .null, .null, .null, .null] .null) (G_d : n0 ≤ d) (Ov : Ovr Z k "java/lang/Object") (Es : Exa Z h0 a2 "java/lang/String") :
 CT l Z mn8 jdk_38_method_25_code 2 (some .boolean) ws (⟨1, 0, 0, 15⟩ : Room) #[(.ref a1), (.ref a2)] h0 (Q30_13 Z a1 a2 d k x0 x1 h0 n0) := by
 refine MetFree.of_bodySF (plainFor_of_name pn_3) hisR ?_
 intro p e s m args below meth c s₁ Bd hml0 hP hK
 obtain ⟨rfl, hZ, hh⟩ := hP
 have hx := Bd.exec
 have hby := Bd.bytes
 have hml : c.maxLocals = 2 := hml0
 have hown : s.vm.findClass "java/util/ArrayList" = some m.cls := findClass_of_methodNamed Bd.named
 have hnm := (name_of_methodNamed Bd.named Bd.method).1
 have hlocks : meth.locks = false := BodyLoose.notSynchronized Bd
 have X0 : Stand p l e (⟨1, 0, 0, 15⟩ : Room) s m #[(.ref a1), (.ref a2)] below meth c s₁ [] 0 0 := Stand.of_body Bd
 have e0 : s₁.heap = h0 := by rw [← hh, Bd.state]; rfl
 have N0 := Fr.nil n0
 show Goes p e below (s₁.setTop (entryFrame m #[(.ref a1), (.ref a2)] 2)) (Fin s (Q30_13 Z a1 a2 d k x0 x1 h0 n0) (⟨1, 0, 0, 15⟩ : Room).cells (⟨1, 0, 0, 15⟩ : Room).slots)
 refine Goes.of (fun t k => castTop (ef_30_13 m a1 a2) k) ?_
 have K0 : Keep h0 h0 [a1, d] := Keep.refl _ _
 refine gO (fun t k => XS.aloadN X0.here hx rfl (hb hby d30_0) rfl rfl k) ?_
 refine gO (fun t k => XS.dup X0.here hx rfl (hb hby d30_1) rfl rfl k) ?_
 obtain ⟨T100, X100, e100, st100⟩ := getF X0 hx hZ hown (host := "") (Or.inl (wd hw 177 rfl)) (Via.of (wd hw 178 rfl)) e0 F_m_a1 (g := (mkF m 2 #[.val (.ref a1), .val (.ref a2)] [(.ref a1), (.ref a1)])) rfl rfl (hb hby d30_2)
 refine Goes.of st100 ?_
 refine gO (fun t k => XS.iconst X100.here hx rfl (hb hby d30_5) k) ?_
 refine gO (fun t k => XS.iadd X100.here hx rfl (hb hby d30_6) rfl k) ?_
 show Goes p e below (T100.setTop (mkF m 7 #[.val (.ref a1), .val (.ref a2)] [(.int 3), (.ref a1)])) _
 obtain ⟨T101, h101, X101, e101, W101, st101⟩ := putF X100 hx hZ hown (host := "") (Or.inl (wd hw 177 rfl)) (Via.of (wd hw 178 rfl)) e100 F_m_a1 E_a1 (Or.inl (wd hw 30 rfl)) (wd hw 11 rfl) (ty := .int) (by decide) rfl rfl (g := (mkF m 7 #[.val (.ref a1), .val (.ref a2)] [(.int 3), (.ref a1)])) rfl rfl (hb hby d30_7)
 have f102 := F_m_a1.same W101
 have K103 : Keep h0 h101 [a1, d] := K0.wr W101 (Or.inl (List.mem_of_getElem? (i := 0) rfl))
 have q104 : d ≠ a1 := Ne.symm (Exa.neArv E_a1 A (wd hw 11 rfl))
 have z106 := Nat.le_trans Z0 (Keep.of_wr W101).1
 have f107 := A.other W101 q104
 have f108 := F_e_a1.other W101 (Or.inr (slot_ne (Or.inl (wd hw 33 rfl)) (Or.inl (wd hw 30 rfl)) (by decide) (t := (.array (.object "java/lang/Object"))) (t' := .int) (by decide) (by decide)))
 have f109 := F_s_a1.other W101 (Or.inr (slot_ne (Or.inl (wd hw 77 rfl)) (Or.inl (wd hw 30 rfl)) (by decide) (t := .int) (t' := .int) (by decide) (by decide)))
 have f111 := E_a1.wr W101
 have f112 := Es.wr W101
 have N101 := Fr.snoc X101 N0 G_a1
 refine Goes.of st101 ?_
 refine gO (fun t k => XS.aloadN X101.here hx rfl (hb hby d30_10) rfl rfl k) ?_
 refine gO (fun t k => XS.aloadN X101.here hx rfl (hb hby d30_11) rfl rfl k) ?_
 refine gO (fun t k => XS.aloadN X101.here hx rfl (hb hby d30_12) rfl rfl k) ?_
 show Goes p e below (T101.setTop (mkF m 13 #[.val (.ref a1), .val (.ref a2)] [(.ref a1), (.ref a2), (.ref a1)])) _
 obtain ⟨T113, X113, e113, st113⟩ := getF X101 hx hZ hown (host := "") (Or.inl (wd hw 32 rfl)) Via.refl e101 f108 (g := (mkF m 13 #[.val (.ref a1), .val (.ref a2)] [(.ref a1), (.ref a2), (.ref a1)])) rfl rfl (hb hby d30_13)
 refine Goes.of st113 ?_
 refine gO (fun t k => XS.aloadN X113.here hx rfl (hb hby d30_16) rfl rfl k) ?_
 obtain ⟨T114, X114, e114, st114⟩ := getF X113 hx hZ hown (host := "") (Or.inl (wd hw 76 rfl)) Via.refl e113 f109 (g := (mkF m 17 #[.val (.ref a1), .val (.ref a2)] [(.ref a1), (.ref d), (.ref a2), (.ref a1)])) rfl rfl (hb hby d30_17)
 refine Goes.of st114 ?_
 obtain ⟨cq115, q115, q115'⟩ := f111.cell
 obtain ⟨_, _, ⟨T115, L115, k115, n115⟩, -, X115, ⟨Lc115, hQ115, l115, y115, z115⟩, st115⟩ := X114.privateBack hx (y := mn7) hown (mvT hZ (wd hw 179 rfl)) (mvT hZ (wd hw 180 rfl)) (mvT hZ (wd hw 182 rfl)) (Cond.privateMethod_at (mvP hZ (wd hw 181 rfl) (args := #[]))) (mvT hZ (wd hw 183 rfl)) (by decide) (backOf (W := 0) (rm31_12 l Z a0 hw [] a1 a2 d k x0 x1 h101 n0 z106 f111 f108 f109 f102 G_a1 f107 G_d Ov f112) hZ (wd hw 183 rfl) (wd hw 12 rfl) (by decide) (by decide)) (g := (mkF m 20 #[.val (.ref a1), .val (.ref a2)] [(.int 2), (.ref d), (.ref a2), (.ref a1)])) rfl (by rw [hml]; rfl) (Steps.refl _) (a := a1) (by rw [e114]; exact q115) q115' (argsL := [(.ref a2), (.ref d), (.int 2)]) (rest := []) (lenOf pd_8 rfl) rfl (wr0 rfl rfl) (hb hby d30_20) (fun _ _ => ⟨rfl, e114, (by decide : 0 + 0 ≤ _), (by decide : 0 + 0 ≤ _)⟩)
 dsimp only [Pt.U, Pt.locs, Pt.cells, Pt.slots] at X115 l115 y115 z115 st115 hQ115
 subst l115 y115 z115
 obtain ⟨rfl, N115q, K115, E115, F115_e, F115_s, F115_m, V115⟩ := hQ115
 have N115 := Fr.app N101 N115q
 have K116 : Keep h0 T115.heap [a1, d] := K103.trans K115 (allS (Or.inl (List.mem_of_getElem? (i := 0) rfl)) (allS (Or.inl (List.mem_of_getElem? (i := 1) rfl)) all0))
 refine Goes.of (fun t k => st115.trans k) ?_
 refine gO (fun t k => XS.iconst X115.here hx rfl (hb hby d30_23) k) ?_
 show Goes p e below (T115.setTop (mkF m 24 #[.val (.ref a1), .val (.ref a2)] [(.int 1)])) _
 have eh : T115.heap = T115.heap := rfl
 exact Goes.retN (t := .boolean) X115 hx Bd.returns (by simp) hlocks (hb hby d30_24) (⟨rfl, N115, by rw [eh]; exact K116, by rw [eh]; exact E115, by rw [eh]; exact F115_e, by rw [eh]; exact F115_s, by rw [eh]; exact F115_m, by rw [eh]; exact V115⟩) (by decide) (by decide)
theorem ef_29 (m : MethodId) (x0 x1 x2 : Addr) : entryFrame m #[(.ref x0), (.ref x1), (.ref x2)] 3 = mkF m 0 #[.val (.ref x0), .val (.ref x1), .val (.ref x2)] [] := by first | (simp [entryFrame, mkF, argsToLocals, Value.category]; done) | rfl
def Q29 (Z : State) (a1 a2 a3 aE : Addr) (kE : ClassId) (l1 l2 : Addr) (h0 : Heap) (n0 : Nat) (v : Option Value) (h : Heap) (L : List Loc) : Prop := ∃ (d1 : Addr) (k1 : ClassId) (d2 : Addr) (k2 : ClassId), v = some (.ref a1) ∧ Fr n0 L ∧ Keep h0 h [l1, l2] ∧ h0.size ≤ d1 ∧ h0.size ≤ d2 ∧ d1 ≠ d2 ∧ Ovr Z k1 "java/lang/Object" ∧ Ovr Z k2 "java/lang/Object" ∧ Exa Z h a1 "com/example/hinta/hinta/Statement" ∧ Fl3 Z h a1 (.ref l1) ∧ Fl4 Z h a1 (.ref l2) ∧ Exa Z h l1 "java/util/ArrayList" ∧ Fl0 Z h l1 (.ref d1) ∧ Fl1 Z h l1 (.int 1) ∧ Fl2 Z h l1 (.int 1) ∧ Exa Z h l2 "java/util/ArrayList" ∧ Fl0 Z h l2 (.ref d2) ∧ Fl1 Z h l2 (.int 1) ∧ Fl2 Z h l2 (.int 1) ∧ Arv Z h d1 k1 (.object "java/lang/Object") (10 : Int32) [(.ref a2), .null, .null, .null, .null, .null, .null, .null, .null, .null] .null ∧ Arv Z h d2 k2 (.object "java/lang/Object") (10 : Int32) [(.ref a3), .null, .null, .null, .null, .null, .null, .null, .null, .null] .null
theorem rm29 (l : Launch) (Z : State) (a0 : Array Value) (hw : ∀ d ∈ tables_1, d.before a0 Z = true) (ws : List Jvm.Cond) (a1 a2 a3 aE : Addr) (kE : ClassId) (l1 l2 : Addr) (h0 : Heap) (n0 : Nat) (Z0 : n0 ≤ h0.size) (O0 : Old Z n0 h0) (SE : Sta Z Z.heap "java/util/ArrayList" "DEFAULTCAPACITY_EMPTY_ELEMENTDATA" "[Ljava/lang/Object;" (.ref aE)) (AE : Arv Z Z.heap aE kE (.object "java/lang/Object") (0 : Int32) [] .null) (E_a1 : Exa Z h0 a1 "com/example/hinta/hinta/Statement") (F_k_a1 : Fl3 Z h0 a1 (.ref l1)) (F_v_a1 : Fl4 Z h0 a1 (.ref l2)) (E_l1 : Exa Z h0 l1 "java/util/ArrayList") (F_e_l1 : Fl0 Z h0 l1 (.ref aE)) (F_s_l1 : Fl1 Z h0 l1 (.int 0)) (F_m_l1 : Fl2 Z h0 l1 (.int 0)) (E_l2 : Exa Z h0 l2 "java/util/ArrayList") (F_e_l2 : Fl0 Z h0 l2 (.ref aE)) (F_s_l2 : Fl1 Z h0 l2 (.int 0)) (F_m_l2 : Fl2 Z h0 l2 (.int 0)) (ne : l1 ≠ l2) (G_l1 : n0 ≤ l1) (G_l2 : n0 ≤ l2) (Es2 : Exa Z h0 a2 "java/lang/String") (Es3 : Exa Z h0 a3 "java/lang/String") :
 CT l Z mn9 prog_26_method_2_code 3 (some (.object "com/example/hinta/hinta/Statement")) ws (⟨5, 2, 20, 69⟩ : Room) #[(.ref a1), (.ref a2), (.ref a3)] h0 (Q29 Z a1 a2 a3 aE kE l1 l2 h0 n0) := by
 refine MetFree.of_bodySF (plainFor_of_name pn_4) hisR ?_
 intro p e s m args below meth c s₁ Bd hml0 hP hK
 obtain ⟨rfl, hZ, hh⟩ := hP
 have hx := Bd.exec
 have hby := Bd.bytes
 have hml : c.maxLocals = 3 := hml0
 have hown : s.vm.findClass "com/example/hinta/hinta/Statement" = some m.cls := findClass_of_methodNamed Bd.named
 have hnm := (name_of_methodNamed Bd.named Bd.method).1
 have hlocks : meth.locks = false := BodyLoose.notSynchronized Bd
 have X0 : Stand p l e (⟨5, 2, 20, 69⟩ : Room) s m #[(.ref a1), (.ref a2), (.ref a3)] below meth c s₁ [] 0 0 := Stand.of_body Bd
 have e0 : s₁.heap = h0 := by rw [← hh, Bd.state]; rfl
 have N0 := Fr.nil n0
 show Goes p e below (s₁.setTop (entryFrame m #[(.ref a1), (.ref a2), (.ref a3)] 3)) (Fin s (Q29 Z a1 a2 a3 aE kE l1 l2 h0 n0) (⟨5, 2, 20, 69⟩ : Room).cells (⟨5, 2, 20, 69⟩ : Room).slots)
 refine Goes.of (fun t k => castTop (ef_29 m a1 a2 a3) k) ?_
 have K0 : Keep h0 h0 [l1, l2] := Keep.refl _ _
 refine gO (fun t k => XS.aloadN X0.here hx rfl (hb hby d29_0) rfl rfl k) ?_
 obtain ⟨T100, X100, e100, st100⟩ := getF X0 hx hZ hown (host := "") (Or.inl (wd hw 34 rfl)) Via.refl e0 F_k_a1 (g := (mkF m 1 #[.val (.ref a1), .val (.ref a2), .val (.ref a3)] [(.ref a1)])) rfl rfl (hb hby d29_1)
 refine Goes.of st100 ?_
 refine gO (fun t k => XS.aloadN X100.here hx rfl (hb hby d29_4) rfl rfl k) ?_
 obtain ⟨cq101, kq101, q101a, q101b, q101c⟩ := isOf hZ e100 E_l1
 obtain ⟨_, _, ⟨T101, L101, k101, n101⟩, -, X101, ⟨Lc101, hQ101, l101, y101, z101⟩, st101⟩ := X100.interfaceBack hx (xi := mn10) (y := mn8) hown (mvT hZ (wd hw 169 rfl)) (mvT hZ (wd hw 170 rfl)) (mvT hZ (wd hw 171 rfl)) (mvT hZ (wd hw 172 rfl)) (mvT hZ (wd hw 173 rfl)) (mvT hZ (wd hw 174 rfl)) (mvT hZ (wd hw 175 rfl)) (mvT hZ (wd hw 74 rfl)) (by decide) (backOf (W := 0) (rm30 l Z a0 hw [] l1 a2 aE kE h0 n0 Z0 O0 SE AE E_l1 F_e_l1 F_s_l1 F_m_l1 G_l1 Es2) hZ (wd hw 176 rfl) (wd hw 12 rfl) (by decide) (by decide)) q101a q101b q101c (g := (mkF m 5 #[.val (.ref a1), .val (.ref a2), .val (.ref a3)] [(.ref a2), (.ref l1)])) rfl (by rw [hml]; rfl) (Steps.refl _) (argsL := [(.ref a2)]) (rest := []) (lenOf pd_9 rfl) rfl (wr0 rfl rfl) (hb hby d29_5) (fun _ _ => ⟨rfl, e100, (by decide : 0 + 1 ≤ _), (by decide : 0 + 10 ≤ _)⟩)
 dsimp only [Pt.U, Pt.locs, Pt.cells, Pt.slots] at X101 l101 y101 z101 st101 hQ101
 subst l101 y101 z101
 obtain ⟨d101, k101d, rfl, N101q, K101, z101d, O101, E101, F101_e, F101_s, F101_m, V101⟩ := hQ101
 have N101 := Fr.app N0 N101q
 have q105 : l2 ≠ d101 := Nat.ne_of_lt (Nat.lt_of_lt_of_le F_e_l2.lt z101d)
 have z109 : h0.size ≤ d101 := Nat.le_trans K0.1 z101d
 have K110 : Keep h0 T101.heap [l1, l2] := K0.trans K101 (allS (Or.inl (List.mem_of_getElem? (i := 0) rfl)) all0)
 have q112 : a1 ≠ l1 := Exa.ne E_a1 E_l1 (by decide)
 have z115 := Nat.le_trans Z0 K101.1
 have f116 := O0.keep K101 (allS G_l1 all0)
 have f117 := F_k_a1.keep K101 (ninS q112 nin0)
 have f118 := F_v_a1.keep K101 (ninS q112 nin0)
 have f119 := E_a1.keep K101
 have f124 := F_e_l2.keep K101 (ninS (Ne.symm ne) nin0)
 have f125 := F_s_l2.keep K101 (ninS (Ne.symm ne) nin0)
 have f126 := F_m_l2.keep K101 (ninS (Ne.symm ne) nin0)
 have f127 := E_l2.keep K101
 have f129 := Es3.keep K101
 refine Goes.of (fun t k => st101.trans k) ?_
 refine gO (fun t k => XS.pop X101.here hx rfl (hb hby d29_10) rfl rfl k) ?_
 refine gO (fun t k => XS.aloadN X101.here hx rfl (hb hby d29_11) rfl rfl k) ?_
 show Goes p e below (T101.setTop (mkF m 12 #[.val (.ref a1), .val (.ref a2), .val (.ref a3)] [(.ref a1)])) _
 obtain ⟨T130, X130, e130, st130⟩ := getF X101 hx hZ hown (host := "") (Or.inl (wd hw 36 rfl)) Via.refl rfl f118 (g := (mkF m 12 #[.val (.ref a1), .val (.ref a2), .val (.ref a3)] [(.ref a1)])) rfl rfl (hb hby d29_12)
 refine Goes.of st130 ?_
 refine gO (fun t k => XS.aloadN X130.here hx rfl (hb hby d29_15) rfl rfl k) ?_
 obtain ⟨cq131, kq131, q131a, q131b, q131c⟩ := isOf hZ e130 f127
 obtain ⟨_, _, ⟨T131, L131, k131, n131⟩, -, X131, ⟨Lc131, hQ131, l131, y131, z131⟩, st131⟩ := X130.interfaceBack hx (xi := mn10) (y := mn8) hown (mvT hZ (wd hw 169 rfl)) (mvT hZ (wd hw 170 rfl)) (mvT hZ (wd hw 171 rfl)) (mvT hZ (wd hw 172 rfl)) (mvT hZ (wd hw 173 rfl)) (mvT hZ (wd hw 174 rfl)) (mvT hZ (wd hw 175 rfl)) (mvT hZ (wd hw 74 rfl)) (by decide) (backOf (W := 0) (rm30 l Z a0 hw [] l2 a3 aE kE T101.heap n0 z115 f116 SE AE f127 f124 f125 f126 G_l2 f129) hZ (wd hw 176 rfl) (wd hw 12 rfl) (by decide) (by decide)) q131a q131b q131c (g := (mkF m 16 #[.val (.ref a1), .val (.ref a2), .val (.ref a3)] [(.ref a3), (.ref l2)])) rfl (by rw [hml]; rfl) (Steps.refl _) (argsL := [(.ref a3)]) (rest := []) (lenOf pd_9 rfl) rfl (wr0 rfl rfl) (hb hby d29_16) (fun _ _ => ⟨rfl, e130, (by decide : 1 + 1 ≤ _), (by decide : 10 + 10 ≤ _)⟩)
 dsimp only [Pt.U, Pt.locs, Pt.cells, Pt.slots] at X131 l131 y131 z131 st131 hQ131
 subst l131 y131 z131
 obtain ⟨d131, k131d, rfl, N131q, K131, z131d, O131, E131, F131_e, F131_s, F131_m, V131⟩ := hQ131
 have N131 := Fr.app N101 N131q
 have q138 : d101 ≠ d131 := Nat.ne_of_lt (Nat.lt_of_lt_of_le V101.lt z131d)
 have z140 : h0.size ≤ d131 := Nat.le_trans K110.1 z131d
 have K141 : Keep h0 T131.heap [l1, l2] := K110.trans K131 (allS (Or.inl (List.mem_of_getElem? (i := 1) rfl)) all0)
 have q143 : a1 ≠ l2 := Exa.ne f119 f127 (by decide)
 have f148 := f117.keep K131 (ninS q143 nin0)
 have f149 := f118.keep K131 (ninS q143 nin0)
 have f150 := f119.keep K131
 have f151 := E101.keep K131
 have f158 := F101_e.keep K131 (ninS ne nin0)
 have f159 := F101_s.keep K131 (ninS ne nin0)
 have f160 := F101_m.keep K131 (ninS ne nin0)
 have f161 := V101.keep K131 (ninS (Ne.symm q105) nin0)
 refine Goes.of (fun t k => st131.trans k) ?_
 refine gO (fun t k => XS.pop X131.here hx rfl (hb hby d29_21) rfl rfl k) ?_
 refine gO (fun t k => XS.aloadN X131.here hx rfl (hb hby d29_22) rfl rfl k) ?_
 show Goes p e below (T131.setTop (mkF m 23 #[.val (.ref a1), .val (.ref a2), .val (.ref a3)] [(.ref a1)])) _
 have eh : T131.heap = T131.heap := rfl
 exact Goes.retA X131 hx (by rfl) Bd.returns (by rfl) hlocks (hb hby d29_23) (⟨d101, _, d131, _, rfl, N131, by rw [eh]; exact K141, z109, z140, q138, O101, O131, by rw [eh]; exact f150, by rw [eh]; exact f148, by rw [eh]; exact f149, by rw [eh]; exact f151, by rw [eh]; exact f158, by rw [eh]; exact f159, by rw [eh]; exact f160, by rw [eh]; exact E131, by rw [eh]; exact F131_e, by rw [eh]; exact F131_s, by rw [eh]; exact F131_m, by rw [eh]; exact f161, by rw [eh]; exact V131⟩) (by decide) (by decide)
theorem ef_29_15 (m : MethodId) (x0 x1 x2 : Addr) : entryFrame m #[(.ref x0), (.ref x1), (.ref x2)] 3 = mkF m 0 #[.val (.ref x0), .val (.ref x1), .val (.ref x2)] [] := by first | (simp [entryFrame, mkF, argsToLocals, Value.category]; done) | rfl
def Q29_15 (Z : State) (a1 a2 a3 l1 l2 d1 : Addr) (k1 : ClassId) (d2 : Addr) (k2 : ClassId) (x0 y0 : Addr) (h0 : Heap) (n0 : Nat) (v : Option Value) (h : Heap) (L : List Loc) : Prop := v = some (.ref a1) ∧ Fr n0 L ∧ Keep h0 h [l1, l2, d1, d2] ∧ Exa Z h a1 "com/example/hinta/hinta/Statement" ∧ Fl3 Z h a1 (.ref l1) ∧ Fl4 Z h a1 (.ref l2) ∧ Exa Z h l1 "java/util/ArrayList" ∧ Fl0 Z h l1 (.ref d1) ∧ Fl1 Z h l1 (.int 2) ∧ Fl2 Z h l1 (.int 2) ∧ Exa Z h l2 "java/util/ArrayList" ∧ Fl0 Z h l2 (.ref d2) ∧ Fl1 Z h l2 (.int 2) ∧ Fl2 Z h l2 (.int 2) ∧ Arv Z h d1 k1 (.object "java/lang/Object") (10 : Int32) [(.ref x0), (.ref a2), .null, .null, .null, .null, .null, .null, .null, .null] .null ∧ Arv Z h d2 k2 (.object "java/lang/Object") (10 : Int32) [(.ref y0), (.ref a3), .null, .null, .null, .null, .null, .null, .null, .null] .null
theorem rm29_15 (l : Launch) (Z : State) (a0 : Array Value) (hw : ∀ d ∈ tables_1, d.before a0 Z = true) (ws : List Jvm.Cond) (a1 a2 a3 l1 l2 d1 : Addr) (k1 : ClassId) (d2 : Addr) (k2 : ClassId) (x0 y0 : Addr) (h0 : Heap) (n0 : Nat) (Z0 : n0 ≤ h0.size) (E_a1 : Exa Z h0 a1 "com/example/hinta/hinta/Statement") (F_k_a1 : Fl3 Z h0 a1 (.ref l1)) (F_v_a1 : Fl4 Z h0 a1 (.ref l2)) (E_l1 : Exa Z h0 l1 "java/util/ArrayList") (F_e_l1 : Fl0 Z h0 l1 (.ref d1)) (F_s_l1 : Fl1 Z h0 l1 (.int 1)) (F_m_l1 : Fl2 Z h0 l1 (.int 1)) (E_l2 : Exa Z h0 l2 "java/util/ArrayList") (F_e_l2 : Fl0 Z h0 l2 (.ref d2)) (F_s_l2 : Fl1 Z h0 l2 (.int 1)) (F_m_l2 : Fl2 Z h0 l2 (.int 1)) (A1 : Arv Z h0 d1 k1 (.object "java/lang/Object") (10 : Int32) [(.ref x0), .null, .null, .null, .null, .null, .null, .null, .null, .null] .null) (A2 : Arv Z h0 d2 k2 (.object "java/lang/Object") (10 : Int32) [(.ref y0), .null, .null, .null, .null, .null, .null, .null, .null, .null] .null) (ne : l1 ≠ l2) (G_l1 : n0 ≤ l1) (G_l2 : n0 ≤ l2) (nd : d1 ≠ d2) (G_d1 : n0 ≤ d1) (G_d2 : n0 ≤ d2) (Ov1 : Ovr Z k1 "java/lang/Object") (Ov2 : Ovr Z k2 "java/lang/Object") (Es2 : Exa Z h0 a2 "java/lang/String") (Es3 : Exa Z h0 a3 "java/lang/String") :
 CT l Z mn9 prog_26_method_2_code 3 (some (.object "com/example/hinta/hinta/Statement")) ws (⟨2, 0, 0, 28⟩ : Room) #[(.ref a1), (.ref a2), (.ref a3)] h0 (Q29_15 Z a1 a2 a3 l1 l2 d1 k1 d2 k2 x0 y0 h0 n0) := by
 refine MetFree.of_bodySF (plainFor_of_name pn_4) hisR ?_
 intro p e s m args below meth c s₁ Bd hml0 hP hK
 obtain ⟨rfl, hZ, hh⟩ := hP
 have hx := Bd.exec
 have hby := Bd.bytes
 have hml : c.maxLocals = 3 := hml0
 have hown : s.vm.findClass "com/example/hinta/hinta/Statement" = some m.cls := findClass_of_methodNamed Bd.named
 have hnm := (name_of_methodNamed Bd.named Bd.method).1
 have hlocks : meth.locks = false := BodyLoose.notSynchronized Bd
 have X0 : Stand p l e (⟨2, 0, 0, 28⟩ : Room) s m #[(.ref a1), (.ref a2), (.ref a3)] below meth c s₁ [] 0 0 := Stand.of_body Bd
 have e0 : s₁.heap = h0 := by rw [← hh, Bd.state]; rfl
 have N0 := Fr.nil n0
 show Goes p e below (s₁.setTop (entryFrame m #[(.ref a1), (.ref a2), (.ref a3)] 3)) (Fin s (Q29_15 Z a1 a2 a3 l1 l2 d1 k1 d2 k2 x0 y0 h0 n0) (⟨2, 0, 0, 28⟩ : Room).cells (⟨2, 0, 0, 28⟩ : Room).slots)
 refine Goes.of (fun t k => castTop (ef_29_15 m a1 a2 a3) k) ?_
 have K0 : Keep h0 h0 [l1, l2, d1, d2] := Keep.refl _ _
 refine gO (fun t k => XS.aloadN X0.here hx rfl (hb hby d29_0) rfl rfl k) ?_
 obtain ⟨T100, X100, e100, st100⟩ := getF X0 hx hZ hown (host := "") (Or.inl (wd hw 34 rfl)) Via.refl e0 F_k_a1 (g := (mkF m 1 #[.val (.ref a1), .val (.ref a2), .val (.ref a3)] [(.ref a1)])) rfl rfl (hb hby d29_1)
 refine Goes.of st100 ?_
 refine gO (fun t k => XS.aloadN X100.here hx rfl (hb hby d29_4) rfl rfl k) ?_
 obtain ⟨cq101, kq101, q101a, q101b, q101c⟩ := isOf hZ e100 E_l1
 obtain ⟨_, _, ⟨T101, L101, k101, n101⟩, -, X101, ⟨Lc101, hQ101, l101, y101, z101⟩, st101⟩ := X100.interfaceBack hx (xi := mn10) (y := mn8) hown (mvT hZ (wd hw 169 rfl)) (mvT hZ (wd hw 170 rfl)) (mvT hZ (wd hw 171 rfl)) (mvT hZ (wd hw 172 rfl)) (mvT hZ (wd hw 173 rfl)) (mvT hZ (wd hw 174 rfl)) (mvT hZ (wd hw 175 rfl)) (mvT hZ (wd hw 74 rfl)) (by decide) (backOf (W := 0) (rm30_11 l Z a0 hw [] l1 a2 d1 k1 x0 h0 n0 Z0 E_l1 F_e_l1 F_s_l1 F_m_l1 G_l1 A1 G_d1 Ov1 Es2) hZ (wd hw 176 rfl) (wd hw 12 rfl) (by decide) (by decide)) q101a q101b q101c (g := (mkF m 5 #[.val (.ref a1), .val (.ref a2), .val (.ref a3)] [(.ref a2), (.ref l1)])) rfl (by rw [hml]; rfl) (Steps.refl _) (argsL := [(.ref a2)]) (rest := []) (lenOf pd_9 rfl) rfl (wr0 rfl rfl) (hb hby d29_5) (fun _ _ => ⟨rfl, e100, (by decide : 0 + 0 ≤ _), (by decide : 0 + 0 ≤ _)⟩)
 dsimp only [Pt.U, Pt.locs, Pt.cells, Pt.slots] at X101 l101 y101 z101 st101 hQ101
 subst l101 y101 z101
 obtain ⟨rfl, N101q, K101, E101, F101_e, F101_s, F101_m, V101⟩ := hQ101
 have N101 := Fr.app N0 N101q
 have K102 : Keep h0 T101.heap [l1, l2, d1, d2] := K0.trans K101 (allS (Or.inl (List.mem_of_getElem? (i := 0) rfl)) (allS (Or.inl (List.mem_of_getElem? (i := 2) rfl)) all0))
 have q103 : a1 ≠ l1 := Exa.ne E_a1 E_l1 (by decide)
 have q105 : d2 ≠ l1 := Ne.symm (Exa.neArv E_l1 A2 (wd hw 11 rfl))
 have q108 : a1 ≠ d1 := Exa.neArv E_a1 A1 (wd hw 2 rfl)
 have q109 : l2 ≠ d1 := Exa.neArv E_l2 A1 (wd hw 11 rfl)
 have z112 := Nat.le_trans Z0 K101.1
 have f113 := F_k_a1.keep K101 (ninS q103 (ninS q108 nin0))
 have f114 := F_v_a1.keep K101 (ninS q103 (ninS q108 nin0))
 have f115 := E_a1.keep K101
 have f120 := F_e_l2.keep K101 (ninS (Ne.symm ne) (ninS q109 nin0))
 have f121 := F_s_l2.keep K101 (ninS (Ne.symm ne) (ninS q109 nin0))
 have f122 := F_m_l2.keep K101 (ninS (Ne.symm ne) (ninS q109 nin0))
 have f123 := E_l2.keep K101
 have f125 := A2.keep K101 (ninS q105 (ninS (Ne.symm nd) nin0))
 have f127 := Es3.keep K101
 refine Goes.of (fun t k => st101.trans k) ?_
 refine gO (fun t k => XS.pop X101.here hx rfl (hb hby d29_10) rfl rfl k) ?_
 refine gO (fun t k => XS.aloadN X101.here hx rfl (hb hby d29_11) rfl rfl k) ?_
 show Goes p e below (T101.setTop (mkF m 12 #[.val (.ref a1), .val (.ref a2), .val (.ref a3)] [(.ref a1)])) _
 obtain ⟨T128, X128, e128, st128⟩ := getF X101 hx hZ hown (host := "") (Or.inl (wd hw 36 rfl)) Via.refl rfl f114 (g := (mkF m 12 #[.val (.ref a1), .val (.ref a2), .val (.ref a3)] [(.ref a1)])) rfl rfl (hb hby d29_12)
 refine Goes.of st128 ?_
 refine gO (fun t k => XS.aloadN X128.here hx rfl (hb hby d29_15) rfl rfl k) ?_
 obtain ⟨cq129, kq129, q129a, q129b, q129c⟩ := isOf hZ e128 f123
 obtain ⟨_, _, ⟨T129, L129, k129, n129⟩, -, X129, ⟨Lc129, hQ129, l129, y129, z129⟩, st129⟩ := X128.interfaceBack hx (xi := mn10) (y := mn8) hown (mvT hZ (wd hw 169 rfl)) (mvT hZ (wd hw 170 rfl)) (mvT hZ (wd hw 171 rfl)) (mvT hZ (wd hw 172 rfl)) (mvT hZ (wd hw 173 rfl)) (mvT hZ (wd hw 174 rfl)) (mvT hZ (wd hw 175 rfl)) (mvT hZ (wd hw 74 rfl)) (by decide) (backOf (W := 0) (rm30_11 l Z a0 hw [] l2 a3 d2 k2 y0 T101.heap n0 z112 f123 f120 f121 f122 G_l2 f125 G_d2 Ov2 f127) hZ (wd hw 176 rfl) (wd hw 12 rfl) (by decide) (by decide)) q129a q129b q129c (g := (mkF m 16 #[.val (.ref a1), .val (.ref a2), .val (.ref a3)] [(.ref a3), (.ref l2)])) rfl (by rw [hml]; rfl) (Steps.refl _) (argsL := [(.ref a3)]) (rest := []) (lenOf pd_9 rfl) rfl (wr0 rfl rfl) (hb hby d29_16) (fun _ _ => ⟨rfl, e128, (by decide : 0 + 0 ≤ _), (by decide : 0 + 0 ≤ _)⟩)
 dsimp only [Pt.U, Pt.locs, Pt.cells, Pt.slots] at X129 l129 y129 z129 st129 hQ129
 subst l129 y129 z129
 obtain ⟨rfl, N129q, K129, E129, F129_e, F129_s, F129_m, V129⟩ := hQ129
 have N129 := Fr.app N101 N129q
 have K130 : Keep h0 T129.heap [l1, l2, d1, d2] := K102.trans K129 (allS (Or.inl (List.mem_of_getElem? (i := 1) rfl)) (allS (Or.inl (List.mem_of_getElem? (i := 3) rfl)) all0))
 have q131 : a1 ≠ l2 := Exa.ne f115 f123 (by decide)
 have q135 : a1 ≠ d2 := Exa.neArv f115 f125 (wd hw 2 rfl)
 have f139 := f113.keep K129 (ninS q131 (ninS q135 nin0))
 have f140 := f114.keep K129 (ninS q131 (ninS q135 nin0))
 have f141 := f115.keep K129
 have f142 := E101.keep K129
 have f150 := F101_e.keep K129 (ninS ne (ninS (Ne.symm q105) nin0))
 have f151 := F101_s.keep K129 (ninS ne (ninS (Ne.symm q105) nin0))
 have f152 := F101_m.keep K129 (ninS ne (ninS (Ne.symm q105) nin0))
 have f153 := V101.keep K129 (ninS (Ne.symm q109) (ninS nd nin0))
 refine Goes.of (fun t k => st129.trans k) ?_
 refine gO (fun t k => XS.pop X129.here hx rfl (hb hby d29_21) rfl rfl k) ?_
 refine gO (fun t k => XS.aloadN X129.here hx rfl (hb hby d29_22) rfl rfl k) ?_
 show Goes p e below (T129.setTop (mkF m 23 #[.val (.ref a1), .val (.ref a2), .val (.ref a3)] [(.ref a1)])) _
 have eh : T129.heap = T129.heap := rfl
 exact Goes.retA X129 hx (by rfl) Bd.returns (by rfl) hlocks (hb hby d29_23) (⟨rfl, N129, by rw [eh]; exact K130, by rw [eh]; exact f141, by rw [eh]; exact f139, by rw [eh]; exact f140, by rw [eh]; exact f142, by rw [eh]; exact f150, by rw [eh]; exact f151, by rw [eh]; exact f152, by rw [eh]; exact E129, by rw [eh]; exact F129_e, by rw [eh]; exact F129_s, by rw [eh]; exact F129_m, by rw [eh]; exact f153, by rw [eh]; exact V129⟩) (by decide) (by decide)
theorem ef_29_16 (m : MethodId) (x0 x1 x2 : Addr) : entryFrame m #[(.ref x0), (.ref x1), (.ref x2)] 3 = mkF m 0 #[.val (.ref x0), .val (.ref x1), .val (.ref x2)] [] := by first | (simp [entryFrame, mkF, argsToLocals, Value.category]; done) | rfl
def Q29_16 (Z : State) (a1 a2 a3 l1 l2 d1 : Addr) (k1 : ClassId) (d2 : Addr) (k2 : ClassId) (x0 x1 y0 y1 : Addr) (h0 : Heap) (n0 : Nat) (v : Option Value) (h : Heap) (L : List Loc) : Prop := v = some (.ref a1) ∧ Fr n0 L ∧ Keep h0 h [l1, l2, d1, d2] ∧ Exa Z h a1 "com/example/hinta/hinta/Statement" ∧ Fl3 Z h a1 (.ref l1) ∧ Fl4 Z h a1 (.ref l2) ∧ Exa Z h l1 "java/util/ArrayList" ∧ Fl0 Z h l1 (.ref d1) ∧ Fl1 Z h l1 (.int 3) ∧ Fl2 Z h l1 (.int 3) ∧ Exa Z h l2 "java/util/ArrayList" ∧ Fl0 Z h l2 (.ref d2) ∧ Fl1 Z h l2 (.int 3) ∧ Fl2 Z h l2 (.int 3) ∧ Arv Z h d1 k1 (.object "java/lang/Object") (10 : Int32) [(.ref x0), (.ref x1), (.ref a2), .null, .null, .null, .null, .null, .null, .null] .null ∧ Arv Z h d2 k2 (.object "java/lang/Object") (10 : Int32) [(.ref y0), (.ref y1), (.ref a3), .null, .null, .null, .null, .null, .null, .null] .null
theorem rm29_16 (l : Launch) (Z : State) (a0 : Array Value) (hw : ∀ d ∈ tables_1, d.before a0 Z = true) (ws : List Jvm.Cond) (a1 a2 a3 l1 l2 d1 : Addr) (k1 : ClassId) (d2 : Addr) (k2 : ClassId) (x0 x1 y0 y1 : Addr) (h0 : Heap) (n0 : Nat) (Z0 : n0 ≤ h0.size) (E_a1 : Exa Z h0 a1 "com/example/hinta/hinta/Statement") (F_k_a1 : Fl3 Z h0 a1 (.ref l1)) (F_v_a1 : Fl4 Z h0 a1 (.ref l2)) (E_l1 : Exa Z h0 l1 "java/util/ArrayList") (F_e_l1 : Fl0 Z h0 l1 (.ref d1)) (F_s_l1 : Fl1 Z h0 l1 (.int 2)) (F_m_l1 : Fl2 Z h0 l1 (.int 2)) (E_l2 : Exa Z h0 l2 "java/util/ArrayList") (F_e_l2 : Fl0 Z h0 l2 (.ref d2)) (F_s_l2 : Fl1 Z h0 l2 (.int 2)) (F_m_l2 : Fl2 Z h0 l2 (.int 2)) (A1 : Arv Z h0 d1 k1 (.object "java/lang/Object") (10 : Int32) [(.ref x0), (.ref x1), .null, .null, .null, .null, .null, .null, .null, .null] .null) (A2 : Arv Z h0 d2 k2 (.object "java/lang/Object") (10 : Int32) [(.ref y0), (.ref y1), .null, .null, .null, .null, .null, .null, .null, .null] .null) (ne : l1 ≠ l2) (G_l1 : n0 ≤ l1) (G_l2 : n0 ≤ l2) (nd : d1 ≠ d2) (G_d1 : n0 ≤ d1) (G_d2 : n0 ≤ d2) (Ov1 : Ovr Z k1 "java/lang/Object") (Ov2 : Ovr Z k2 "java/lang/Object") (Es2 : Exa Z h0 a2 "java/lang/String") (Es3 : Exa Z h0 a3 "java/lang/String") :
 CT l Z mn9 prog_26_method_2_code 3 (some (.object "com/example/hinta/hinta/Statement")) ws (⟨2, 0, 0, 28⟩ : Room) #[(.ref a1), (.ref a2), (.ref a3)] h0 (Q29_16 Z a1 a2 a3 l1 l2 d1 k1 d2 k2 x0 x1 y0 y1 h0 n0) := by
 refine MetFree.of_bodySF (plainFor_of_name pn_4) hisR ?_
 intro p e s m args below meth c s₁ Bd hml0 hP hK
 obtain ⟨rfl, hZ, hh⟩ := hP
 have hx := Bd.exec
 have hby := Bd.bytes
 have hml : c.maxLocals = 3 := hml0
 have hown : s.vm.findClass "com/example/hinta/hinta/Statement" = some m.cls := findClass_of_methodNamed Bd.named
 have hnm := (name_of_methodNamed Bd.named Bd.method).1
 have hlocks : meth.locks = false := BodyLoose.notSynchronized Bd
 have X0 : Stand p l e (⟨2, 0, 0, 28⟩ : Room) s m #[(.ref a1), (.ref a2), (.ref a3)] below meth c s₁ [] 0 0 := Stand.of_body Bd
 have e0 : s₁.heap = h0 := by rw [← hh, Bd.state]; rfl
 have N0 := Fr.nil n0
 show Goes p e below (s₁.setTop (entryFrame m #[(.ref a1), (.ref a2), (.ref a3)] 3)) (Fin s (Q29_16 Z a1 a2 a3 l1 l2 d1 k1 d2 k2 x0 x1 y0 y1 h0 n0) (⟨2, 0, 0, 28⟩ : Room).cells (⟨2, 0, 0, 28⟩ : Room).slots)
 refine Goes.of (fun t k => castTop (ef_29_16 m a1 a2 a3) k) ?_
 have K0 : Keep h0 h0 [l1, l2, d1, d2] := Keep.refl _ _
 refine gO (fun t k => XS.aloadN X0.here hx rfl (hb hby d29_0) rfl rfl k) ?_
 obtain ⟨T100, X100, e100, st100⟩ := getF X0 hx hZ hown (host := "") (Or.inl (wd hw 34 rfl)) Via.refl e0 F_k_a1 (g := (mkF m 1 #[.val (.ref a1), .val (.ref a2), .val (.ref a3)] [(.ref a1)])) rfl rfl (hb hby d29_1)
 refine Goes.of st100 ?_
 refine gO (fun t k => XS.aloadN X100.here hx rfl (hb hby d29_4) rfl rfl k) ?_
 obtain ⟨cq101, kq101, q101a, q101b, q101c⟩ := isOf hZ e100 E_l1
 obtain ⟨_, _, ⟨T101, L101, k101, n101⟩, -, X101, ⟨Lc101, hQ101, l101, y101, z101⟩, st101⟩ := X100.interfaceBack hx (xi := mn10) (y := mn8) hown (mvT hZ (wd hw 169 rfl)) (mvT hZ (wd hw 170 rfl)) (mvT hZ (wd hw 171 rfl)) (mvT hZ (wd hw 172 rfl)) (mvT hZ (wd hw 173 rfl)) (mvT hZ (wd hw 174 rfl)) (mvT hZ (wd hw 175 rfl)) (mvT hZ (wd hw 74 rfl)) (by decide) (backOf (W := 0) (rm30_13 l Z a0 hw [] l1 a2 d1 k1 x0 x1 h0 n0 Z0 E_l1 F_e_l1 F_s_l1 F_m_l1 G_l1 A1 G_d1 Ov1 Es2) hZ (wd hw 176 rfl) (wd hw 12 rfl) (by decide) (by decide)) q101a q101b q101c (g := (mkF m 5 #[.val (.ref a1), .val (.ref a2), .val (.ref a3)] [(.ref a2), (.ref l1)])) rfl (by rw [hml]; rfl) (Steps.refl _) (argsL := [(.ref a2)]) (rest := []) (lenOf pd_9 rfl) rfl (wr0 rfl rfl) (hb hby d29_5) (fun _ _ => ⟨rfl, e100, (by decide : 0 + 0 ≤ _), (by decide : 0 + 0 ≤ _)⟩)
 dsimp only [Pt.U, Pt.locs, Pt.cells, Pt.slots] at X101 l101 y101 z101 st101 hQ101
 subst l101 y101 z101
 obtain ⟨rfl, N101q, K101, E101, F101_e, F101_s, F101_m, V101⟩ := hQ101
 have N101 := Fr.app N0 N101q
 have K102 : Keep h0 T101.heap [l1, l2, d1, d2] := K0.trans K101 (allS (Or.inl (List.mem_of_getElem? (i := 0) rfl)) (allS (Or.inl (List.mem_of_getElem? (i := 2) rfl)) all0))
 have q103 : a1 ≠ l1 := Exa.ne E_a1 E_l1 (by decide)
 have q105 : d2 ≠ l1 := Ne.symm (Exa.neArv E_l1 A2 (wd hw 11 rfl))
 have q108 : a1 ≠ d1 := Exa.neArv E_a1 A1 (wd hw 2 rfl)
 have q109 : l2 ≠ d1 := Exa.neArv E_l2 A1 (wd hw 11 rfl)
 have z112 := Nat.le_trans Z0 K101.1
 have f113 := F_k_a1.keep K101 (ninS q103 (ninS q108 nin0))
 have f114 := F_v_a1.keep K101 (ninS q103 (ninS q108 nin0))
 have f115 := E_a1.keep K101
 have f120 := F_e_l2.keep K101 (ninS (Ne.symm ne) (ninS q109 nin0))
 have f121 := F_s_l2.keep K101 (ninS (Ne.symm ne) (ninS q109 nin0))
 have f122 := F_m_l2.keep K101 (ninS (Ne.symm ne) (ninS q109 nin0))
 have f123 := E_l2.keep K101
 have f125 := A2.keep K101 (ninS q105 (ninS (Ne.symm nd) nin0))
 have f127 := Es3.keep K101
 refine Goes.of (fun t k => st101.trans k) ?_
 refine gO (fun t k => XS.pop X101.here hx rfl (hb hby d29_10) rfl rfl k) ?_
 refine gO (fun t k => XS.aloadN X101.here hx rfl (hb hby d29_11) rfl rfl k) ?_
 show Goes p e below (T101.setTop (mkF m 12 #[.val (.ref a1), .val (.ref a2), .val (.ref a3)] [(.ref a1)])) _
 obtain ⟨T128, X128, e128, st128⟩ := getF X101 hx hZ hown (host := "") (Or.inl (wd hw 36 rfl)) Via.refl rfl f114 (g := (mkF m 12 #[.val (.ref a1), .val (.ref a2), .val (.ref a3)] [(.ref a1)])) rfl rfl (hb hby d29_12)
 refine Goes.of st128 ?_
 refine gO (fun t k => XS.aloadN X128.here hx rfl (hb hby d29_15) rfl rfl k) ?_
 obtain ⟨cq129, kq129, q129a, q129b, q129c⟩ := isOf hZ e128 f123
 obtain ⟨_, _, ⟨T129, L129, k129, n129⟩, -, X129, ⟨Lc129, hQ129, l129, y129, z129⟩, st129⟩ := X128.interfaceBack hx (xi := mn10) (y := mn8) hown (mvT hZ (wd hw 169 rfl)) (mvT hZ (wd hw 170 rfl)) (mvT hZ (wd hw 171 rfl)) (mvT hZ (wd hw 172 rfl)) (mvT hZ (wd hw 173 rfl)) (mvT hZ (wd hw 174 rfl)) (mvT hZ (wd hw 175 rfl)) (mvT hZ (wd hw 74 rfl)) (by decide) (backOf (W := 0) (rm30_13 l Z a0 hw [] l2 a3 d2 k2 y0 y1 T101.heap n0 z112 f123 f120 f121 f122 G_l2 f125 G_d2 Ov2 f127) hZ (wd hw 176 rfl) (wd hw 12 rfl) (by decide) (by decide)) q129a q129b q129c (g := (mkF m 16 #[.val (.ref a1), .val (.ref a2), .val (.ref a3)] [(.ref a3), (.ref l2)])) rfl (by rw [hml]; rfl) (Steps.refl _) (argsL := [(.ref a3)]) (rest := []) (lenOf pd_9 rfl) rfl (wr0 rfl rfl) (hb hby d29_16) (fun _ _ => ⟨rfl, e128, (by decide : 0 + 0 ≤ _), (by decide : 0 + 0 ≤ _)⟩)
 dsimp only [Pt.U, Pt.locs, Pt.cells, Pt.slots] at X129 l129 y129 z129 st129 hQ129
 subst l129 y129 z129
 obtain ⟨rfl, N129q, K129, E129, F129_e, F129_s, F129_m, V129⟩ := hQ129
 have N129 := Fr.app N101 N129q
 have K130 : Keep h0 T129.heap [l1, l2, d1, d2] := K102.trans K129 (allS (Or.inl (List.mem_of_getElem? (i := 1) rfl)) (allS (Or.inl (List.mem_of_getElem? (i := 3) rfl)) all0))
 have q131 : a1 ≠ l2 := Exa.ne f115 f123 (by decide)
 have q135 : a1 ≠ d2 := Exa.neArv f115 f125 (wd hw 2 rfl)
 have f139 := f113.keep K129 (ninS q131 (ninS q135 nin0))
 have f140 := f114.keep K129 (ninS q131 (ninS q135 nin0))
 have f141 := f115.keep K129
 have f142 := E101.keep K129
 have f150 := F101_e.keep K129 (ninS ne (ninS (Ne.symm q105) nin0))
 have f151 := F101_s.keep K129 (ninS ne (ninS (Ne.symm q105) nin0))
 have f152 := F101_m.keep K129 (ninS ne (ninS (Ne.symm q105) nin0))
 have f153 := V101.keep K129 (ninS (Ne.symm q109) (ninS nd nin0))
 refine Goes.of (fun t k => st129.trans k) ?_
 refine gO (fun t k => XS.pop X129.here hx rfl (hb hby d29_21) rfl rfl k) ?_
 refine gO (fun t k => XS.aloadN X129.here hx rfl (hb hby d29_22) rfl rfl k) ?_
 show Goes p e below (T129.setTop (mkF m 23 #[.val (.ref a1), .val (.ref a2), .val (.ref a3)] [(.ref a1)])) _
 have eh : T129.heap = T129.heap := rfl
 exact Goes.retA X129 hx (by rfl) Bd.returns (by rfl) hlocks (hb hby d29_23) (⟨rfl, N129, by rw [eh]; exact K130, by rw [eh]; exact f141, by rw [eh]; exact f139, by rw [eh]; exact f140, by rw [eh]; exact f142, by rw [eh]; exact f150, by rw [eh]; exact f151, by rw [eh]; exact f152, by rw [eh]; exact E129, by rw [eh]; exact F129_e, by rw [eh]; exact F129_s, by rw [eh]; exact F129_m, by rw [eh]; exact f153, by rw [eh]; exact V129⟩) (by decide) (by decide)
theorem ef_10 (m : MethodId) (x0 : Addr) : entryFrame m #[(.ref x0)] 1 = mkF m 0 #[.val (.ref x0)] [] := by first | (simp [entryFrame, mkF, argsToLocals, Value.category]; done) | rfl
def Q10 (Z : State) (a1 : Addr) (h0 : Heap) (n0 : Nat) (v : Option Value) (h : Heap) (L : List Loc) : Prop := v = some (.int (0 : Int32)) ∧ Fr n0 L ∧ h = h0
theorem rm10 (l : Launch) (Z : State) (a0 : Array Value) (hw : ∀ d ∈ tables_1, d.before a0 Z = true) (ws : List Jvm.Cond) (a1 : Addr) (h0 : Heap) (n0 : Nat) (Z0 : n0 ≤ h0.size) (F : Fl1 Z h0 a1 (.int 0)) :
 CT l Z mn11 jdk_38_method_8_code 1 (some .int) ws (⟨0, 0, 0, 0⟩ : Room) #[(.ref a1)] h0 (Q10 Z a1 h0 n0) := by
 refine MetFree.of_bodySF (plainFor_of_name pn_3) hisR ?_
 intro p e s m args below meth c s₁ Bd hml0 hP hK
 obtain ⟨rfl, hZ, hh⟩ := hP
 have hx := Bd.exec
 have hby := Bd.bytes
 have hml : c.maxLocals = 1 := hml0
 have hown : s.vm.findClass "java/util/ArrayList" = some m.cls := findClass_of_methodNamed Bd.named
 have hnm := (name_of_methodNamed Bd.named Bd.method).1
 have hlocks : meth.locks = false := BodyLoose.notSynchronized Bd
 have X0 : Stand p l e (⟨0, 0, 0, 0⟩ : Room) s m #[(.ref a1)] below meth c s₁ [] 0 0 := Stand.of_body Bd
 have e0 : s₁.heap = h0 := by rw [← hh, Bd.state]; rfl
 have N0 := Fr.nil n0
 show Goes p e below (s₁.setTop (entryFrame m #[(.ref a1)] 1)) (Fin s (Q10 Z a1 h0 n0) (⟨0, 0, 0, 0⟩ : Room).cells (⟨0, 0, 0, 0⟩ : Room).slots)
 refine Goes.of (fun t k => castTop (ef_10 m a1) k) ?_
 refine gO (fun t k => XS.aloadN X0.here hx rfl (hb hby d10_0) rfl rfl k) ?_
 obtain ⟨T100, X100, e100, st100⟩ := getF X0 hx hZ hown (host := "") (Or.inl (wd hw 76 rfl)) Via.refl e0 F (g := (mkF m 1 #[.val (.ref a1)] [(.ref a1)])) rfl rfl (hb hby d10_1)
 refine Goes.of st100 ?_
 show Goes p e below (T100.setTop (mkF m 4 #[.val (.ref a1)] [(.int 0)])) _
 exact Goes.retI X100 hx Bd.returns hlocks (hb hby d10_4) (⟨rfl, N0, e100⟩) (by decide) (by decide)
theorem ef_10_18 (m : MethodId) (x0 : Addr) : entryFrame m #[(.ref x0)] 1 = mkF m 0 #[.val (.ref x0)] [] := by first | (simp [entryFrame, mkF, argsToLocals, Value.category]; done) | rfl
def Q10_18 (Z : State) (a1 : Addr) (h0 : Heap) (n0 : Nat) (v : Option Value) (h : Heap) (L : List Loc) : Prop := v = some (.int (1 : Int32)) ∧ Fr n0 L ∧ h = h0
theorem rm10_18 (l : Launch) (Z : State) (a0 : Array Value) (hw : ∀ d ∈ tables_1, d.before a0 Z = true) (ws : List Jvm.Cond) (a1 : Addr) (h0 : Heap) (n0 : Nat) (Z0 : n0 ≤ h0.size) (F : Fl1 Z h0 a1 (.int 1)) :
 CT l Z mn11 jdk_38_method_8_code 1 (some .int) ws (⟨0, 0, 0, 0⟩ : Room) #[(.ref a1)] h0 (Q10_18 Z a1 h0 n0) := by
 refine MetFree.of_bodySF (plainFor_of_name pn_3) hisR ?_
 intro p e s m args below meth c s₁ Bd hml0 hP hK
 obtain ⟨rfl, hZ, hh⟩ := hP
 have hx := Bd.exec
 have hby := Bd.bytes
 have hml : c.maxLocals = 1 := hml0
 have hown : s.vm.findClass "java/util/ArrayList" = some m.cls := findClass_of_methodNamed Bd.named
 have hnm := (name_of_methodNamed Bd.named Bd.method).1
 have hlocks : meth.locks = false := BodyLoose.notSynchronized Bd
 have X0 : Stand p l e (⟨0, 0, 0, 0⟩ : Room) s m #[(.ref a1)] below meth c s₁ [] 0 0 := Stand.of_body Bd
 have e0 : s₁.heap = h0 := by rw [← hh, Bd.state]; rfl
 have N0 := Fr.nil n0
 show Goes p e below (s₁.setTop (entryFrame m #[(.ref a1)] 1)) (Fin s (Q10_18 Z a1 h0 n0) (⟨0, 0, 0, 0⟩ : Room).cells (⟨0, 0, 0, 0⟩ : Room).slots)
 refine Goes.of (fun t k => castTop (ef_10_18 m a1) k) ?_
 refine gO (fun t k => XS.aloadN X0.here hx rfl (hb hby d10_0) rfl rfl k) ?_
 obtain ⟨T100, X100, e100, st100⟩ := getF X0 hx hZ hown (host := "") (Or.inl (wd hw 76 rfl)) Via.refl e0 F (g := (mkF m 1 #[.val (.ref a1)] [(.ref a1)])) rfl rfl (hb hby d10_1)
 refine Goes.of st100 ?_
 show Goes p e below (T100.setTop (mkF m 4 #[.val (.ref a1)] [(.int 1)])) _
 exact Goes.retI X100 hx Bd.returns hlocks (hb hby d10_4) (⟨rfl, N0, e100⟩) (by decide) (by decide)
theorem ef_10_19 (m : MethodId) (x0 : Addr) : entryFrame m #[(.ref x0)] 1 = mkF m 0 #[.val (.ref x0)] [] := by first | (simp [entryFrame, mkF, argsToLocals, Value.category]; done) | rfl
def Q10_19 (Z : State) (a1 : Addr) (h0 : Heap) (n0 : Nat) (v : Option Value) (h : Heap) (L : List Loc) : Prop := v = some (.int (2 : Int32)) ∧ Fr n0 L ∧ h = h0
theorem rm10_19 (l : Launch) (Z : State) (a0 : Array Value) (hw : ∀ d ∈ tables_1, d.before a0 Z = true) (ws : List Jvm.Cond) (a1 : Addr) (h0 : Heap) (n0 : Nat) (Z0 : n0 ≤ h0.size) (F : Fl1 Z h0 a1 (.int 2)) :
 CT l Z mn11 jdk_38_method_8_code 1 (some .int) ws (⟨0, 0, 0, 0⟩ : Room) #[(.ref a1)] h0 (Q10_19 Z a1 h0 n0) := by
 refine MetFree.of_bodySF (plainFor_of_name pn_3) hisR ?_
 intro p e s m args below meth c s₁ Bd hml0 hP hK
 obtain ⟨rfl, hZ, hh⟩ := hP
 have hx := Bd.exec
 have hby := Bd.bytes
 have hml : c.maxLocals = 1 := hml0
 have hown : s.vm.findClass "java/util/ArrayList" = some m.cls := findClass_of_methodNamed Bd.named
 have hnm := (name_of_methodNamed Bd.named Bd.method).1
 have hlocks : meth.locks = false := BodyLoose.notSynchronized Bd
 have X0 : Stand p l e (⟨0, 0, 0, 0⟩ : Room) s m #[(.ref a1)] below meth c s₁ [] 0 0 := Stand.of_body Bd
 have e0 : s₁.heap = h0 := by rw [← hh, Bd.state]; rfl
 have N0 := Fr.nil n0
 show Goes p e below (s₁.setTop (entryFrame m #[(.ref a1)] 1)) (Fin s (Q10_19 Z a1 h0 n0) (⟨0, 0, 0, 0⟩ : Room).cells (⟨0, 0, 0, 0⟩ : Room).slots)
 refine Goes.of (fun t k => castTop (ef_10_19 m a1) k) ?_
 refine gO (fun t k => XS.aloadN X0.here hx rfl (hb hby d10_0) rfl rfl k) ?_
 obtain ⟨T100, X100, e100, st100⟩ := getF X0 hx hZ hown (host := "") (Or.inl (wd hw 76 rfl)) Via.refl e0 F (g := (mkF m 1 #[.val (.ref a1)] [(.ref a1)])) rfl rfl (hb hby d10_1)
 refine Goes.of st100 ?_
 show Goes p e below (T100.setTop (mkF m 4 #[.val (.ref a1)] [(.int 2)])) _
 exact Goes.retI X100 hx Bd.returns hlocks (hb hby d10_4) (⟨rfl, N0, e100⟩) (by decide) (by decide)
theorem ef_10_20 (m : MethodId) (x0 : Addr) : entryFrame m #[(.ref x0)] 1 = mkF m 0 #[.val (.ref x0)] [] := by first | (simp [entryFrame, mkF, argsToLocals, Value.category]; done) | rfl
def Q10_20 (Z : State) (a1 : Addr) (h0 : Heap) (n0 : Nat) (v : Option Value) (h : Heap) (L : List Loc) : Prop := v = some (.int (3 : Int32)) ∧ Fr n0 L ∧ h = h0
theorem rm10_20 (l : Launch) (Z : State) (a0 : Array Value) (hw : ∀ d ∈ tables_1, d.before a0 Z = true) (ws : List Jvm.Cond) (a1 : Addr) (h0 : Heap) (n0 : Nat) (Z0 : n0 ≤ h0.size) (F : Fl1 Z h0 a1 (.int 3)) :
 CT l Z mn11 jdk_38_method_8_code 1 (some .int) ws (⟨0, 0, 0, 0⟩ : Room) #[(.ref a1)] h0 (Q10_20 Z a1 h0 n0) := by
 refine MetFree.of_bodySF (plainFor_of_name pn_3) hisR ?_
 intro p e s m args below meth c s₁ Bd hml0 hP hK
 obtain ⟨rfl, hZ, hh⟩ := hP
 have hx := Bd.exec
 have hby := Bd.bytes
 have hml : c.maxLocals = 1 := hml0
 have hown : s.vm.findClass "java/util/ArrayList" = some m.cls := findClass_of_methodNamed Bd.named
 have hnm := (name_of_methodNamed Bd.named Bd.method).1
 have hlocks : meth.locks = false := BodyLoose.notSynchronized Bd
 have X0 : Stand p l e (⟨0, 0, 0, 0⟩ : Room) s m #[(.ref a1)] below meth c s₁ [] 0 0 := Stand.of_body Bd
 have e0 : s₁.heap = h0 := by rw [← hh, Bd.state]; rfl
 have N0 := Fr.nil n0
 show Goes p e below (s₁.setTop (entryFrame m #[(.ref a1)] 1)) (Fin s (Q10_20 Z a1 h0 n0) (⟨0, 0, 0, 0⟩ : Room).cells (⟨0, 0, 0, 0⟩ : Room).slots)
 refine Goes.of (fun t k => castTop (ef_10_20 m a1) k) ?_
 refine gO (fun t k => XS.aloadN X0.here hx rfl (hb hby d10_0) rfl rfl k) ?_
 obtain ⟨T100, X100, e100, st100⟩ := getF X0 hx hZ hown (host := "") (Or.inl (wd hw 76 rfl)) Via.refl e0 F (g := (mkF m 1 #[.val (.ref a1)] [(.ref a1)])) rfl rfl (hb hby d10_1)
 refine Goes.of st100 ?_
 show Goes p e below (T100.setTop (mkF m 4 #[.val (.ref a1)] [(.int 3)])) _
 exact Goes.retI X100 hx Bd.returns hlocks (hb hby d10_4) (⟨rfl, N0, e100⟩) (by decide) (by decide)
theorem ef_37 (m : MethodId) (x0 x1 : Int32) : entryFrame m #[(.int x0), (.int x1), .null] 3 = mkF m 0 #[.val (.int x0), .val (.int x1), .val .null] [] := by first | (simp [entryFrame, mkF, argsToLocals, Value.category]; done) | rfl
def Q37 (Z : State) (p1 p2 : Int32) (h0 : Heap) (n0 : Nat) (v : Option Value) (h : Heap) (L : List Loc) : Prop := v = some (.int p1) ∧ Fr n0 L ∧ h = h0
theorem rm37 (l : Launch) (Z : State) (a0 : Array Value) (hw : ∀ d ∈ tables_1, d.before a0 Z = true) (ws : List Jvm.Cond) (p1 p2 : Int32) (h0 : Heap) (n0 : Nat) (Z0 : n0 ≤ h0.size) (i0 : ¬ (p1 < 0)) (i1 : p1 < p2) :
 CT l Z mn12 jdk_41_method_11_code 3 (some .int) ws (⟨0, 0, 0, 0⟩ : Room) #[(.int p1), (.int p2), .null] h0 (Q37 Z p1 p2 h0 n0) := by
 refine MetFree.of_bodySF (plainFor_of_name pn_10) hisR ?_
 intro p e s m args below meth c s₁ Bd hml0 hP hK
 obtain ⟨rfl, hZ, hh⟩ := hP
 have hx := Bd.exec
 have hby := Bd.bytes
 have hml : c.maxLocals = 3 := hml0
 have hown : s.vm.findClass "jdk/internal/util/Preconditions" = some m.cls := findClass_of_methodNamed Bd.named
 have hnm := (name_of_methodNamed Bd.named Bd.method).1
 have hlocks : meth.locks = false := BodyLoose.notSynchronized Bd
 have X0 : Stand p l e (⟨0, 0, 0, 0⟩ : Room) s m #[(.int p1), (.int p2), .null] below meth c s₁ [] 0 0 := Stand.of_body Bd
 have e0 : s₁.heap = h0 := by rw [← hh, Bd.state]; rfl
 have N0 := Fr.nil n0
 show Goes p e below (s₁.setTop (entryFrame m #[(.int p1), (.int p2), .null] 3)) (Fin s (Q37 Z p1 p2 h0 n0) (⟨0, 0, 0, 0⟩ : Room).cells (⟨0, 0, 0, 0⟩ : Room).slots)
 refine Goes.of (fun t k => castTop (ef_37 m p1 p2) k) ?_
 refine gO (fun t k => XS.iloadN X0.here hx rfl (hb hby d37_0) rfl k) ?_
 have hd1_100 : ¬ (p1 < (0 : Int32)) := i0
 refine gO (fun t k => XS.ifNo X0.here hx rfl (hb hby d37_1) rfl ((if0 _ _).trans (flt hd1_100).1) k) ?_
 refine gO (fun t k => XS.iloadN X0.here hx rfl (hb hby d37_4) rfl k) ?_
 refine gO (fun t k => XS.iloadN X0.here hx rfl (hb hby d37_5) rfl k) ?_
 show Goes p e below (s₁.setTop (mkF m 6 #[.val (.int p1), .val (.int p2), .val .null] [(.int p2), (.int p1)])) _
 have hd6_101 : p1 < p2 := i1
 refine gO (fun t k => XS.icmpYes X0.here hx rfl (pc0 := 6) (pc' := 16) rfl (hb hby d37_6) rfl (tlt hd6_101).1 (by decide) (by decide) k) ?_
 refine gO (fun t k => XS.iloadN X0.here hx rfl (hb hby d37_16) rfl k) ?_
 show Goes p e below (s₁.setTop (mkF m 17 #[.val (.int p1), .val (.int p2), .val .null] [(.int p1)])) _
 exact Goes.retI X0 hx Bd.returns hlocks (hb hby d37_17) (⟨rfl, N0, e0⟩) (by decide) (by decide)
theorem ef_37_22 (m : MethodId) (x0 x1 : Int32) (x2 : Addr) : entryFrame m #[(.int x0), (.int x1), (.ref x2)] 3 = mkF m 0 #[.val (.int x0), .val (.int x1), .val (.ref x2)] [] := by first | (simp [entryFrame, mkF, argsToLocals, Value.category]; done) | rfl
def Q37_22 (Z : State) (p1 p2 : Int32) (a3 : Addr) (h0 : Heap) (n0 : Nat) (v : Option Value) (h : Heap) (L : List Loc) : Prop := v = some (.int p1) ∧ Fr n0 L ∧ h = h0
theorem rm37_22 (l : Launch) (Z : State) (a0 : Array Value) (hw : ∀ d ∈ tables_1, d.before a0 Z = true) (ws : List Jvm.Cond) (p1 p2 : Int32) (a3 : Addr) (h0 : Heap) (n0 : Nat) (Z0 : n0 ≤ h0.size) (i0 : ¬ (p1 < 0)) (i1 : p1 < p2) :
 CT l Z mn12 jdk_41_method_11_code 3 (some .int) ws (⟨0, 0, 0, 0⟩ : Room) #[(.int p1), (.int p2), (.ref a3)] h0 (Q37_22 Z p1 p2 a3 h0 n0) := by
 refine MetFree.of_bodySF (plainFor_of_name pn_10) hisR ?_
 intro p e s m args below meth c s₁ Bd hml0 hP hK
 obtain ⟨rfl, hZ, hh⟩ := hP
 have hx := Bd.exec
 have hby := Bd.bytes
 have hml : c.maxLocals = 3 := hml0
 have hown : s.vm.findClass "jdk/internal/util/Preconditions" = some m.cls := findClass_of_methodNamed Bd.named
 have hnm := (name_of_methodNamed Bd.named Bd.method).1
 have hlocks : meth.locks = false := BodyLoose.notSynchronized Bd
 have X0 : Stand p l e (⟨0, 0, 0, 0⟩ : Room) s m #[(.int p1), (.int p2), (.ref a3)] below meth c s₁ [] 0 0 := Stand.of_body Bd
 have e0 : s₁.heap = h0 := by rw [← hh, Bd.state]; rfl
 have N0 := Fr.nil n0
 show Goes p e below (s₁.setTop (entryFrame m #[(.int p1), (.int p2), (.ref a3)] 3)) (Fin s (Q37_22 Z p1 p2 a3 h0 n0) (⟨0, 0, 0, 0⟩ : Room).cells (⟨0, 0, 0, 0⟩ : Room).slots)
 refine Goes.of (fun t k => castTop (ef_37_22 m p1 p2 a3) k) ?_
 refine gO (fun t k => XS.iloadN X0.here hx rfl (hb hby d37_0) rfl k) ?_
 have hd1_100 : ¬ (p1 < (0 : Int32)) := i0
 refine gO (fun t k => XS.ifNo X0.here hx rfl (hb hby d37_1) rfl ((if0 _ _).trans (flt hd1_100).1) k) ?_
 refine gO (fun t k => XS.iloadN X0.here hx rfl (hb hby d37_4) rfl k) ?_
 refine gO (fun t k => XS.iloadN X0.here hx rfl (hb hby d37_5) rfl k) ?_
 show Goes p e below (s₁.setTop (mkF m 6 #[.val (.int p1), .val (.int p2), .val (.ref a3)] [(.int p2), (.int p1)])) _
 have hd6_101 : p1 < p2 := i1
 refine gO (fun t k => XS.icmpYes X0.here hx rfl (pc0 := 6) (pc' := 16) rfl (hb hby d37_6) rfl (tlt hd6_101).1 (by decide) (by decide) k) ?_
 refine gO (fun t k => XS.iloadN X0.here hx rfl (hb hby d37_16) rfl k) ?_
 show Goes p e below (s₁.setTop (mkF m 17 #[.val (.int p1), .val (.int p2), .val (.ref a3)] [(.int p1)])) _
 exact Goes.retI X0 hx Bd.returns hlocks (hb hby d37_17) (⟨rfl, N0, e0⟩) (by decide) (by decide)
theorem ef_36 (m : MethodId) (x0 x1 : Int32) : entryFrame m #[(.int x0), (.int x1)] 2 = mkF m 0 #[.val (.int x0), .val (.int x1)] [] := by first | (simp [entryFrame, mkF, argsToLocals, Value.category]; done) | rfl
def Q36 (Z : State) (p1 p2 : Int32) (h0 : Heap) (n0 : Nat) (v : Option Value) (h : Heap) (L : List Loc) : Prop := v = some (.int p1) ∧ Fr n0 L ∧ h = h0
theorem rm36 (l : Launch) (Z : State) (a0 : Array Value) (hw : ∀ d ∈ tables_1, d.before a0 Z = true) (ws : List Jvm.Cond) (p1 p2 : Int32) (h0 : Heap) (n0 : Nat) (Z0 : n0 ≤ h0.size) (i0 : ¬ (p1 < 0)) (i1 : p1 < p2) :
 CT l Z mn13 jdk_31_method_17_code 2 (some .int) ws (⟨1, 0, 0, 14⟩ : Room) #[(.int p1), (.int p2)] h0 (Q36 Z p1 p2 h0 n0) := by
 refine MetFree.of_bodySF (plainFor_of_name pn_11) hisR ?_
 intro p e s m args below meth c s₁ Bd hml0 hP hK
 obtain ⟨rfl, hZ, hh⟩ := hP
 have hx := Bd.exec
 have hby := Bd.bytes
 have hml : c.maxLocals = 2 := hml0
 have hown : s.vm.findClass "java/util/Objects" = some m.cls := findClass_of_methodNamed Bd.named
 have hnm := (name_of_methodNamed Bd.named Bd.method).1
 have hlocks : meth.locks = false := BodyLoose.notSynchronized Bd
 have X0 : Stand p l e (⟨1, 0, 0, 14⟩ : Room) s m #[(.int p1), (.int p2)] below meth c s₁ [] 0 0 := Stand.of_body Bd
 have e0 : s₁.heap = h0 := by rw [← hh, Bd.state]; rfl
 have N0 := Fr.nil n0
 show Goes p e below (s₁.setTop (entryFrame m #[(.int p1), (.int p2)] 2)) (Fin s (Q36 Z p1 p2 h0 n0) (⟨1, 0, 0, 14⟩ : Room).cells (⟨1, 0, 0, 14⟩ : Room).slots)
 refine Goes.of (fun t k => castTop (ef_36 m p1 p2) k) ?_
 refine gO (fun t k => XS.iloadN X0.here hx rfl (hb hby d36_0) rfl k) ?_
 refine gO (fun t k => XS.iloadN X0.here hx rfl (hb hby d36_1) rfl k) ?_
 refine gO (fun t k => XS.aconstNull X0.here hx rfl (hb hby d36_2) k) ?_
 show Goes p e below (s₁.setTop (mkF m 3 #[.val (.int p1), .val (.int p2)] [.null, (.int p2), (.int p1)])) _
 obtain ⟨_, _, ⟨T100, L100, k100, n100⟩, -, X100, ⟨Lc100, hQ100, l100, y100, z100⟩, st100⟩ := Jvm.LawKit.callS X0 hx (y := mn12) hown (mvT hZ (wd hw 215 rfl)) (mvT hZ (wd hw 216 rfl)) (mvT hZ (wd hw 217 rfl)) (mvT hZ (wd hw 218 rfl)) (by decide) (backOf (W := 0) (rm37 l Z a0 hw [] p1 p2   h0 n0 Z0 i0 i1) hZ (wd hw 218 rfl) (wd hw 217 rfl) (by decide) (by decide)) (g := (mkF m 3 #[.val (.int p1), .val (.int p2)] [.null, (.int p2), (.int p1)])) rfl (by rw [hml]; rfl) (argsL := [(.int p1), (.int p2), .null]) (rest := []) (lenOf pd_12 rfl) rfl (wr0 rfl rfl) (hb hby d36_3) (fun _ _ => ⟨rfl, e0, (by decide : 0 + 0 ≤ _), (by decide : 0 + 0 ≤ _)⟩)
 dsimp only [Pt.U, Pt.locs, Pt.cells, Pt.slots] at X100 l100 y100 z100 st100 hQ100
 subst l100 y100 z100
 obtain ⟨rfl, N100q, e100⟩ := hQ100
 have N100 := Fr.app N0 N100q
 refine Goes.of st100 ?_
 show Goes p e below (T100.setTop (mkF m 6 #[.val (.int p1), .val (.int p2)] [(.int p1)])) _
 exact Goes.retI X100 hx Bd.returns hlocks (hb hby d36_6) (⟨rfl, N100, e100⟩) (by decide) (by decide)
theorem ef_38 (m : MethodId) (x0 : Addr) (x1 : Int32) : entryFrame m #[(.ref x0), (.int x1)] 2 = mkF m 0 #[.val (.ref x0), .val (.int x1)] [] := by first | (simp [entryFrame, mkF, argsToLocals, Value.category]; done) | rfl
def Q38 (Z : State) (a1 d : Addr) (k : ClassId) (x0 : Addr) (h0 : Heap) (n0 : Nat) (v : Option Value) (h : Heap) (L : List Loc) : Prop := v = some (.ref x0) ∧ Fr n0 L ∧ h = h0
theorem rm38 (l : Launch) (Z : State) (a0 : Array Value) (hw : ∀ d ∈ tables_1, d.before a0 Z = true) (ws : List Jvm.Cond) (a1 d : Addr) (k : ClassId) (x0 : Addr) (h0 : Heap) (n0 : Nat) (Z0 : n0 ≤ h0.size) (F_e : Fl0 Z h0 a1 (.ref d)) (A : Arv Z h0 d k (.object "java/lang/Object") (10 : Int32) [(.ref x0), .null, .null, .null, .null, .null, .null, .null, .null, .null] .null) :
 CT l Z mn14 jdk_38_method_18_code 2 (some (.object "java/lang/Object")) ws (⟨0, 0, 0, 0⟩ : Room) #[(.ref a1), (.int 0)] h0 (Q38 Z a1 d k x0 h0 n0) := by
 refine MetFree.of_bodySF (plainFor_of_name pn_3) hisR ?_
 intro p e s m args below meth c s₁ Bd hml0 hP hK
 obtain ⟨rfl, hZ, hh⟩ := hP
 have hx := Bd.exec
 have hby := Bd.bytes
 have hml : c.maxLocals = 2 := hml0
 have hown : s.vm.findClass "java/util/ArrayList" = some m.cls := findClass_of_methodNamed Bd.named
 have hnm := (name_of_methodNamed Bd.named Bd.method).1
 have hlocks : meth.locks = false := BodyLoose.notSynchronized Bd
 have X0 : Stand p l e (⟨0, 0, 0, 0⟩ : Room) s m #[(.ref a1), (.int 0)] below meth c s₁ [] 0 0 := Stand.of_body Bd
 have e0 : s₁.heap = h0 := by rw [← hh, Bd.state]; rfl
 have N0 := Fr.nil n0
 show Goes p e below (s₁.setTop (entryFrame m #[(.ref a1), (.int 0)] 2)) (Fin s (Q38 Z a1 d k x0 h0 n0) (⟨0, 0, 0, 0⟩ : Room).cells (⟨0, 0, 0, 0⟩ : Room).slots)
 refine Goes.of (fun t k => castTop (ef_38 m a1 (0 : Int32)) k) ?_
 refine gO (fun t k => XS.aloadN X0.here hx rfl (hb hby d38_0) rfl rfl k) ?_
 obtain ⟨T100, X100, e100, st100⟩ := getF X0 hx hZ hown (host := "") (Or.inl (wd hw 32 rfl)) Via.refl e0 F_e (g := (mkF m 1 #[.val (.ref a1), .val (.int 0)] [(.ref a1)])) rfl rfl (hb hby d38_1)
 refine Goes.of st100 ?_
 refine gO (fun t k => XS.iloadN X100.here hx rfl (hb hby d38_4) rfl k) ?_
 have Vc101 := A
 obtain ⟨clc101, Arc101, qc101, Sc101, Nc101, Hc101, Gc101⟩ := Vc101
 have hin102 : ¬ ((0 : Int32) < 0 ∨ clc101.slots.size ≤ ((0 : Int32)).toNatClampNeg) := inb_of Sc101 ⟨by decide, by decide⟩
 have hat103 : clc101.slots[((0 : Int32)).toNatClampNeg]? = some (.ref x0) := Hc101.at hin102 rfl
 refine gO (fun t k => X100.aaload hx (j := (0 : Int32)) (v := (.ref x0)) (by rw [e100]; exact Arc101.1) (State.isArrayOf_alike hZ.alike Arc101.2.1) rfl Arc101.2.2 hin102 hat103 (g := (mkF m 5 #[.val (.ref a1), .val (.int 0)] [(.int 0), (.ref d)])) rfl rfl (hb hby d38_5) _ k) ?_
 show Goes p e below (T100.setTop (mkF m 6 #[.val (.ref a1), .val (.int 0)] [(.ref x0)])) _
 exact Goes.retA X100 hx (by rfl) Bd.returns (by rfl) hlocks (hb hby d38_6) (⟨rfl, N0, e100⟩) (by decide) (by decide)
theorem ef_35 (m : MethodId) (x0 : Addr) (x1 : Int32) : entryFrame m #[(.ref x0), (.int x1)] 2 = mkF m 0 #[.val (.ref x0), .val (.int x1)] [] := by first | (simp [entryFrame, mkF, argsToLocals, Value.category]; done) | rfl
def Q35 (Z : State) (a1 d : Addr) (k : ClassId) (x0 : Addr) (h0 : Heap) (n0 : Nat) (v : Option Value) (h : Heap) (L : List Loc) : Prop := v = some (.ref x0) ∧ Fr n0 L ∧ h = h0
theorem rm35 (l : Launch) (Z : State) (a0 : Array Value) (hw : ∀ d ∈ tables_1, d.before a0 Z = true) (ws : List Jvm.Cond) (a1 d : Addr) (k : ClassId) (x0 : Addr) (h0 : Heap) (n0 : Nat) (Z0 : n0 ≤ h0.size) (E : Exa Z h0 a1 "java/util/ArrayList") (F_s : Fl1 Z h0 a1 (.int 1)) (F_e : Fl0 Z h0 a1 (.ref d)) (A : Arv Z h0 d k (.object "java/lang/Object") (10 : Int32) [(.ref x0), .null, .null, .null, .null, .null, .null, .null, .null, .null] .null) :
 CT l Z mn15 jdk_38_method_20_code 2 (some (.object "java/lang/Object")) ws (⟨2, 0, 0, 27⟩ : Room) #[(.ref a1), (.int 0)] h0 (Q35 Z a1 d k x0 h0 n0) := by
 refine MetFree.of_bodySF (plainFor_of_name pn_3) hisR ?_
 intro p e s m args below meth c s₁ Bd hml0 hP hK
 obtain ⟨rfl, hZ, hh⟩ := hP
 have hx := Bd.exec
 have hby := Bd.bytes
 have hml : c.maxLocals = 2 := hml0
 have hown : s.vm.findClass "java/util/ArrayList" = some m.cls := findClass_of_methodNamed Bd.named
 have hnm := (name_of_methodNamed Bd.named Bd.method).1
 have hlocks : meth.locks = false := BodyLoose.notSynchronized Bd
 have X0 : Stand p l e (⟨2, 0, 0, 27⟩ : Room) s m #[(.ref a1), (.int 0)] below meth c s₁ [] 0 0 := Stand.of_body Bd
 have e0 : s₁.heap = h0 := by rw [← hh, Bd.state]; rfl
 have N0 := Fr.nil n0
 show Goes p e below (s₁.setTop (entryFrame m #[(.ref a1), (.int 0)] 2)) (Fin s (Q35 Z a1 d k x0 h0 n0) (⟨2, 0, 0, 27⟩ : Room).cells (⟨2, 0, 0, 27⟩ : Room).slots)
 refine Goes.of (fun t k => castTop (ef_35 m a1 (0 : Int32)) k) ?_
 refine gO (fun t k => XS.iloadN X0.here hx rfl (hb hby d35_0) rfl k) ?_
 refine gO (fun t k => XS.aloadN X0.here hx rfl (hb hby d35_1) rfl rfl k) ?_
 obtain ⟨T100, X100, e100, st100⟩ := getF X0 hx hZ hown (host := "") (Or.inl (wd hw 76 rfl)) Via.refl e0 F_s (g := (mkF m 2 #[.val (.ref a1), .val (.int 0)] [(.ref a1), (.int 0)])) rfl rfl (hb hby d35_2)
 refine Goes.of st100 ?_
 obtain ⟨_, _, ⟨T101, L101, k101, n101⟩, -, X101, ⟨Lc101, hQ101, l101, y101, z101⟩, st101⟩ := Jvm.LawKit.callS X100 hx (y := mn13) hown (mvT hZ (wd hw 211 rfl)) (mvT hZ (wd hw 212 rfl)) (mvT hZ (wd hw 213 rfl)) (mvT hZ (wd hw 214 rfl)) (by decide) (backOf (W := 0) (rm36 l Z a0 hw [] (0 : Int32) (1 : Int32)  h0 n0 Z0 (by decide) (by decide)) hZ (wd hw 214 rfl) (wd hw 213 rfl) (by decide) (by decide)) (g := (mkF m 5 #[.val (.ref a1), .val (.int 0)] [(.int 1), (.int 0)])) rfl (by rw [hml]; rfl) (argsL := [(.int 0), (.int 1)]) (rest := []) (lenOf pd_5 rfl) rfl (wr0 rfl rfl) (hb hby d35_5) (fun _ _ => ⟨rfl, e100, (by decide : 0 + 0 ≤ _), (by decide : 0 + 0 ≤ _)⟩)
 dsimp only [Pt.U, Pt.locs, Pt.cells, Pt.slots] at X101 l101 y101 z101 st101 hQ101
 subst l101 y101 z101
 obtain ⟨rfl, N101q, e101⟩ := hQ101
 have N101 := Fr.app N0 N101q
 refine Goes.of st101 ?_
 refine gO (fun t k => XS.pop X101.here hx rfl (hb hby d35_8) rfl rfl k) ?_
 refine gO (fun t k => XS.aloadN X101.here hx rfl (hb hby d35_9) rfl rfl k) ?_
 show Goes p e below (T101.setTop (mkF m 10 #[.val (.ref a1), .val (.int 0)] [(.ref a1)])) _
 refine gO (fun t k => XS.iloadN X101.here hx rfl (hb hby d35_10) rfl k) ?_
 obtain ⟨cq102, kq102, q102a, q102b, q102c⟩ := isOf hZ e101 E
 obtain ⟨_, _, ⟨T102, L102, k102, n102⟩, -, X102, ⟨Lc102, hQ102, l102, y102, z102⟩, st102⟩ := X101.virtualBack hx (y := mn14) (z := mn14) hown (mvT hZ (wd hw 219 rfl)) (mvT hZ (wd hw 220 rfl)) (notFace_of_selects (args := #[]) (mvT hZ (wd hw 222 rfl))) (mvT hZ (wd hw 222 rfl)) (mvT hZ (wd hw 221 rfl)) (by decide) (backOf (W := 0) (rm38 l Z a0 hw [] a1 d k x0 h0 n0 Z0 F_e A) hZ (wd hw 223 rfl) (wd hw 12 rfl) (by decide) (by decide)) q102a q102c (g := (mkF m 11 #[.val (.ref a1), .val (.int 0)] [(.int 0), (.ref a1)])) rfl (by rw [hml]; rfl) (Steps.refl _) (argsL := [(.int 0)]) (rest := []) (lenOf pd_13 rfl) rfl (wr0 rfl rfl) (hb hby d35_11) (fun _ _ => ⟨rfl, e101, (by decide : 0 + 0 ≤ _), (by decide : 0 + 0 ≤ _)⟩)
 dsimp only [Pt.U, Pt.locs, Pt.cells, Pt.slots] at X102 l102 y102 z102 st102 hQ102
 subst l102 y102 z102
 obtain ⟨rfl, N102q, e102⟩ := hQ102
 have N102 := Fr.app N101 N102q
 refine Goes.of (fun t k => st102.trans k) ?_
 show Goes p e below (T102.setTop (mkF m 14 #[.val (.ref a1), .val (.int 0)] [(.ref x0)])) _
 exact Goes.retA X102 hx (by rfl) Bd.returns (by rfl) hlocks (hb hby d35_14) (⟨rfl, N102, e102⟩) (by decide) (by decide)
theorem ef_38_26 (m : MethodId) (x0 : Addr) (x1 : Int32) : entryFrame m #[(.ref x0), (.int x1)] 2 = mkF m 0 #[.val (.ref x0), .val (.int x1)] [] := by first | (simp [entryFrame, mkF, argsToLocals, Value.category]; done) | rfl
def Q38_26 (Z : State) (a1 d : Addr) (k : ClassId) (x0 x1 : Addr) (h0 : Heap) (n0 : Nat) (v : Option Value) (h : Heap) (L : List Loc) : Prop := v = some (.ref x0) ∧ Fr n0 L ∧ h = h0
theorem rm38_26 (l : Launch) (Z : State) (a0 : Array Value) (hw : ∀ d ∈ tables_1, d.before a0 Z = true) (ws : List Jvm.Cond) (a1 d : Addr) (k : ClassId) (x0 x1 : Addr) (h0 : Heap) (n0 : Nat) (Z0 : n0 ≤ h0.size) (F_e : Fl0 Z h0 a1 (.ref d)) (A : Arv Z h0 d k (.object "java/lang/Object") (10 : Int32) [(.ref x0), (.ref x1), .null, .null, .null, .null, .null, .null, .null, .null] .null) :
 CT l Z mn14 jdk_38_method_18_code 2 (some (.object "java/lang/Object")) ws (⟨0, 0, 0, 0⟩ : Room) #[(.ref a1), (.int 0)] h0 (Q38_26 Z a1 d k x0 x1 h0 n0) := by
 refine MetFree.of_bodySF (plainFor_of_name pn_3) hisR ?_
 intro p e s m args below meth c s₁ Bd hml0 hP hK
 obtain ⟨rfl, hZ, hh⟩ := hP
 have hx := Bd.exec
 have hby := Bd.bytes
 have hml : c.maxLocals = 2 := hml0
 have hown : s.vm.findClass "java/util/ArrayList" = some m.cls := findClass_of_methodNamed Bd.named
 have hnm := (name_of_methodNamed Bd.named Bd.method).1
 have hlocks : meth.locks = false := BodyLoose.notSynchronized Bd
 have X0 : Stand p l e (⟨0, 0, 0, 0⟩ : Room) s m #[(.ref a1), (.int 0)] below meth c s₁ [] 0 0 := Stand.of_body Bd
 have e0 : s₁.heap = h0 := by rw [← hh, Bd.state]; rfl
 have N0 := Fr.nil n0
 show Goes p e below (s₁.setTop (entryFrame m #[(.ref a1), (.int 0)] 2)) (Fin s (Q38_26 Z a1 d k x0 x1 h0 n0) (⟨0, 0, 0, 0⟩ : Room).cells (⟨0, 0, 0, 0⟩ : Room).slots)
 refine Goes.of (fun t k => castTop (ef_38_26 m a1 (0 : Int32)) k) ?_
 refine gO (fun t k => XS.aloadN X0.here hx rfl (hb hby d38_0) rfl rfl k) ?_
 obtain ⟨T100, X100, e100, st100⟩ := getF X0 hx hZ hown (host := "") (Or.inl (wd hw 32 rfl)) Via.refl e0 F_e (g := (mkF m 1 #[.val (.ref a1), .val (.int 0)] [(.ref a1)])) rfl rfl (hb hby d38_1)
 refine Goes.of st100 ?_
 refine gO (fun t k => XS.iloadN X100.here hx rfl (hb hby d38_4) rfl k) ?_
 have Vc101 := A
 obtain ⟨clc101, Arc101, qc101, Sc101, Nc101, Hc101, Gc101⟩ := Vc101
 have hin102 : ¬ ((0 : Int32) < 0 ∨ clc101.slots.size ≤ ((0 : Int32)).toNatClampNeg) := inb_of Sc101 ⟨by decide, by decide⟩
 have hat103 : clc101.slots[((0 : Int32)).toNatClampNeg]? = some (.ref x0) := Hc101.at hin102 rfl
 refine gO (fun t k => X100.aaload hx (j := (0 : Int32)) (v := (.ref x0)) (by rw [e100]; exact Arc101.1) (State.isArrayOf_alike hZ.alike Arc101.2.1) rfl Arc101.2.2 hin102 hat103 (g := (mkF m 5 #[.val (.ref a1), .val (.int 0)] [(.int 0), (.ref d)])) rfl rfl (hb hby d38_5) _ k) ?_
 show Goes p e below (T100.setTop (mkF m 6 #[.val (.ref a1), .val (.int 0)] [(.ref x0)])) _
 exact Goes.retA X100 hx (by rfl) Bd.returns (by rfl) hlocks (hb hby d38_6) (⟨rfl, N0, e100⟩) (by decide) (by decide)
theorem ef_35_27 (m : MethodId) (x0 : Addr) (x1 : Int32) : entryFrame m #[(.ref x0), (.int x1)] 2 = mkF m 0 #[.val (.ref x0), .val (.int x1)] [] := by first | (simp [entryFrame, mkF, argsToLocals, Value.category]; done) | rfl
def Q35_27 (Z : State) (a1 d : Addr) (k : ClassId) (x0 x1 : Addr) (h0 : Heap) (n0 : Nat) (v : Option Value) (h : Heap) (L : List Loc) : Prop := v = some (.ref x0) ∧ Fr n0 L ∧ h = h0
theorem rm35_27 (l : Launch) (Z : State) (a0 : Array Value) (hw : ∀ d ∈ tables_1, d.before a0 Z = true) (ws : List Jvm.Cond) (a1 d : Addr) (k : ClassId) (x0 x1 : Addr) (h0 : Heap) (n0 : Nat) (Z0 : n0 ≤ h0.size) (E : Exa Z h0 a1 "java/util/ArrayList") (F_s : Fl1 Z h0 a1 (.int 2)) (F_e : Fl0 Z h0 a1 (.ref d)) (A : Arv Z h0 d k (.object "java/lang/Object") (10 : Int32) [(.ref x0), (.ref x1), .null, .null, .null, .null, .null, .null, .null, .null] .null) :
 CT l Z mn15 jdk_38_method_20_code 2 (some (.object "java/lang/Object")) ws (⟨2, 0, 0, 27⟩ : Room) #[(.ref a1), (.int 0)] h0 (Q35_27 Z a1 d k x0 x1 h0 n0) := by
 refine MetFree.of_bodySF (plainFor_of_name pn_3) hisR ?_
 intro p e s m args below meth c s₁ Bd hml0 hP hK
 obtain ⟨rfl, hZ, hh⟩ := hP
 have hx := Bd.exec
 have hby := Bd.bytes
 have hml : c.maxLocals = 2 := hml0
 have hown : s.vm.findClass "java/util/ArrayList" = some m.cls := findClass_of_methodNamed Bd.named
 have hnm := (name_of_methodNamed Bd.named Bd.method).1
 have hlocks : meth.locks = false := BodyLoose.notSynchronized Bd
 have X0 : Stand p l e (⟨2, 0, 0, 27⟩ : Room) s m #[(.ref a1), (.int 0)] below meth c s₁ [] 0 0 := Stand.of_body Bd
 have e0 : s₁.heap = h0 := by rw [← hh, Bd.state]; rfl
 have N0 := Fr.nil n0
 show Goes p e below (s₁.setTop (entryFrame m #[(.ref a1), (.int 0)] 2)) (Fin s (Q35_27 Z a1 d k x0 x1 h0 n0) (⟨2, 0, 0, 27⟩ : Room).cells (⟨2, 0, 0, 27⟩ : Room).slots)
 refine Goes.of (fun t k => castTop (ef_35_27 m a1 (0 : Int32)) k) ?_
 refine gO (fun t k => XS.iloadN X0.here hx rfl (hb hby d35_0) rfl k) ?_
 refine gO (fun t k => XS.aloadN X0.here hx rfl (hb hby d35_1) rfl rfl k) ?_
 obtain ⟨T100, X100, e100, st100⟩ := getF X0 hx hZ hown (host := "") (Or.inl (wd hw 76 rfl)) Via.refl e0 F_s (g := (mkF m 2 #[.val (.ref a1), .val (.int 0)] [(.ref a1), (.int 0)])) rfl rfl (hb hby d35_2)
 refine Goes.of st100 ?_
 obtain ⟨_, _, ⟨T101, L101, k101, n101⟩, -, X101, ⟨Lc101, hQ101, l101, y101, z101⟩, st101⟩ := Jvm.LawKit.callS X100 hx (y := mn13) hown (mvT hZ (wd hw 211 rfl)) (mvT hZ (wd hw 212 rfl)) (mvT hZ (wd hw 213 rfl)) (mvT hZ (wd hw 214 rfl)) (by decide) (backOf (W := 0) (rm36 l Z a0 hw [] (0 : Int32) (2 : Int32)  h0 n0 Z0 (by decide) (by decide)) hZ (wd hw 214 rfl) (wd hw 213 rfl) (by decide) (by decide)) (g := (mkF m 5 #[.val (.ref a1), .val (.int 0)] [(.int 2), (.int 0)])) rfl (by rw [hml]; rfl) (argsL := [(.int 0), (.int 2)]) (rest := []) (lenOf pd_5 rfl) rfl (wr0 rfl rfl) (hb hby d35_5) (fun _ _ => ⟨rfl, e100, (by decide : 0 + 0 ≤ _), (by decide : 0 + 0 ≤ _)⟩)
 dsimp only [Pt.U, Pt.locs, Pt.cells, Pt.slots] at X101 l101 y101 z101 st101 hQ101
 subst l101 y101 z101
 obtain ⟨rfl, N101q, e101⟩ := hQ101
 have N101 := Fr.app N0 N101q
 refine Goes.of st101 ?_
 refine gO (fun t k => XS.pop X101.here hx rfl (hb hby d35_8) rfl rfl k) ?_
 refine gO (fun t k => XS.aloadN X101.here hx rfl (hb hby d35_9) rfl rfl k) ?_
 show Goes p e below (T101.setTop (mkF m 10 #[.val (.ref a1), .val (.int 0)] [(.ref a1)])) _
 refine gO (fun t k => XS.iloadN X101.here hx rfl (hb hby d35_10) rfl k) ?_
 obtain ⟨cq102, kq102, q102a, q102b, q102c⟩ := isOf hZ e101 E
 obtain ⟨_, _, ⟨T102, L102, k102, n102⟩, -, X102, ⟨Lc102, hQ102, l102, y102, z102⟩, st102⟩ := X101.virtualBack hx (y := mn14) (z := mn14) hown (mvT hZ (wd hw 219 rfl)) (mvT hZ (wd hw 220 rfl)) (notFace_of_selects (args := #[]) (mvT hZ (wd hw 222 rfl))) (mvT hZ (wd hw 222 rfl)) (mvT hZ (wd hw 221 rfl)) (by decide) (backOf (W := 0) (rm38_26 l Z a0 hw [] a1 d k x0 x1 h0 n0 Z0 F_e A) hZ (wd hw 223 rfl) (wd hw 12 rfl) (by decide) (by decide)) q102a q102c (g := (mkF m 11 #[.val (.ref a1), .val (.int 0)] [(.int 0), (.ref a1)])) rfl (by rw [hml]; rfl) (Steps.refl _) (argsL := [(.int 0)]) (rest := []) (lenOf pd_13 rfl) rfl (wr0 rfl rfl) (hb hby d35_11) (fun _ _ => ⟨rfl, e101, (by decide : 0 + 0 ≤ _), (by decide : 0 + 0 ≤ _)⟩)
 dsimp only [Pt.U, Pt.locs, Pt.cells, Pt.slots] at X102 l102 y102 z102 st102 hQ102
 subst l102 y102 z102
 obtain ⟨rfl, N102q, e102⟩ := hQ102
 have N102 := Fr.app N101 N102q
 refine Goes.of (fun t k => st102.trans k) ?_
 show Goes p e below (T102.setTop (mkF m 14 #[.val (.ref a1), .val (.int 0)] [(.ref x0)])) _
 exact Goes.retA X102 hx (by rfl) Bd.returns (by rfl) hlocks (hb hby d35_14) (⟨rfl, N102, e102⟩) (by decide) (by decide)
theorem ef_38_28 (m : MethodId) (x0 : Addr) (x1 : Int32) : entryFrame m #[(.ref x0), (.int x1)] 2 = mkF m 0 #[.val (.ref x0), .val (.int x1)] [] := by first | (simp [entryFrame, mkF, argsToLocals, Value.category]; done) | rfl
def Q38_28 (Z : State) (a1 d : Addr) (k : ClassId) (x0 x1 : Addr) (h0 : Heap) (n0 : Nat) (v : Option Value) (h : Heap) (L : List Loc) : Prop := v = some (.ref x1) ∧ Fr n0 L ∧ h = h0
theorem rm38_28 (l : Launch) (Z : State) (a0 : Array Value) (hw : ∀ d ∈ tables_1, d.before a0 Z = true) (ws : List Jvm.Cond) (a1 d : Addr) (k : ClassId) (x0 x1 : Addr) (h0 : Heap) (n0 : Nat) (Z0 : n0 ≤ h0.size) (F_e : Fl0 Z h0 a1 (.ref d)) (A : Arv Z h0 d k (.object "java/lang/Object") (10 : Int32) [(.ref x0), (.ref x1), .null, .null, .null, .null, .null, .null, .null, .null] .null) :
 CT l Z mn14 jdk_38_method_18_code 2 (some (.object "java/lang/Object")) ws (⟨0, 0, 0, 0⟩ : Room) #[(.ref a1), (.int 1)] h0 (Q38_28 Z a1 d k x0 x1 h0 n0) := by
 refine MetFree.of_bodySF (plainFor_of_name pn_3) hisR ?_
 intro p e s m args below meth c s₁ Bd hml0 hP hK
 obtain ⟨rfl, hZ, hh⟩ := hP
 have hx := Bd.exec
 have hby := Bd.bytes
 have hml : c.maxLocals = 2 := hml0
 have hown : s.vm.findClass "java/util/ArrayList" = some m.cls := findClass_of_methodNamed Bd.named
 have hnm := (name_of_methodNamed Bd.named Bd.method).1
 have hlocks : meth.locks = false := BodyLoose.notSynchronized Bd
 have X0 : Stand p l e (⟨0, 0, 0, 0⟩ : Room) s m #[(.ref a1), (.int 1)] below meth c s₁ [] 0 0 := Stand.of_body Bd
 have e0 : s₁.heap = h0 := by rw [← hh, Bd.state]; rfl
 have N0 := Fr.nil n0
 show Goes p e below (s₁.setTop (entryFrame m #[(.ref a1), (.int 1)] 2)) (Fin s (Q38_28 Z a1 d k x0 x1 h0 n0) (⟨0, 0, 0, 0⟩ : Room).cells (⟨0, 0, 0, 0⟩ : Room).slots)
 refine Goes.of (fun t k => castTop (ef_38_28 m a1 (1 : Int32)) k) ?_
 refine gO (fun t k => XS.aloadN X0.here hx rfl (hb hby d38_0) rfl rfl k) ?_
 obtain ⟨T100, X100, e100, st100⟩ := getF X0 hx hZ hown (host := "") (Or.inl (wd hw 32 rfl)) Via.refl e0 F_e (g := (mkF m 1 #[.val (.ref a1), .val (.int 1)] [(.ref a1)])) rfl rfl (hb hby d38_1)
 refine Goes.of st100 ?_
 refine gO (fun t k => XS.iloadN X100.here hx rfl (hb hby d38_4) rfl k) ?_
 have Vc101 := A
 obtain ⟨clc101, Arc101, qc101, Sc101, Nc101, Hc101, Gc101⟩ := Vc101
 have hin102 : ¬ ((1 : Int32) < 0 ∨ clc101.slots.size ≤ ((1 : Int32)).toNatClampNeg) := inb_of Sc101 ⟨by decide, by decide⟩
 have hat103 : clc101.slots[((1 : Int32)).toNatClampNeg]? = some (.ref x1) := Hc101.at hin102 rfl
 refine gO (fun t k => X100.aaload hx (j := (1 : Int32)) (v := (.ref x1)) (by rw [e100]; exact Arc101.1) (State.isArrayOf_alike hZ.alike Arc101.2.1) rfl Arc101.2.2 hin102 hat103 (g := (mkF m 5 #[.val (.ref a1), .val (.int 1)] [(.int 1), (.ref d)])) rfl rfl (hb hby d38_5) _ k) ?_
 show Goes p e below (T100.setTop (mkF m 6 #[.val (.ref a1), .val (.int 1)] [(.ref x1)])) _
 exact Goes.retA X100 hx (by rfl) Bd.returns (by rfl) hlocks (hb hby d38_6) (⟨rfl, N0, e100⟩) (by decide) (by decide)
theorem ef_35_29 (m : MethodId) (x0 : Addr) (x1 : Int32) : entryFrame m #[(.ref x0), (.int x1)] 2 = mkF m 0 #[.val (.ref x0), .val (.int x1)] [] := by first | (simp [entryFrame, mkF, argsToLocals, Value.category]; done) | rfl
def Q35_29 (Z : State) (a1 d : Addr) (k : ClassId) (x0 x1 : Addr) (h0 : Heap) (n0 : Nat) (v : Option Value) (h : Heap) (L : List Loc) : Prop := v = some (.ref x1) ∧ Fr n0 L ∧ h = h0
theorem rm35_29 (l : Launch) (Z : State) (a0 : Array Value) (hw : ∀ d ∈ tables_1, d.before a0 Z = true) (ws : List Jvm.Cond) (a1 d : Addr) (k : ClassId) (x0 x1 : Addr) (h0 : Heap) (n0 : Nat) (Z0 : n0 ≤ h0.size) (E : Exa Z h0 a1 "java/util/ArrayList") (F_s : Fl1 Z h0 a1 (.int 2)) (F_e : Fl0 Z h0 a1 (.ref d)) (A : Arv Z h0 d k (.object "java/lang/Object") (10 : Int32) [(.ref x0), (.ref x1), .null, .null, .null, .null, .null, .null, .null, .null] .null) :
 CT l Z mn15 jdk_38_method_20_code 2 (some (.object "java/lang/Object")) ws (⟨2, 0, 0, 27⟩ : Room) #[(.ref a1), (.int 1)] h0 (Q35_29 Z a1 d k x0 x1 h0 n0) := by
 refine MetFree.of_bodySF (plainFor_of_name pn_3) hisR ?_
 intro p e s m args below meth c s₁ Bd hml0 hP hK
 obtain ⟨rfl, hZ, hh⟩ := hP
 have hx := Bd.exec
 have hby := Bd.bytes
 have hml : c.maxLocals = 2 := hml0
 have hown : s.vm.findClass "java/util/ArrayList" = some m.cls := findClass_of_methodNamed Bd.named
 have hnm := (name_of_methodNamed Bd.named Bd.method).1
 have hlocks : meth.locks = false := BodyLoose.notSynchronized Bd
 have X0 : Stand p l e (⟨2, 0, 0, 27⟩ : Room) s m #[(.ref a1), (.int 1)] below meth c s₁ [] 0 0 := Stand.of_body Bd
 have e0 : s₁.heap = h0 := by rw [← hh, Bd.state]; rfl
 have N0 := Fr.nil n0
 show Goes p e below (s₁.setTop (entryFrame m #[(.ref a1), (.int 1)] 2)) (Fin s (Q35_29 Z a1 d k x0 x1 h0 n0) (⟨2, 0, 0, 27⟩ : Room).cells (⟨2, 0, 0, 27⟩ : Room).slots)
 refine Goes.of (fun t k => castTop (ef_35_29 m a1 (1 : Int32)) k) ?_
 refine gO (fun t k => XS.iloadN X0.here hx rfl (hb hby d35_0) rfl k) ?_
 refine gO (fun t k => XS.aloadN X0.here hx rfl (hb hby d35_1) rfl rfl k) ?_
 obtain ⟨T100, X100, e100, st100⟩ := getF X0 hx hZ hown (host := "") (Or.inl (wd hw 76 rfl)) Via.refl e0 F_s (g := (mkF m 2 #[.val (.ref a1), .val (.int 1)] [(.ref a1), (.int 1)])) rfl rfl (hb hby d35_2)
 refine Goes.of st100 ?_
 obtain ⟨_, _, ⟨T101, L101, k101, n101⟩, -, X101, ⟨Lc101, hQ101, l101, y101, z101⟩, st101⟩ := Jvm.LawKit.callS X100 hx (y := mn13) hown (mvT hZ (wd hw 211 rfl)) (mvT hZ (wd hw 212 rfl)) (mvT hZ (wd hw 213 rfl)) (mvT hZ (wd hw 214 rfl)) (by decide) (backOf (W := 0) (rm36 l Z a0 hw [] (1 : Int32) (2 : Int32)  h0 n0 Z0 (by decide) (by decide)) hZ (wd hw 214 rfl) (wd hw 213 rfl) (by decide) (by decide)) (g := (mkF m 5 #[.val (.ref a1), .val (.int 1)] [(.int 2), (.int 1)])) rfl (by rw [hml]; rfl) (argsL := [(.int 1), (.int 2)]) (rest := []) (lenOf pd_5 rfl) rfl (wr0 rfl rfl) (hb hby d35_5) (fun _ _ => ⟨rfl, e100, (by decide : 0 + 0 ≤ _), (by decide : 0 + 0 ≤ _)⟩)
 dsimp only [Pt.U, Pt.locs, Pt.cells, Pt.slots] at X101 l101 y101 z101 st101 hQ101
 subst l101 y101 z101
 obtain ⟨rfl, N101q, e101⟩ := hQ101
 have N101 := Fr.app N0 N101q
 refine Goes.of st101 ?_
 refine gO (fun t k => XS.pop X101.here hx rfl (hb hby d35_8) rfl rfl k) ?_
 refine gO (fun t k => XS.aloadN X101.here hx rfl (hb hby d35_9) rfl rfl k) ?_
 show Goes p e below (T101.setTop (mkF m 10 #[.val (.ref a1), .val (.int 1)] [(.ref a1)])) _
 refine gO (fun t k => XS.iloadN X101.here hx rfl (hb hby d35_10) rfl k) ?_
 obtain ⟨cq102, kq102, q102a, q102b, q102c⟩ := isOf hZ e101 E
 obtain ⟨_, _, ⟨T102, L102, k102, n102⟩, -, X102, ⟨Lc102, hQ102, l102, y102, z102⟩, st102⟩ := X101.virtualBack hx (y := mn14) (z := mn14) hown (mvT hZ (wd hw 219 rfl)) (mvT hZ (wd hw 220 rfl)) (notFace_of_selects (args := #[]) (mvT hZ (wd hw 222 rfl))) (mvT hZ (wd hw 222 rfl)) (mvT hZ (wd hw 221 rfl)) (by decide) (backOf (W := 0) (rm38_28 l Z a0 hw [] a1 d k x0 x1 h0 n0 Z0 F_e A) hZ (wd hw 223 rfl) (wd hw 12 rfl) (by decide) (by decide)) q102a q102c (g := (mkF m 11 #[.val (.ref a1), .val (.int 1)] [(.int 1), (.ref a1)])) rfl (by rw [hml]; rfl) (Steps.refl _) (argsL := [(.int 1)]) (rest := []) (lenOf pd_13 rfl) rfl (wr0 rfl rfl) (hb hby d35_11) (fun _ _ => ⟨rfl, e101, (by decide : 0 + 0 ≤ _), (by decide : 0 + 0 ≤ _)⟩)
 dsimp only [Pt.U, Pt.locs, Pt.cells, Pt.slots] at X102 l102 y102 z102 st102 hQ102
 subst l102 y102 z102
 obtain ⟨rfl, N102q, e102⟩ := hQ102
 have N102 := Fr.app N101 N102q
 refine Goes.of (fun t k => st102.trans k) ?_
 show Goes p e below (T102.setTop (mkF m 14 #[.val (.ref a1), .val (.int 1)] [(.ref x1)])) _
 exact Goes.retA X102 hx (by rfl) Bd.returns (by rfl) hlocks (hb hby d35_14) (⟨rfl, N102, e102⟩) (by decide) (by decide)
theorem ef_38_30 (m : MethodId) (x0 : Addr) (x1 : Int32) : entryFrame m #[(.ref x0), (.int x1)] 2 = mkF m 0 #[.val (.ref x0), .val (.int x1)] [] := by first | (simp [entryFrame, mkF, argsToLocals, Value.category]; done) | rfl
def Q38_30 (Z : State) (a1 d : Addr) (k : ClassId) (x0 x1 x2 : Addr) (h0 : Heap) (n0 : Nat) (v : Option Value) (h : Heap) (L : List Loc) : Prop := v = some (.ref x0) ∧ Fr n0 L ∧ h = h0
theorem rm38_30 (l : Launch) (Z : State) (a0 : Array Value) (hw : ∀ d ∈ tables_1, d.before a0 Z = true) (ws : List Jvm.Cond) (a1 d : Addr) (k : ClassId) (x0 x1 x2 : Addr) (h0 : Heap) (n0 : Nat) (Z0 : n0 ≤ h0.size) (F_e : Fl0 Z h0 a1 (.ref d)) (A : Arv Z h0 d k (.object "java/lang/Object") (10 : Int32) [(.ref x0), (.ref x1), (.ref x2), .null, .null, .null, .null, .null, .null, .null] .null) :
 CT l Z mn14 jdk_38_method_18_code 2 (some (.object "java/lang/Object")) ws (⟨0, 0, 0, 0⟩ : Room) #[(.ref a1), (.int 0)] h0 (Q38_30 Z a1 d k x0 x1 x2 h0 n0) := by
 refine MetFree.of_bodySF (plainFor_of_name pn_3) hisR ?_
 intro p e s m args below meth c s₁ Bd hml0 hP hK
 obtain ⟨rfl, hZ, hh⟩ := hP
 have hx := Bd.exec
 have hby := Bd.bytes
 have hml : c.maxLocals = 2 := hml0
 have hown : s.vm.findClass "java/util/ArrayList" = some m.cls := findClass_of_methodNamed Bd.named
 have hnm := (name_of_methodNamed Bd.named Bd.method).1
 have hlocks : meth.locks = false := BodyLoose.notSynchronized Bd
 have X0 : Stand p l e (⟨0, 0, 0, 0⟩ : Room) s m #[(.ref a1), (.int 0)] below meth c s₁ [] 0 0 := Stand.of_body Bd
 have e0 : s₁.heap = h0 := by rw [← hh, Bd.state]; rfl
 have N0 := Fr.nil n0
 show Goes p e below (s₁.setTop (entryFrame m #[(.ref a1), (.int 0)] 2)) (Fin s (Q38_30 Z a1 d k x0 x1 x2 h0 n0) (⟨0, 0, 0, 0⟩ : Room).cells (⟨0, 0, 0, 0⟩ : Room).slots)
 refine Goes.of (fun t k => castTop (ef_38_30 m a1 (0 : Int32)) k) ?_
 refine gO (fun t k => XS.aloadN X0.here hx rfl (hb hby d38_0) rfl rfl k) ?_
 obtain ⟨T100, X100, e100, st100⟩ := getF X0 hx hZ hown (host := "") (Or.inl (wd hw 32 rfl)) Via.refl e0 F_e (g := (mkF m 1 #[.val (.ref a1), .val (.int 0)] [(.ref a1)])) rfl rfl (hb hby d38_1)
 refine Goes.of st100 ?_
 refine gO (fun t k => XS.iloadN X100.here hx rfl (hb hby d38_4) rfl k) ?_
 have Vc101 := A
 obtain ⟨clc101, Arc101, qc101, Sc101, Nc101, Hc101, Gc101⟩ := Vc101
 have hin102 : ¬ ((0 : Int32) < 0 ∨ clc101.slots.size ≤ ((0 : Int32)).toNatClampNeg) := inb_of Sc101 ⟨by decide, by decide⟩
 have hat103 : clc101.slots[((0 : Int32)).toNatClampNeg]? = some (.ref x0) := Hc101.at hin102 rfl
 refine gO (fun t k => X100.aaload hx (j := (0 : Int32)) (v := (.ref x0)) (by rw [e100]; exact Arc101.1) (State.isArrayOf_alike hZ.alike Arc101.2.1) rfl Arc101.2.2 hin102 hat103 (g := (mkF m 5 #[.val (.ref a1), .val (.int 0)] [(.int 0), (.ref d)])) rfl rfl (hb hby d38_5) _ k) ?_
 show Goes p e below (T100.setTop (mkF m 6 #[.val (.ref a1), .val (.int 0)] [(.ref x0)])) _
 exact Goes.retA X100 hx (by rfl) Bd.returns (by rfl) hlocks (hb hby d38_6) (⟨rfl, N0, e100⟩) (by decide) (by decide)
theorem ef_35_31 (m : MethodId) (x0 : Addr) (x1 : Int32) : entryFrame m #[(.ref x0), (.int x1)] 2 = mkF m 0 #[.val (.ref x0), .val (.int x1)] [] := by first | (simp [entryFrame, mkF, argsToLocals, Value.category]; done) | rfl
def Q35_31 (Z : State) (a1 d : Addr) (k : ClassId) (x0 x1 x2 : Addr) (h0 : Heap) (n0 : Nat) (v : Option Value) (h : Heap) (L : List Loc) : Prop := v = some (.ref x0) ∧ Fr n0 L ∧ h = h0
theorem rm35_31 (l : Launch) (Z : State) (a0 : Array Value) (hw : ∀ d ∈ tables_1, d.before a0 Z = true) (ws : List Jvm.Cond) (a1 d : Addr) (k : ClassId) (x0 x1 x2 : Addr) (h0 : Heap) (n0 : Nat) (Z0 : n0 ≤ h0.size) (E : Exa Z h0 a1 "java/util/ArrayList") (F_s : Fl1 Z h0 a1 (.int 3)) (F_e : Fl0 Z h0 a1 (.ref d)) (A : Arv Z h0 d k (.object "java/lang/Object") (10 : Int32) [(.ref x0), (.ref x1), (.ref x2), .null, .null, .null, .null, .null, .null, .null] .null) :
 CT l Z mn15 jdk_38_method_20_code 2 (some (.object "java/lang/Object")) ws (⟨2, 0, 0, 27⟩ : Room) #[(.ref a1), (.int 0)] h0 (Q35_31 Z a1 d k x0 x1 x2 h0 n0) := by
 refine MetFree.of_bodySF (plainFor_of_name pn_3) hisR ?_
 intro p e s m args below meth c s₁ Bd hml0 hP hK
 obtain ⟨rfl, hZ, hh⟩ := hP
 have hx := Bd.exec
 have hby := Bd.bytes
 have hml : c.maxLocals = 2 := hml0
 have hown : s.vm.findClass "java/util/ArrayList" = some m.cls := findClass_of_methodNamed Bd.named
 have hnm := (name_of_methodNamed Bd.named Bd.method).1
 have hlocks : meth.locks = false := BodyLoose.notSynchronized Bd
 have X0 : Stand p l e (⟨2, 0, 0, 27⟩ : Room) s m #[(.ref a1), (.int 0)] below meth c s₁ [] 0 0 := Stand.of_body Bd
 have e0 : s₁.heap = h0 := by rw [← hh, Bd.state]; rfl
 have N0 := Fr.nil n0
 show Goes p e below (s₁.setTop (entryFrame m #[(.ref a1), (.int 0)] 2)) (Fin s (Q35_31 Z a1 d k x0 x1 x2 h0 n0) (⟨2, 0, 0, 27⟩ : Room).cells (⟨2, 0, 0, 27⟩ : Room).slots)
 refine Goes.of (fun t k => castTop (ef_35_31 m a1 (0 : Int32)) k) ?_
 refine gO (fun t k => XS.iloadN X0.here hx rfl (hb hby d35_0) rfl k) ?_
 refine gO (fun t k => XS.aloadN X0.here hx rfl (hb hby d35_1) rfl rfl k) ?_
 obtain ⟨T100, X100, e100, st100⟩ := getF X0 hx hZ hown (host := "") (Or.inl (wd hw 76 rfl)) Via.refl e0 F_s (g := (mkF m 2 #[.val (.ref a1), .val (.int 0)] [(.ref a1), (.int 0)])) rfl rfl (hb hby d35_2)
 refine Goes.of st100 ?_
 obtain ⟨_, _, ⟨T101, L101, k101, n101⟩, -, X101, ⟨Lc101, hQ101, l101, y101, z101⟩, st101⟩ := Jvm.LawKit.callS X100 hx (y := mn13) hown (mvT hZ (wd hw 211 rfl)) (mvT hZ (wd hw 212 rfl)) (mvT hZ (wd hw 213 rfl)) (mvT hZ (wd hw 214 rfl)) (by decide) (backOf (W := 0) (rm36 l Z a0 hw [] (0 : Int32) (3 : Int32)  h0 n0 Z0 (by decide) (by decide)) hZ (wd hw 214 rfl) (wd hw 213 rfl) (by decide) (by decide)) (g := (mkF m 5 #[.val (.ref a1), .val (.int 0)] [(.int 3), (.int 0)])) rfl (by rw [hml]; rfl) (argsL := [(.int 0), (.int 3)]) (rest := []) (lenOf pd_5 rfl) rfl (wr0 rfl rfl) (hb hby d35_5) (fun _ _ => ⟨rfl, e100, (by decide : 0 + 0 ≤ _), (by decide : 0 + 0 ≤ _)⟩)
 dsimp only [Pt.U, Pt.locs, Pt.cells, Pt.slots] at X101 l101 y101 z101 st101 hQ101
 subst l101 y101 z101
 obtain ⟨rfl, N101q, e101⟩ := hQ101
 have N101 := Fr.app N0 N101q
 refine Goes.of st101 ?_
 refine gO (fun t k => XS.pop X101.here hx rfl (hb hby d35_8) rfl rfl k) ?_
 refine gO (fun t k => XS.aloadN X101.here hx rfl (hb hby d35_9) rfl rfl k) ?_
 show Goes p e below (T101.setTop (mkF m 10 #[.val (.ref a1), .val (.int 0)] [(.ref a1)])) _
 refine gO (fun t k => XS.iloadN X101.here hx rfl (hb hby d35_10) rfl k) ?_
 obtain ⟨cq102, kq102, q102a, q102b, q102c⟩ := isOf hZ e101 E
 obtain ⟨_, _, ⟨T102, L102, k102, n102⟩, -, X102, ⟨Lc102, hQ102, l102, y102, z102⟩, st102⟩ := X101.virtualBack hx (y := mn14) (z := mn14) hown (mvT hZ (wd hw 219 rfl)) (mvT hZ (wd hw 220 rfl)) (notFace_of_selects (args := #[]) (mvT hZ (wd hw 222 rfl))) (mvT hZ (wd hw 222 rfl)) (mvT hZ (wd hw 221 rfl)) (by decide) (backOf (W := 0) (rm38_30 l Z a0 hw [] a1 d k x0 x1 x2 h0 n0 Z0 F_e A) hZ (wd hw 223 rfl) (wd hw 12 rfl) (by decide) (by decide)) q102a q102c (g := (mkF m 11 #[.val (.ref a1), .val (.int 0)] [(.int 0), (.ref a1)])) rfl (by rw [hml]; rfl) (Steps.refl _) (argsL := [(.int 0)]) (rest := []) (lenOf pd_13 rfl) rfl (wr0 rfl rfl) (hb hby d35_11) (fun _ _ => ⟨rfl, e101, (by decide : 0 + 0 ≤ _), (by decide : 0 + 0 ≤ _)⟩)
 dsimp only [Pt.U, Pt.locs, Pt.cells, Pt.slots] at X102 l102 y102 z102 st102 hQ102
 subst l102 y102 z102
 obtain ⟨rfl, N102q, e102⟩ := hQ102
 have N102 := Fr.app N101 N102q
 refine Goes.of (fun t k => st102.trans k) ?_
 show Goes p e below (T102.setTop (mkF m 14 #[.val (.ref a1), .val (.int 0)] [(.ref x0)])) _
 exact Goes.retA X102 hx (by rfl) Bd.returns (by rfl) hlocks (hb hby d35_14) (⟨rfl, N102, e102⟩) (by decide) (by decide)
theorem ef_38_32 (m : MethodId) (x0 : Addr) (x1 : Int32) : entryFrame m #[(.ref x0), (.int x1)] 2 = mkF m 0 #[.val (.ref x0), .val (.int x1)] [] := by first | (simp [entryFrame, mkF, argsToLocals, Value.category]; done) | rfl
def Q38_32 (Z : State) (a1 d : Addr) (k : ClassId) (x0 x1 x2 : Addr) (h0 : Heap) (n0 : Nat) (v : Option Value) (h : Heap) (L : List Loc) : Prop := v = some (.ref x1) ∧ Fr n0 L ∧ h = h0
theorem rm38_32 (l : Launch) (Z : State) (a0 : Array Value) (hw : ∀ d ∈ tables_1, d.before a0 Z = true) (ws : List Jvm.Cond) (a1 d : Addr) (k : ClassId) (x0 x1 x2 : Addr) (h0 : Heap) (n0 : Nat) (Z0 : n0 ≤ h0.size) (F_e : Fl0 Z h0 a1 (.ref d)) (A : Arv Z h0 d k (.object "java/lang/Object") (10 : Int32) [(.ref x0), (.ref x1), (.ref x2), .null, .null, .null, .null, .null, .null, .null] .null) :
 CT l Z mn14 jdk_38_method_18_code 2 (some (.object "java/lang/Object")) ws (⟨0, 0, 0, 0⟩ : Room) #[(.ref a1), (.int 1)] h0 (Q38_32 Z a1 d k x0 x1 x2 h0 n0) := by
 refine MetFree.of_bodySF (plainFor_of_name pn_3) hisR ?_
 intro p e s m args below meth c s₁ Bd hml0 hP hK
 obtain ⟨rfl, hZ, hh⟩ := hP
 have hx := Bd.exec
 have hby := Bd.bytes
 have hml : c.maxLocals = 2 := hml0
 have hown : s.vm.findClass "java/util/ArrayList" = some m.cls := findClass_of_methodNamed Bd.named
 have hnm := (name_of_methodNamed Bd.named Bd.method).1
 have hlocks : meth.locks = false := BodyLoose.notSynchronized Bd
 have X0 : Stand p l e (⟨0, 0, 0, 0⟩ : Room) s m #[(.ref a1), (.int 1)] below meth c s₁ [] 0 0 := Stand.of_body Bd
 have e0 : s₁.heap = h0 := by rw [← hh, Bd.state]; rfl
 have N0 := Fr.nil n0
 show Goes p e below (s₁.setTop (entryFrame m #[(.ref a1), (.int 1)] 2)) (Fin s (Q38_32 Z a1 d k x0 x1 x2 h0 n0) (⟨0, 0, 0, 0⟩ : Room).cells (⟨0, 0, 0, 0⟩ : Room).slots)
 refine Goes.of (fun t k => castTop (ef_38_32 m a1 (1 : Int32)) k) ?_
 refine gO (fun t k => XS.aloadN X0.here hx rfl (hb hby d38_0) rfl rfl k) ?_
 obtain ⟨T100, X100, e100, st100⟩ := getF X0 hx hZ hown (host := "") (Or.inl (wd hw 32 rfl)) Via.refl e0 F_e (g := (mkF m 1 #[.val (.ref a1), .val (.int 1)] [(.ref a1)])) rfl rfl (hb hby d38_1)
 refine Goes.of st100 ?_
 refine gO (fun t k => XS.iloadN X100.here hx rfl (hb hby d38_4) rfl k) ?_
 have Vc101 := A
 obtain ⟨clc101, Arc101, qc101, Sc101, Nc101, Hc101, Gc101⟩ := Vc101
 have hin102 : ¬ ((1 : Int32) < 0 ∨ clc101.slots.size ≤ ((1 : Int32)).toNatClampNeg) := inb_of Sc101 ⟨by decide, by decide⟩
 have hat103 : clc101.slots[((1 : Int32)).toNatClampNeg]? = some (.ref x1) := Hc101.at hin102 rfl
 refine gO (fun t k => X100.aaload hx (j := (1 : Int32)) (v := (.ref x1)) (by rw [e100]; exact Arc101.1) (State.isArrayOf_alike hZ.alike Arc101.2.1) rfl Arc101.2.2 hin102 hat103 (g := (mkF m 5 #[.val (.ref a1), .val (.int 1)] [(.int 1), (.ref d)])) rfl rfl (hb hby d38_5) _ k) ?_
 show Goes p e below (T100.setTop (mkF m 6 #[.val (.ref a1), .val (.int 1)] [(.ref x1)])) _
 exact Goes.retA X100 hx (by rfl) Bd.returns (by rfl) hlocks (hb hby d38_6) (⟨rfl, N0, e100⟩) (by decide) (by decide)
theorem ef_35_33 (m : MethodId) (x0 : Addr) (x1 : Int32) : entryFrame m #[(.ref x0), (.int x1)] 2 = mkF m 0 #[.val (.ref x0), .val (.int x1)] [] := by first | (simp [entryFrame, mkF, argsToLocals, Value.category]; done) | rfl
def Q35_33 (Z : State) (a1 d : Addr) (k : ClassId) (x0 x1 x2 : Addr) (h0 : Heap) (n0 : Nat) (v : Option Value) (h : Heap) (L : List Loc) : Prop := v = some (.ref x1) ∧ Fr n0 L ∧ h = h0
theorem rm35_33 (l : Launch) (Z : State) (a0 : Array Value) (hw : ∀ d ∈ tables_1, d.before a0 Z = true) (ws : List Jvm.Cond) (a1 d : Addr) (k : ClassId) (x0 x1 x2 : Addr) (h0 : Heap) (n0 : Nat) (Z0 : n0 ≤ h0.size) (E : Exa Z h0 a1 "java/util/ArrayList") (F_s : Fl1 Z h0 a1 (.int 3)) (F_e : Fl0 Z h0 a1 (.ref d)) (A : Arv Z h0 d k (.object "java/lang/Object") (10 : Int32) [(.ref x0), (.ref x1), (.ref x2), .null, .null, .null, .null, .null, .null, .null] .null) :
 CT l Z mn15 jdk_38_method_20_code 2 (some (.object "java/lang/Object")) ws (⟨2, 0, 0, 27⟩ : Room) #[(.ref a1), (.int 1)] h0 (Q35_33 Z a1 d k x0 x1 x2 h0 n0) := by
 refine MetFree.of_bodySF (plainFor_of_name pn_3) hisR ?_
 intro p e s m args below meth c s₁ Bd hml0 hP hK
 obtain ⟨rfl, hZ, hh⟩ := hP
 have hx := Bd.exec
 have hby := Bd.bytes
 have hml : c.maxLocals = 2 := hml0
 have hown : s.vm.findClass "java/util/ArrayList" = some m.cls := findClass_of_methodNamed Bd.named
 have hnm := (name_of_methodNamed Bd.named Bd.method).1
 have hlocks : meth.locks = false := BodyLoose.notSynchronized Bd
 have X0 : Stand p l e (⟨2, 0, 0, 27⟩ : Room) s m #[(.ref a1), (.int 1)] below meth c s₁ [] 0 0 := Stand.of_body Bd
 have e0 : s₁.heap = h0 := by rw [← hh, Bd.state]; rfl
 have N0 := Fr.nil n0
 show Goes p e below (s₁.setTop (entryFrame m #[(.ref a1), (.int 1)] 2)) (Fin s (Q35_33 Z a1 d k x0 x1 x2 h0 n0) (⟨2, 0, 0, 27⟩ : Room).cells (⟨2, 0, 0, 27⟩ : Room).slots)
 refine Goes.of (fun t k => castTop (ef_35_33 m a1 (1 : Int32)) k) ?_
 refine gO (fun t k => XS.iloadN X0.here hx rfl (hb hby d35_0) rfl k) ?_
 refine gO (fun t k => XS.aloadN X0.here hx rfl (hb hby d35_1) rfl rfl k) ?_
 obtain ⟨T100, X100, e100, st100⟩ := getF X0 hx hZ hown (host := "") (Or.inl (wd hw 76 rfl)) Via.refl e0 F_s (g := (mkF m 2 #[.val (.ref a1), .val (.int 1)] [(.ref a1), (.int 1)])) rfl rfl (hb hby d35_2)
 refine Goes.of st100 ?_
 obtain ⟨_, _, ⟨T101, L101, k101, n101⟩, -, X101, ⟨Lc101, hQ101, l101, y101, z101⟩, st101⟩ := Jvm.LawKit.callS X100 hx (y := mn13) hown (mvT hZ (wd hw 211 rfl)) (mvT hZ (wd hw 212 rfl)) (mvT hZ (wd hw 213 rfl)) (mvT hZ (wd hw 214 rfl)) (by decide) (backOf (W := 0) (rm36 l Z a0 hw [] (1 : Int32) (3 : Int32)  h0 n0 Z0 (by decide) (by decide)) hZ (wd hw 214 rfl) (wd hw 213 rfl) (by decide) (by decide)) (g := (mkF m 5 #[.val (.ref a1), .val (.int 1)] [(.int 3), (.int 1)])) rfl (by rw [hml]; rfl) (argsL := [(.int 1), (.int 3)]) (rest := []) (lenOf pd_5 rfl) rfl (wr0 rfl rfl) (hb hby d35_5) (fun _ _ => ⟨rfl, e100, (by decide : 0 + 0 ≤ _), (by decide : 0 + 0 ≤ _)⟩)
 dsimp only [Pt.U, Pt.locs, Pt.cells, Pt.slots] at X101 l101 y101 z101 st101 hQ101
 subst l101 y101 z101
 obtain ⟨rfl, N101q, e101⟩ := hQ101
 have N101 := Fr.app N0 N101q
 refine Goes.of st101 ?_
 refine gO (fun t k => XS.pop X101.here hx rfl (hb hby d35_8) rfl rfl k) ?_
 refine gO (fun t k => XS.aloadN X101.here hx rfl (hb hby d35_9) rfl rfl k) ?_
 show Goes p e below (T101.setTop (mkF m 10 #[.val (.ref a1), .val (.int 1)] [(.ref a1)])) _
 refine gO (fun t k => XS.iloadN X101.here hx rfl (hb hby d35_10) rfl k) ?_
 obtain ⟨cq102, kq102, q102a, q102b, q102c⟩ := isOf hZ e101 E
 obtain ⟨_, _, ⟨T102, L102, k102, n102⟩, -, X102, ⟨Lc102, hQ102, l102, y102, z102⟩, st102⟩ := X101.virtualBack hx (y := mn14) (z := mn14) hown (mvT hZ (wd hw 219 rfl)) (mvT hZ (wd hw 220 rfl)) (notFace_of_selects (args := #[]) (mvT hZ (wd hw 222 rfl))) (mvT hZ (wd hw 222 rfl)) (mvT hZ (wd hw 221 rfl)) (by decide) (backOf (W := 0) (rm38_32 l Z a0 hw [] a1 d k x0 x1 x2 h0 n0 Z0 F_e A) hZ (wd hw 223 rfl) (wd hw 12 rfl) (by decide) (by decide)) q102a q102c (g := (mkF m 11 #[.val (.ref a1), .val (.int 1)] [(.int 1), (.ref a1)])) rfl (by rw [hml]; rfl) (Steps.refl _) (argsL := [(.int 1)]) (rest := []) (lenOf pd_13 rfl) rfl (wr0 rfl rfl) (hb hby d35_11) (fun _ _ => ⟨rfl, e101, (by decide : 0 + 0 ≤ _), (by decide : 0 + 0 ≤ _)⟩)
 dsimp only [Pt.U, Pt.locs, Pt.cells, Pt.slots] at X102 l102 y102 z102 st102 hQ102
 subst l102 y102 z102
 obtain ⟨rfl, N102q, e102⟩ := hQ102
 have N102 := Fr.app N101 N102q
 refine Goes.of (fun t k => st102.trans k) ?_
 show Goes p e below (T102.setTop (mkF m 14 #[.val (.ref a1), .val (.int 1)] [(.ref x1)])) _
 exact Goes.retA X102 hx (by rfl) Bd.returns (by rfl) hlocks (hb hby d35_14) (⟨rfl, N102, e102⟩) (by decide) (by decide)
theorem ef_38_34 (m : MethodId) (x0 : Addr) (x1 : Int32) : entryFrame m #[(.ref x0), (.int x1)] 2 = mkF m 0 #[.val (.ref x0), .val (.int x1)] [] := by first | (simp [entryFrame, mkF, argsToLocals, Value.category]; done) | rfl
def Q38_34 (Z : State) (a1 d : Addr) (k : ClassId) (x0 x1 x2 : Addr) (h0 : Heap) (n0 : Nat) (v : Option Value) (h : Heap) (L : List Loc) : Prop := v = some (.ref x2) ∧ Fr n0 L ∧ h = h0
theorem rm38_34 (l : Launch) (Z : State) (a0 : Array Value) (hw : ∀ d ∈ tables_1, d.before a0 Z = true) (ws : List Jvm.Cond) (a1 d : Addr) (k : ClassId) (x0 x1 x2 : Addr) (h0 : Heap) (n0 : Nat) (Z0 : n0 ≤ h0.size) (F_e : Fl0 Z h0 a1 (.ref d)) (A : Arv Z h0 d k (.object "java/lang/Object") (10 : Int32) [(.ref x0), (.ref x1), (.ref x2), .null, .null, .null, .null, .null, .null, .null] .null) :
 CT l Z mn14 jdk_38_method_18_code 2 (some (.object "java/lang/Object")) ws (⟨0, 0, 0, 0⟩ : Room) #[(.ref a1), (.int 2)] h0 (Q38_34 Z a1 d k x0 x1 x2 h0 n0) := by
 refine MetFree.of_bodySF (plainFor_of_name pn_3) hisR ?_
 intro p e s m args below meth c s₁ Bd hml0 hP hK
 obtain ⟨rfl, hZ, hh⟩ := hP
 have hx := Bd.exec
 have hby := Bd.bytes
 have hml : c.maxLocals = 2 := hml0
 have hown : s.vm.findClass "java/util/ArrayList" = some m.cls := findClass_of_methodNamed Bd.named
 have hnm := (name_of_methodNamed Bd.named Bd.method).1
 have hlocks : meth.locks = false := BodyLoose.notSynchronized Bd
 have X0 : Stand p l e (⟨0, 0, 0, 0⟩ : Room) s m #[(.ref a1), (.int 2)] below meth c s₁ [] 0 0 := Stand.of_body Bd
 have e0 : s₁.heap = h0 := by rw [← hh, Bd.state]; rfl
 have N0 := Fr.nil n0
 show Goes p e below (s₁.setTop (entryFrame m #[(.ref a1), (.int 2)] 2)) (Fin s (Q38_34 Z a1 d k x0 x1 x2 h0 n0) (⟨0, 0, 0, 0⟩ : Room).cells (⟨0, 0, 0, 0⟩ : Room).slots)
 refine Goes.of (fun t k => castTop (ef_38_34 m a1 (2 : Int32)) k) ?_
 refine gO (fun t k => XS.aloadN X0.here hx rfl (hb hby d38_0) rfl rfl k) ?_
 obtain ⟨T100, X100, e100, st100⟩ := getF X0 hx hZ hown (host := "") (Or.inl (wd hw 32 rfl)) Via.refl e0 F_e (g := (mkF m 1 #[.val (.ref a1), .val (.int 2)] [(.ref a1)])) rfl rfl (hb hby d38_1)
 refine Goes.of st100 ?_
 refine gO (fun t k => XS.iloadN X100.here hx rfl (hb hby d38_4) rfl k) ?_
 have Vc101 := A
 obtain ⟨clc101, Arc101, qc101, Sc101, Nc101, Hc101, Gc101⟩ := Vc101
 have hin102 : ¬ ((2 : Int32) < 0 ∨ clc101.slots.size ≤ ((2 : Int32)).toNatClampNeg) := inb_of Sc101 ⟨by decide, by decide⟩
 have hat103 : clc101.slots[((2 : Int32)).toNatClampNeg]? = some (.ref x2) := Hc101.at hin102 rfl
 refine gO (fun t k => X100.aaload hx (j := (2 : Int32)) (v := (.ref x2)) (by rw [e100]; exact Arc101.1) (State.isArrayOf_alike hZ.alike Arc101.2.1) rfl Arc101.2.2 hin102 hat103 (g := (mkF m 5 #[.val (.ref a1), .val (.int 2)] [(.int 2), (.ref d)])) rfl rfl (hb hby d38_5) _ k) ?_
 show Goes p e below (T100.setTop (mkF m 6 #[.val (.ref a1), .val (.int 2)] [(.ref x2)])) _
 exact Goes.retA X100 hx (by rfl) Bd.returns (by rfl) hlocks (hb hby d38_6) (⟨rfl, N0, e100⟩) (by decide) (by decide)
theorem ef_35_35 (m : MethodId) (x0 : Addr) (x1 : Int32) : entryFrame m #[(.ref x0), (.int x1)] 2 = mkF m 0 #[.val (.ref x0), .val (.int x1)] [] := by first | (simp [entryFrame, mkF, argsToLocals, Value.category]; done) | rfl
def Q35_35 (Z : State) (a1 d : Addr) (k : ClassId) (x0 x1 x2 : Addr) (h0 : Heap) (n0 : Nat) (v : Option Value) (h : Heap) (L : List Loc) : Prop := v = some (.ref x2) ∧ Fr n0 L ∧ h = h0
theorem rm35_35 (l : Launch) (Z : State) (a0 : Array Value) (hw : ∀ d ∈ tables_1, d.before a0 Z = true) (ws : List Jvm.Cond) (a1 d : Addr) (k : ClassId) (x0 x1 x2 : Addr) (h0 : Heap) (n0 : Nat) (Z0 : n0 ≤ h0.size) (E : Exa Z h0 a1 "java/util/ArrayList") (F_s : Fl1 Z h0 a1 (.int 3)) (F_e : Fl0 Z h0 a1 (.ref d)) (A : Arv Z h0 d k (.object "java/lang/Object") (10 : Int32) [(.ref x0), (.ref x1), (.ref x2), .null, .null, .null, .null, .null, .null, .null] .null) :
 CT l Z mn15 jdk_38_method_20_code 2 (some (.object "java/lang/Object")) ws (⟨2, 0, 0, 27⟩ : Room) #[(.ref a1), (.int 2)] h0 (Q35_35 Z a1 d k x0 x1 x2 h0 n0) := by
 refine MetFree.of_bodySF (plainFor_of_name pn_3) hisR ?_
 intro p e s m args below meth c s₁ Bd hml0 hP hK
 obtain ⟨rfl, hZ, hh⟩ := hP
 have hx := Bd.exec
 have hby := Bd.bytes
 have hml : c.maxLocals = 2 := hml0
 have hown : s.vm.findClass "java/util/ArrayList" = some m.cls := findClass_of_methodNamed Bd.named
 have hnm := (name_of_methodNamed Bd.named Bd.method).1
 have hlocks : meth.locks = false := BodyLoose.notSynchronized Bd
 have X0 : Stand p l e (⟨2, 0, 0, 27⟩ : Room) s m #[(.ref a1), (.int 2)] below meth c s₁ [] 0 0 := Stand.of_body Bd
 have e0 : s₁.heap = h0 := by rw [← hh, Bd.state]; rfl
 have N0 := Fr.nil n0
 show Goes p e below (s₁.setTop (entryFrame m #[(.ref a1), (.int 2)] 2)) (Fin s (Q35_35 Z a1 d k x0 x1 x2 h0 n0) (⟨2, 0, 0, 27⟩ : Room).cells (⟨2, 0, 0, 27⟩ : Room).slots)
 refine Goes.of (fun t k => castTop (ef_35_35 m a1 (2 : Int32)) k) ?_
 refine gO (fun t k => XS.iloadN X0.here hx rfl (hb hby d35_0) rfl k) ?_
 refine gO (fun t k => XS.aloadN X0.here hx rfl (hb hby d35_1) rfl rfl k) ?_
 obtain ⟨T100, X100, e100, st100⟩ := getF X0 hx hZ hown (host := "") (Or.inl (wd hw 76 rfl)) Via.refl e0 F_s (g := (mkF m 2 #[.val (.ref a1), .val (.int 2)] [(.ref a1), (.int 2)])) rfl rfl (hb hby d35_2)
 refine Goes.of st100 ?_
 obtain ⟨_, _, ⟨T101, L101, k101, n101⟩, -, X101, ⟨Lc101, hQ101, l101, y101, z101⟩, st101⟩ := Jvm.LawKit.callS X100 hx (y := mn13) hown (mvT hZ (wd hw 211 rfl)) (mvT hZ (wd hw 212 rfl)) (mvT hZ (wd hw 213 rfl)) (mvT hZ (wd hw 214 rfl)) (by decide) (backOf (W := 0) (rm36 l Z a0 hw [] (2 : Int32) (3 : Int32)  h0 n0 Z0 (by decide) (by decide)) hZ (wd hw 214 rfl) (wd hw 213 rfl) (by decide) (by decide)) (g := (mkF m 5 #[.val (.ref a1), .val (.int 2)] [(.int 3), (.int 2)])) rfl (by rw [hml]; rfl) (argsL := [(.int 2), (.int 3)]) (rest := []) (lenOf pd_5 rfl) rfl (wr0 rfl rfl) (hb hby d35_5) (fun _ _ => ⟨rfl, e100, (by decide : 0 + 0 ≤ _), (by decide : 0 + 0 ≤ _)⟩)
 dsimp only [Pt.U, Pt.locs, Pt.cells, Pt.slots] at X101 l101 y101 z101 st101 hQ101
 subst l101 y101 z101
 obtain ⟨rfl, N101q, e101⟩ := hQ101
 have N101 := Fr.app N0 N101q
 refine Goes.of st101 ?_
 refine gO (fun t k => XS.pop X101.here hx rfl (hb hby d35_8) rfl rfl k) ?_
 refine gO (fun t k => XS.aloadN X101.here hx rfl (hb hby d35_9) rfl rfl k) ?_
 show Goes p e below (T101.setTop (mkF m 10 #[.val (.ref a1), .val (.int 2)] [(.ref a1)])) _
 refine gO (fun t k => XS.iloadN X101.here hx rfl (hb hby d35_10) rfl k) ?_
 obtain ⟨cq102, kq102, q102a, q102b, q102c⟩ := isOf hZ e101 E
 obtain ⟨_, _, ⟨T102, L102, k102, n102⟩, -, X102, ⟨Lc102, hQ102, l102, y102, z102⟩, st102⟩ := X101.virtualBack hx (y := mn14) (z := mn14) hown (mvT hZ (wd hw 219 rfl)) (mvT hZ (wd hw 220 rfl)) (notFace_of_selects (args := #[]) (mvT hZ (wd hw 222 rfl))) (mvT hZ (wd hw 222 rfl)) (mvT hZ (wd hw 221 rfl)) (by decide) (backOf (W := 0) (rm38_34 l Z a0 hw [] a1 d k x0 x1 x2 h0 n0 Z0 F_e A) hZ (wd hw 223 rfl) (wd hw 12 rfl) (by decide) (by decide)) q102a q102c (g := (mkF m 11 #[.val (.ref a1), .val (.int 2)] [(.int 2), (.ref a1)])) rfl (by rw [hml]; rfl) (Steps.refl _) (argsL := [(.int 2)]) (rest := []) (lenOf pd_13 rfl) rfl (wr0 rfl rfl) (hb hby d35_11) (fun _ _ => ⟨rfl, e101, (by decide : 0 + 0 ≤ _), (by decide : 0 + 0 ≤ _)⟩)
 dsimp only [Pt.U, Pt.locs, Pt.cells, Pt.slots] at X102 l102 y102 z102 st102 hQ102
 subst l102 y102 z102
 obtain ⟨rfl, N102q, e102⟩ := hQ102
 have N102 := Fr.app N101 N102q
 refine Goes.of (fun t k => st102.trans k) ?_
 show Goes p e below (T102.setTop (mkF m 14 #[.val (.ref a1), .val (.int 2)] [(.ref x2)])) _
 exact Goes.retA X102 hx (by rfl) Bd.returns (by rfl) hlocks (hb hby d35_14) (⟨rfl, N102, e102⟩) (by decide) (by decide)
theorem ef_26 (m : MethodId) (x0 : Int32) : entryFrame m #[(.int x0)] 1 = mkF m 0 #[.val (.int x0)] [] := by first | (simp [entryFrame, mkF, argsToLocals, Value.category]; done) | rfl
def Q26 (Z : State) (p1 : Int32) (h0 : Heap) (n0 : Nat) (v : Option Value) (h : Heap) (L : List Loc) : Prop := v = some (.int 1) ∧ Fr n0 L ∧ h = h0
theorem rm26 (l : Launch) (Z : State) (a0 : Array Value) (hw : ∀ d ∈ tables_1, d.before a0 Z = true) (ws : List Jvm.Cond) (p1 : Int32) (h0 : Heap) (n0 : Nat) (Z0 : n0 ≤ h0.size) (r1 : p1.toInt ≤ 255) :
 CT l Z mn16 jdk_43_method_3_code 1 (some .boolean) ws (⟨0, 0, 0, 0⟩ : Room) #[(.int p1)] h0 (Q26 Z p1 h0 n0) := by
 refine MetFree.of_bodySF (plainFor_of_name pn_14) hisR ?_
 intro p e s m args below meth c s₁ Bd hml0 hP hK
 obtain ⟨rfl, hZ, hh⟩ := hP
 have hx := Bd.exec
 have hby := Bd.bytes
 have hml : c.maxLocals = 1 := hml0
 have hown : s.vm.findClass "java/lang/StringLatin1" = some m.cls := findClass_of_methodNamed Bd.named
 have hnm := (name_of_methodNamed Bd.named Bd.method).1
 have hlocks : meth.locks = false := BodyLoose.notSynchronized Bd
 have X0 : Stand p l e (⟨0, 0, 0, 0⟩ : Room) s m #[(.int p1)] below meth c s₁ [] 0 0 := Stand.of_body Bd
 have e0 : s₁.heap = h0 := by rw [← hh, Bd.state]; rfl
 have N0 := Fr.nil n0
 show Goes p e below (s₁.setTop (entryFrame m #[(.int p1)] 1)) (Fin s (Q26 Z p1 h0 n0) (⟨0, 0, 0, 0⟩ : Room).cells (⟨0, 0, 0, 0⟩ : Room).slots)
 refine Goes.of (fun t k => castTop (ef_26 m p1) k) ?_
 refine gO (fun t k => XS.iloadN X0.here hx rfl (hb hby d26_0) rfl k) ?_
 refine gO (fun t k => XS.sipush X0.here hx rfl (hb hby d26_1) k) ?_
 have hd4_100 : ¬ ((255 : Int32) < p1) := fun q => by have := Int32.lt_iff_toInt_lt.mp q; have e : (255 : Int32).toInt = 255 := (by decide); omega
 refine gO (fun t k => XS.icmpNo X0.here hx rfl (hb hby d26_4) rfl (flt hd4_100).2.2.1 k) ?_
 refine gO (fun t k => XS.iconst X0.here hx rfl (hb hby d26_7) k) ?_
 show Goes p e below (s₁.setTop (mkF m 8 #[.val (.int p1)] [(.int 1)])) _
 refine gO (fun t k => XS.goto X0.here hx rfl (pc0 := 8) (pc' := 12) rfl (hb hby d26_8) (by decide) (by decide) k) ?_
 show Goes p e below (s₁.setTop (mkF m 12 #[.val (.int p1)] [(.int 1)])) _
 exact Goes.retN (t := .boolean) X0 hx Bd.returns (by simp) hlocks (hb hby d26_12) (⟨rfl, N0, e0⟩) (by decide) (by decide)
theorem ef_27 (m : MethodId) (x0 : Int32) : entryFrame m #[(.int x0)] 1 = mkF m 0 #[.val (.int x0)] [] := by first | (simp [entryFrame, mkF, argsToLocals, Value.category]; done) | rfl
def Q27 (Z : State) (p1 : Int32) (h0 : Heap) (n0 : Nat) (v : Option Value) (h : Heap) (L : List Loc) : Prop := ∃ (b : Addr) (k : ClassId), v = some (.ref b) ∧ Fr n0 L ∧ Keep h0 h [] ∧ h0.size ≤ b ∧ Arv Z h b k .byte (1 : Int32) (own_vb ([p1])) (.int (0 : Int32))
theorem rm27 (l : Launch) (Z : State) (a0 : Array Value) (hw : ∀ d ∈ tables_1, d.before a0 Z = true) (ws : List Jvm.Cond) (p1 : Int32) (h0 : Heap) (n0 : Nat) (Z0 : n0 ≤ h0.size)  :
 CT l Z mn17 jdk_43_method_46_code 1 (some (.array .byte)) ws (⟨0, 1, 1, 0⟩ : Room) #[(.int p1)] h0 (Q27 Z p1 h0 n0) := by
 refine MetFree.of_bodySF (plainFor_of_name pn_14) hisR ?_
 intro p e s m args below meth c s₁ Bd hml0 hP hK
 obtain ⟨rfl, hZ, hh⟩ := hP
 have hx := Bd.exec
 have hby := Bd.bytes
 have hml : c.maxLocals = 1 := hml0
 have hown : s.vm.findClass "java/lang/StringLatin1" = some m.cls := findClass_of_methodNamed Bd.named
 have hnm := (name_of_methodNamed Bd.named Bd.method).1
 have hlocks : meth.locks = false := BodyLoose.notSynchronized Bd
 have X0 : Stand p l e (⟨0, 1, 1, 0⟩ : Room) s m #[(.int p1)] below meth c s₁ [] 0 0 := Stand.of_body Bd
 have e0 : s₁.heap = h0 := by rw [← hh, Bd.state]; rfl
 have N0 := Fr.nil n0
 show Goes p e below (s₁.setTop (entryFrame m #[(.int p1)] 1)) (Fin s (Q27 Z p1 h0 n0) (⟨0, 1, 1, 0⟩ : Room).cells (⟨0, 1, 1, 0⟩ : Room).slots)
 refine Goes.of (fun t k => castTop (ef_27 m p1) k) ?_
 have K0 : Keep h0 h0 [] := Keep.refl _ _
 refine gO (fun t k => XS.iconst X0.here hx rfl (hb hby d27_0) k) ?_
 obtain ⟨T100, h100, k100, X100, e100, E100, A100, st100⟩ := newP X0 hx hZ (wd hw 62 rfl) e0 (g := (mkF m 1 #[.val (.int p1)] [(.int 1)])) rfl (hb hby d27_1) rfl (by decide) (cap := 1) (by decide) (by decide) (by decide) (by decide)
 obtain ⟨b100, g100⟩ : ∃ z, z = h0.size := ⟨_, rfl⟩
 rw [← g100] at A100 st100
 have g101 : n0 ≤ b100 := Nat.le_trans Z0 (Nat.le_of_eq g100.symm)
 have z103 : h0.size ≤ b100 := Nat.le_trans K0.1 (Nat.le_of_eq g100.symm)
 have K104 : Keep h0 h100 [] := K0.ext E100
 have V100 : Arv Z h100 b100 k100 .byte (1 : Int32) [(.int (0 : Int32))] (.int (0 : Int32)) := (Arv.new A100 (by decide)).pad (pad_rep [] (.int (0 : Int32)) 1)
 refine Goes.of st100 ?_
 refine gO (fun t k => XS.dup X100.here hx rfl (hb hby d27_3) rfl rfl k) ?_
 refine gO (fun t k => XS.iconst X100.here hx rfl (hb hby d27_4) k) ?_
 refine gO (fun t k => XS.iloadN X100.here hx rfl (hb hby d27_5) rfl k) ?_
 show Goes p e below (T100.setTop (mkF m 6 #[.val (.int p1)] [(.int p1), (.int 0), (.ref b100), (.ref b100)])) _
 refine gO (fun t k => XS.i2b X100.here hx rfl (hb hby d27_6) rfl k) ?_
 have Vc105 := V100
 obtain ⟨clc105, Arc105, qc105, Sc105, Nc105, Hc105, Gc105⟩ := Vc105
 have hin106 : ¬ ((0 : Int32) < 0 ∨ clc105.slots.size ≤ ((0 : Int32)).toNatClampNeg) := inb_of Sc105 ⟨by decide, by decide⟩
 obtain ⟨T107, h107, X107, e107, W107, st107⟩ := stB X100 hx hZ e100 Arc105 (j := (0 : Int32)) hin106 (g := (mkF m 7 #[.val (.int p1)] [(.int (p1.toInt8.toInt32)), (.int 0), (.ref b100), (.ref b100)])) rfl rfl (hb hby d27_7)
 have V107 : Arv Z h107 b100 k100 .byte (1 : Int32) [(.int (nar .byte (p1.toInt8.toInt32)))] (.int (0 : Int32)) := Arv.set Arc105 qc105 Sc105 Nc105 Hc105 Gc105 (fits_nar_byte _) W107 0 rfl (Nat.le_of_ble_eq_true rfl)
 have K108 : Keep h0 h107 [] := K104.wr W107 (Or.inr z103)
 have N107 := Fr.snoc X107 N0 g101
 refine Goes.of st107 ?_
 show Goes p e below (T107.setTop (mkF m 8 #[.val (.int p1)] [(.ref b100)])) _
 have eh : T107.heap = h107 := e107
 exact Goes.retA X107 hx (by rfl) Bd.returns (by rfl) hlocks (hb hby d27_8) (⟨b100, _, rfl, N107, by rw [eh]; exact K108, z103, by rw [eh]; have z := V107; rw [own_nb] at z; exact z⟩) (by decide) (by decide)
theorem ef_28 (m : MethodId) (x0 x1 : Addr) (x2 : Int32) : entryFrame m #[(.ref x0), (.ref x1), (.int x2)] 3 = mkF m 0 #[.val (.ref x0), .val (.ref x1), .val (.int x2)] [] := by first | (simp [entryFrame, mkF, argsToLocals, Value.category]; done) | rfl
def Q28 (Z : State) (a1 a2 : Addr) (h0 : Heap) (n0 : Nat) (v : Option Value) (h : Heap) (L : List Loc) : Prop := v = none ∧ Fr n0 L ∧ Keep h0 h [a1] ∧ Exa Z h a1 "java/lang/String" ∧ Fl5 Z h a1 (.int 0) ∧ Fl6 Z h a1 (.ref a2)
theorem rm28 (l : Launch) (Z : State) (a0 : Array Value) (hw : ∀ d ∈ tables_1, d.before a0 Z = true) (ws : List Jvm.Cond) (a1 a2 : Addr) (h0 : Heap) (n0 : Nat) (Z0 : n0 ≤ h0.size) (E_a1 : Exa Z h0 a1 "java/lang/String") (F_c_a1 : Fl5 Z h0 a1 (.int 0)) (F_w_a1 : Fl6 Z h0 a1 .null) (G_a1 : n0 ≤ a1) :
 CT l Z mn18 jdk_42_method_151_code 3 none ws (⟨1, 0, 0, 12⟩ : Room) #[(.ref a1), (.ref a2), (.int 0)] h0 (Q28 Z a1 a2 h0 n0) := by
 refine MetFree.of_bodySF (plainFor_of_name pn_15) hisR ?_
 intro p e s m args below meth c s₁ Bd hml0 hP hK
 obtain ⟨rfl, hZ, hh⟩ := hP
 have hx := Bd.exec
 have hby := Bd.bytes
 have hml : c.maxLocals = 3 := hml0
 have hown : s.vm.findClass "java/lang/String" = some m.cls := findClass_of_methodNamed Bd.named
 have hnm := (name_of_methodNamed Bd.named Bd.method).1
 have hlocks : meth.locks = false := BodyLoose.notSynchronized Bd
 have X0 : Stand p l e (⟨1, 0, 0, 12⟩ : Room) s m #[(.ref a1), (.ref a2), (.int 0)] below meth c s₁ [] 0 0 := Stand.of_body Bd
 have e0 : s₁.heap = h0 := by rw [← hh, Bd.state]; rfl
 have N0 := Fr.nil n0
 show Goes p e below (s₁.setTop (entryFrame m #[(.ref a1), (.ref a2), (.int 0)] 3)) (Fin s (Q28 Z a1 a2 h0 n0) (⟨1, 0, 0, 12⟩ : Room).cells (⟨1, 0, 0, 12⟩ : Room).slots)
 refine Goes.of (fun t k => castTop (ef_28 m a1 a2 (0 : Int32)) k) ?_
 have K0 : Keep h0 h0 [a1] := Keep.refl _ _
 refine gO (fun t k => XS.aloadN X0.here hx rfl (hb hby d28_0) rfl rfl k) ?_
 obtain ⟨T100, X100, e100, st100⟩ := initO X0 hx hZ hown (wd hw 92 rfl) (wd hw 8 rfl) (wd hw 9 rfl) e0 (g := (mkF m 1 #[.val (.ref a1), .val (.ref a2), .val (.int 0)] [(.ref a1)])) rfl (by rw [hml]; rfl) rfl (hb hby d28_1) (by decide) (W := 0) (wr0 rfl rfl) (by decide)
 refine Goes.of st100 ?_
 refine gO (fun t k => XS.aloadN X100.here hx rfl (hb hby d28_4) rfl rfl k) ?_
 refine gO (fun t k => XS.aloadN X100.here hx rfl (hb hby d28_5) rfl rfl k) ?_
 show Goes p e below (T100.setTop (mkF m 6 #[.val (.ref a1), .val (.ref a2), .val (.int 0)] [(.ref a2), (.ref a1)])) _
 obtain ⟨T101, h101, X101, e101, W101, st101⟩ := putF X100 hx hZ hown (host := "") (Or.inl (wd hw 134 rfl)) Via.refl e100 F_w_a1 E_a1 (Or.inr ⟨(wd hw 135 rfl), rfl, hnm⟩) (wd hw 84 rfl) (ty := (.array .byte)) (by decide) rfl rfl (g := (mkF m 6 #[.val (.ref a1), .val (.ref a2), .val (.int 0)] [(.ref a2), (.ref a1)])) rfl rfl (hb hby d28_6)
 have f102 := F_w_a1.same W101
 have K103 : Keep h0 h101 [a1] := K0.wr W101 (Or.inl (List.mem_of_getElem? (i := 0) rfl))
 have f105 := F_c_a1.other W101 (Or.inr (slot_ne (Or.inr (wd hw 115 rfl)) (Or.inr (wd hw 135 rfl)) (by decide) (t := .byte) (t' := (.array .byte)) (by decide) (by decide)))
 have f107 := E_a1.wr W101
 have N101 := Fr.snoc X101 N0 G_a1
 refine Goes.of st101 ?_
 refine gO (fun t k => XS.aloadN X101.here hx rfl (hb hby d28_9) rfl rfl k) ?_
 refine gO (fun t k => XS.iloadN X101.here hx rfl (hb hby d28_10) rfl k) ?_
 obtain ⟨T108, h108, X108, e108, W108, st108⟩ := putFN X101 hx hZ hown (wd hw 114 rfl) Via.refl e101 f105 f107 (Or.inr ⟨(wd hw 115 rfl), rfl, hnm⟩) (wd hw 84 rfl) (ty := .byte) (v' := (.int 0)) (by decide) rfl (by decide) (g := (mkF m 11 #[.val (.ref a1), .val (.ref a2), .val (.int 0)] [(.int 0), (.ref a1)])) rfl rfl (hb hby d28_11)
 have f109 := f105.same W108
 have K110 : Keep h0 h108 [a1] := K103.wr W108 (Or.inl (List.mem_of_getElem? (i := 0) rfl))
 have f113 := f102.other W108 (Or.inr (slot_ne (Or.inr (wd hw 135 rfl)) (Or.inr (wd hw 115 rfl)) (by decide) (t := (.array .byte)) (t' := .byte) (by decide) (by decide)))
 have f114 := f107.wr W108
 have N108 := Fr.snoc X108 N101 G_a1
 refine Goes.of st108 ?_
 show Goes p e below (T108.setTop (mkF m 14 #[.val (.ref a1), .val (.ref a2), .val (.int 0)] [])) _
 have eh : T108.heap = h108 := e108
 exact Goes.retV X108 hx Bd.returns hlocks (hb hby d28_14) (⟨rfl, N108, by rw [eh]; exact K110, by rw [eh]; exact f114, by rw [eh]; exact f109, by rw [eh]; exact f113⟩) (by decide) (by decide)
theorem ef_25 (m : MethodId) (x0 : Int32) : entryFrame m #[(.int x0)] 1 = mkF m 0 #[.val (.int x0)] [] := by first | (simp [entryFrame, mkF, argsToLocals, Value.category]; done) | rfl
def Q25 (Z : State) (p1 cmS : Int32) (h0 : Heap) (n0 : Nat) (v : Option Value) (h : Heap) (L : List Loc) : Prop := ∃ (a b : Addr) (k : ClassId), v = some (.ref a) ∧ Fr n0 L ∧ Keep h0 h [] ∧ h0.size ≤ a ∧ Exa Z h a "java/lang/String" ∧ Fl5 Z h a (.int 0) ∧ Fl6 Z h a (.ref b) ∧ Arv Z h b k .byte (1 : Int32) (own_vb ([p1])) (.int (0 : Int32))
theorem rm25 (l : Launch) (Z : State) (a0 : Array Value) (hw : ∀ d ∈ tables_1, d.before a0 Z = true) (ws : List Jvm.Cond) (p1 cmS : Int32) (h0 : Heap) (n0 : Nat) (Z0 : n0 ≤ h0.size) (O0 : Old Z n0 h0) (SC : Sta Z Z.heap "java/lang/String" "COMPACT_STRINGS" "Z" (.int cmS)) (cs0 : cmS ≠ 0) (r1 : p1.toInt ≤ 255) :
 CT l Z mn19 jdk_42_method_139_code 1 (some (.object "java/lang/String")) ws (⟨2, 2, 5, 27⟩ : Room) #[(.int p1)] h0 (Q25 Z p1 cmS h0 n0) := by
 refine MetFree.of_bodySF (plainFor_of_name pn_15) hisR ?_
 intro p e s m args below meth c s₁ Bd hml0 hP hK
 obtain ⟨rfl, hZ, hh⟩ := hP
 have hx := Bd.exec
 have hby := Bd.bytes
 have hml : c.maxLocals = 1 := hml0
 have hown : s.vm.findClass "java/lang/String" = some m.cls := findClass_of_methodNamed Bd.named
 have hnm := (name_of_methodNamed Bd.named Bd.method).1
 have hlocks : meth.locks = false := BodyLoose.notSynchronized Bd
 have X0 : Stand p l e (⟨2, 2, 5, 27⟩ : Room) s m #[(.int p1)] below meth c s₁ [] 0 0 := Stand.of_body Bd
 have e0 : s₁.heap = h0 := by rw [← hh, Bd.state]; rfl
 have N0 := Fr.nil n0
 show Goes p e below (s₁.setTop (entryFrame m #[(.int p1)] 1)) (Fin s (Q25 Z p1 cmS h0 n0) (⟨2, 2, 5, 27⟩ : Room).cells (⟨2, 2, 5, 27⟩ : Room).slots)
 refine Goes.of (fun t k => castTop (ef_25 m p1) k) ?_
 have K0 : Keep h0 h0 [] := Keep.refl _ _
 obtain ⟨T100, X100, e100, st100⟩ := getS2 X0 hx hZ hown (host := "") (Or.inl (wd hw 149 rfl)) Via.refl e0 (SC.ext O0.2) (g := (mkF m 0 #[.val (.int p1)] [])) rfl (hb hby d25_0)
 refine Goes.of st100 ?_
 have hd3_101 : ¬ (cmS = (0 : Int32)) := cs0
 refine gO (fun t k => XS.ifNo X100.here hx rfl (hb hby d25_3) rfl ((if0 _ _).trans (feq hd3_101).1) k) ?_
 refine gO (fun t k => XS.iloadN X100.here hx rfl (hb hby d25_6) rfl k) ?_
 obtain ⟨_, _, ⟨T102, L102, k102, n102⟩, -, X102, ⟨Lc102, hQ102, l102, y102, z102⟩, st102⟩ := Jvm.LawKit.callS X100 hx (y := mn16) hown (mvT hZ (wd hw 153 rfl)) (mvT hZ (wd hw 154 rfl)) (mvT hZ (wd hw 155 rfl)) (mvT hZ (wd hw 156 rfl)) (by decide) (backOf (W := 0) (rm26 l Z a0 hw [] p1  h0 n0 Z0 r1) hZ (wd hw 156 rfl) (wd hw 155 rfl) (by decide) (by decide)) (g := (mkF m 7 #[.val (.int p1)] [(.int p1)])) rfl (by rw [hml]; rfl) (argsL := [(.int p1)]) (rest := []) (lenOf pd_16 rfl) rfl (wr0 rfl rfl) (hb hby d25_7) (fun _ _ => ⟨rfl, e100, (by decide : 0 + 0 ≤ _), (by decide : 0 + 0 ≤ _)⟩)
 dsimp only [Pt.U, Pt.locs, Pt.cells, Pt.slots] at X102 l102 y102 z102 st102 hQ102
 subst l102 y102 z102
 obtain ⟨rfl, N102q, e102⟩ := hQ102
 have N102 := Fr.app N0 N102q
 refine Goes.of st102 ?_
 refine gO (fun t k => XS.ifNo X102.here hx rfl (hb hby d25_10) rfl ((if0 _ _).trans (feq (by decide)).1) k) ?_
 show Goes p e below (T102.setTop (mkF m 13 #[.val (.int p1)] [])) _
 obtain ⟨T103, h103, X103, e103, E103, A103, D103, -, st103⟩ := newO X102 hx hZ hown (wd hw 157 rfl) (wd hw 84 rfl) (wd hw 61 rfl) e102 (g := (mkF m 13 #[.val (.int p1)] [])) rfl (hb hby d25_13) (by decide) (by decide)
 obtain ⟨b103, g103⟩ : ∃ z, z = h0.size := ⟨_, rfl⟩
 rw [← g103] at A103 D103 st103
 have g104 : n0 ≤ b103 := Nat.le_trans Z0 (Nat.le_of_eq g103.symm)
 have z105 := Nat.le_trans Z0 E103.1
 have z106 : h0.size ≤ b103 := Nat.le_trans K0.1 (Nat.le_of_eq g103.symm)
 have K108 : Keep h0 h103 [] := K0.ext E103
 have f109 : Fld Z h103 b103 "java/lang/String" "coder" "B" (.int 0) := D103 (Or.inr (wd hw 115 rfl)) (ty := .byte) (by decide)
 have f110 : Fld Z h103 b103 "java/lang/String" "value" "[B" .null := D103 (Or.inr (wd hw 135 rfl)) (ty := (.array .byte)) (by decide)
 refine Goes.of st103 ?_
 refine gO (fun t k => XS.dup X103.here hx rfl (hb hby d25_16) rfl rfl k) ?_
 refine gO (fun t k => XS.iloadN X103.here hx rfl (hb hby d25_17) rfl k) ?_
 obtain ⟨_, _, ⟨T111, L111, k111, n111⟩, -, X111, ⟨Lc111, hQ111, l111, y111, z111⟩, st111⟩ := Jvm.LawKit.callS X103 hx (y := mn17) hown (mvT hZ (wd hw 158 rfl)) (mvT hZ (wd hw 159 rfl)) (mvT hZ (wd hw 155 rfl)) (mvT hZ (wd hw 160 rfl)) (by decide) (backOf (W := 2) (rm27 l Z a0 hw [] p1  h103 n0 z105 ) hZ (wd hw 160 rfl) (wd hw 155 rfl) (by decide) (by decide)) (g := (mkF m 18 #[.val (.int p1)] [(.int p1), (.ref b103), (.ref b103)])) rfl (by rw [hml]; rfl) (argsL := [(.int p1)]) (rest := [(.ref b103), (.ref b103)]) (lenOf pd_17 rfl) rfl (wr0 rfl rfl) (hb hby d25_18) (fun _ _ => ⟨rfl, e103, (by decide : 1 + 1 ≤ _), (by decide : 4 + 1 ≤ _)⟩)
 dsimp only [Pt.U, Pt.locs, Pt.cells, Pt.slots] at X111 l111 y111 z111 st111 hQ111
 subst l111 y111 z111
 obtain ⟨b111, k111b, rfl, N111q, K111, z111b, V111⟩ := hQ111
 have N111 := Fr.app N102 N111q
 have q112 : b103 ≠ b111 := Nat.ne_of_lt (Nat.lt_of_lt_of_le A103.lt z111b)
 have K115 : Keep h0 T111.heap [] := K108.trans K111 all0
 have z116 := Nat.le_trans z105 K111.1
 have f118 := A103.keep K111
 have f119 := f109.keep K111 nin0
 have f120 := f110.keep K111 nin0
 refine Goes.of st111 ?_
 refine gO (fun t k => XS.iconst X111.here hx rfl (hb hby d25_21) k) ?_
 show Goes p e below (T111.setTop (mkF m 22 #[.val (.int p1)] [(.int 0), (.ref b111), (.ref b103), (.ref b103)])) _
 obtain ⟨_, _, ⟨T121, L121, k121, n121⟩, -, X121, ⟨Lc121, hQ121, l121, y121, z121⟩, st121⟩ := X111.specialBack hx (y := mn18) rfl hown (mvT hZ (wd hw 161 rfl)) (mvT hZ (wd hw 162 rfl)) (mvT hZ (wd hw 163 rfl)) (by decide) (backOf (W := 1) (rm28 l Z a0 hw [] b103 b111  T111.heap n0 z116 f118 f119 f120 g104) hZ (wd hw 163 rfl) (wd hw 61 rfl) (by decide) (by decide)) (g := (mkF m 22 #[.val (.int p1)] [(.int 0), (.ref b111), (.ref b103), (.ref b103)])) rfl (by rw [hml]; rfl) (Steps.refl _) (a := b103) (argsL := [(.ref b111), (.int 0)]) (rest := [(.ref b103)]) (lenOf pd_18 rfl) rfl (wr0 rfl rfl) (hb hby d25_22) (fun _ _ => ⟨rfl, rfl, (by decide : 2 + 0 ≤ _), (by decide : 5 + 0 ≤ _)⟩)
 dsimp only [Pt.U, Pt.locs, Pt.cells, Pt.slots] at X121 l121 y121 z121 st121 hQ121
 subst l121 y121 z121
 obtain ⟨rfl, N121q, K121, E121, F121_c, F121_w⟩ := hQ121
 have N121 := Fr.app N111 N121q
 have K122 : Keep h0 T121.heap [] := K115.trans K121 (allS (Or.inr z106) all0)
 have f128 := V111.keep K121 (ninS (Ne.symm q112) nin0)
 refine Goes.of (fun t k => st121.trans k) ?_
 show Goes p e below (T121.setTop (mkF m 25 #[.val (.int p1)] [(.ref b103)])) _
 have eh : T121.heap = T121.heap := rfl
 exact Goes.retA X121 hx (by rfl) Bd.returns (by rfl) hlocks (hb hby d25_25) (⟨b103, b111, _, rfl, N121, by rw [eh]; exact K122, z106, by rw [eh]; exact E121, by rw [eh]; exact F121_c, by rw [eh]; exact F121_w, by rw [eh]; exact f128⟩) (by decide) (by decide)
theorem ef_24 (m : MethodId) (x0 : Addr) : entryFrame m #[(.ref x0)] 1 = mkF m 0 #[.val (.ref x0)] [] := by first | (simp [entryFrame, mkF, argsToLocals, Value.category]; done) | rfl
def Q24 (Z : State) (a1 : Addr) (cmS : Int32) (h0 : Heap) (n0 : Nat) (v : Option Value) (h : Heap) (L : List Loc) : Prop := v = some (.int 0) ∧ Fr n0 L ∧ h = h0
theorem rm24 (l : Launch) (Z : State) (a0 : Array Value) (hw : ∀ d ∈ tables_1, d.before a0 Z = true) (ws : List Jvm.Cond) (a1 : Addr) (cmS : Int32) (h0 : Heap) (n0 : Nat) (Z0 : n0 ≤ h0.size) (O0 : Old Z n0 h0) (SC : Sta Z Z.heap "java/lang/String" "COMPACT_STRINGS" "Z" (.int cmS)) (cs0 : cmS ≠ 0) (F : Fl5 Z h0 a1 (.int 0)) :
 CT l Z mn20 jdk_42_method_152_code 1 (some .byte) ws (⟨0, 0, 0, 0⟩ : Room) #[(.ref a1)] h0 (Q24 Z a1 cmS h0 n0) := by
 refine MetFree.of_bodySF (plainFor_of_name pn_15) hisR ?_
 intro p e s m args below meth c s₁ Bd hml0 hP hK
 obtain ⟨rfl, hZ, hh⟩ := hP
 have hx := Bd.exec
 have hby := Bd.bytes
 have hml : c.maxLocals = 1 := hml0
 have hown : s.vm.findClass "java/lang/String" = some m.cls := findClass_of_methodNamed Bd.named
 have hnm := (name_of_methodNamed Bd.named Bd.method).1
 have hlocks : meth.locks = false := BodyLoose.notSynchronized Bd
 have X0 : Stand p l e (⟨0, 0, 0, 0⟩ : Room) s m #[(.ref a1)] below meth c s₁ [] 0 0 := Stand.of_body Bd
 have e0 : s₁.heap = h0 := by rw [← hh, Bd.state]; rfl
 have N0 := Fr.nil n0
 show Goes p e below (s₁.setTop (entryFrame m #[(.ref a1)] 1)) (Fin s (Q24 Z a1 cmS h0 n0) (⟨0, 0, 0, 0⟩ : Room).cells (⟨0, 0, 0, 0⟩ : Room).slots)
 refine Goes.of (fun t k => castTop (ef_24 m a1) k) ?_
 obtain ⟨T100, X100, e100, st100⟩ := getS2 X0 hx hZ hown (host := "") (Or.inl (wd hw 149 rfl)) Via.refl e0 (SC.ext O0.2) (g := (mkF m 0 #[.val (.ref a1)] [])) rfl (hb hby d24_0)
 refine Goes.of st100 ?_
 have hd3_101 : ¬ (cmS = (0 : Int32)) := cs0
 refine gO (fun t k => XS.ifNo X100.here hx rfl (hb hby d24_3) rfl ((if0 _ _).trans (feq hd3_101).1) k) ?_
 refine gO (fun t k => XS.aloadN X100.here hx rfl (hb hby d24_6) rfl rfl k) ?_
 obtain ⟨T102, X102, e102, st102⟩ := getF X100 hx hZ hown (host := "") (Or.inl (wd hw 114 rfl)) Via.refl e100 F (g := (mkF m 7 #[.val (.ref a1)] [(.ref a1)])) rfl rfl (hb hby d24_7)
 refine Goes.of st102 ?_
 refine gO (fun t k => XS.goto X102.here hx rfl (pc0 := 10) (pc' := 14) rfl (hb hby d24_10) (by decide) (by decide) k) ?_
 show Goes p e below (T102.setTop (mkF m 14 #[.val (.ref a1)] [(.int 0)])) _
 exact Goes.retN (t := .byte) X102 hx Bd.returns (by simp) hlocks (hb hby d24_14) (⟨rfl, N0, e102⟩) (by decide) (by decide)
theorem own_sh0 (z : Int32) : (z >>> ((0 : Int32) &&& 31)) = z := by
  have e : ((0 : Int32) &&& 31) = 0 := by decide
  rw [e]; first | simp | exact Int32.toBitVec_inj.mp (by simp [Int32.toBitVec_shiftRight])
theorem ef_23 (m : MethodId) (x0 : Addr) : entryFrame m #[(.ref x0)] 1 = mkF m 0 #[.val (.ref x0)] [] := by first | (simp [entryFrame, mkF, argsToLocals, Value.category]; done) | rfl
def Q23 (Z : State) (a1 : Addr) (cmS : Int32) (b : Addr) (kb : ClassId) (z : Int32) (us : List Int32) (h0 : Heap) (n0 : Nat) (v : Option Value) (h : Heap) (L : List Loc) : Prop := v = some (.int z) ∧ Fr n0 L ∧ h = h0
theorem rm23 (l : Launch) (Z : State) (a0 : Array Value) (hw : ∀ d ∈ tables_1, d.before a0 Z = true) (ws : List Jvm.Cond) (a1 : Addr) (cmS : Int32) (b : Addr) (kb : ClassId) (z : Int32) (us : List Int32) (h0 : Heap) (n0 : Nat) (Z0 : n0 ≤ h0.size) (O0 : Old Z n0 h0) (SC : Sta Z Z.heap "java/lang/String" "COMPACT_STRINGS" "Z" (.int cmS)) (cs0 : cmS ≠ 0) (E_a1 : Exa Z h0 a1 "java/lang/String") (F_c_a1 : Fl5 Z h0 a1 (.int 0)) (F_w_a1 : Fl6 Z h0 a1 (.ref b)) (V_b : Arv Z h0 b kb .byte z (own_vb (us)) (.int (0 : Int32))) :
 CT l Z mn21 jdk_42_method_54_code 1 (some .int) ws (⟨1, 0, 0, 13⟩ : Room) #[(.ref a1)] h0 (Q23 Z a1 cmS b kb z us h0 n0) := by
 refine MetFree.of_bodySF (plainFor_of_name pn_15) hisR ?_
 intro p e s m args below meth c s₁ Bd hml0 hP hK
 obtain ⟨rfl, hZ, hh⟩ := hP
 have hx := Bd.exec
 have hby := Bd.bytes
 have hml : c.maxLocals = 1 := hml0
 have hown : s.vm.findClass "java/lang/String" = some m.cls := findClass_of_methodNamed Bd.named
 have hnm := (name_of_methodNamed Bd.named Bd.method).1
 have hlocks : meth.locks = false := BodyLoose.notSynchronized Bd
 have X0 : Stand p l e (⟨1, 0, 0, 13⟩ : Room) s m #[(.ref a1)] below meth c s₁ [] 0 0 := Stand.of_body Bd
 have e0 : s₁.heap = h0 := by rw [← hh, Bd.state]; rfl
 have N0 := Fr.nil n0
 show Goes p e below (s₁.setTop (entryFrame m #[(.ref a1)] 1)) (Fin s (Q23 Z a1 cmS b kb z us h0 n0) (⟨1, 0, 0, 13⟩ : Room).cells (⟨1, 0, 0, 13⟩ : Room).slots)
 refine Goes.of (fun t k => castTop (ef_23 m a1) k) ?_
 refine gO (fun t k => XS.aloadN X0.here hx rfl (hb hby d23_0) rfl rfl k) ?_
 obtain ⟨T100, X100, e100, st100⟩ := getF X0 hx hZ hown (host := "") (Or.inl (wd hw 134 rfl)) Via.refl e0 F_w_a1 (g := (mkF m 1 #[.val (.ref a1)] [(.ref a1)])) rfl rfl (hb hby d23_1)
 refine Goes.of st100 ?_
 have Vc101 := V_b
 obtain ⟨clc101, Arc101, qc101, Sc101, Nc101, Hc101, Gc101⟩ := Vc101
 refine Goes.of (X100.arraylength hx (by rw [e100]; exact Arc101.1) (State.isArrayOf_alike hZ.alike Arc101.2.1) (g := (mkF m 4 #[.val (.ref a1)] [(.ref b)])) rfl rfl (hb hby d23_4)) ?_
 rw [len_of Sc101 Nc101]
 refine gO (fun t k => XS.aloadN X100.here hx rfl (hb hby d23_5) rfl rfl k) ?_
 obtain ⟨cq102, kq102, q102a, q102b, q102c⟩ := isOf hZ e100 E_a1
 obtain ⟨_, _, ⟨T102, L102, k102, n102⟩, -, X102, ⟨Lc102, hQ102, l102, y102, z102⟩, st102⟩ := X100.virtualBack hx (y := mn20) (z := mn20) hown (mvT hZ (wd hw 144 rfl)) (mvT hZ (wd hw 145 rfl)) (notFace_of_selects (args := #[]) (mvT hZ (wd hw 147 rfl))) (mvT hZ (wd hw 147 rfl)) (mvT hZ (wd hw 146 rfl)) (by decide) (backOf (W := 1) (rm24 l Z a0 hw [] a1 cmS h0 n0 Z0 O0 SC cs0 F_c_a1) hZ (wd hw 148 rfl) (wd hw 61 rfl) (by decide) (by decide)) q102a q102c (g := (mkF m 6 #[.val (.ref a1)] [(.ref a1), (.int z)])) rfl (by rw [hml]; rfl) (Steps.refl _) (argsL := []) (rest := [(.int z)]) (lenOf pd_19 rfl) rfl (wr0 rfl rfl) (hb hby d23_6) (fun _ _ => ⟨rfl, e100, (by decide : 0 + 0 ≤ _), (by decide : 0 + 0 ≤ _)⟩)
 dsimp only [Pt.U, Pt.locs, Pt.cells, Pt.slots] at X102 l102 y102 z102 st102 hQ102
 subst l102 y102 z102
 obtain ⟨rfl, N102q, e102⟩ := hQ102
 have N102 := Fr.app N0 N102q
 refine Goes.of (fun t k => st102.trans k) ?_
 show Goes p e below (T102.setTop (mkF m 9 #[.val (.ref a1)] [(.int 0), (.int z)])) _
 refine gO (fun t k => XS.ishr X102.here hx rfl (hb hby d23_9) rfl k) ?_
 show Goes p e below (T102.setTop (mkF m 10 #[.val (.ref a1)] [(.int (z >>> ((0 : Int32) &&& 31)))])) _
 exact Goes.retI X102 hx Bd.returns hlocks (hb hby d23_10) (⟨by rw [own_sh0], N102, e102⟩) (by decide) (by decide)
theorem own_shl0 (z : Int32) : (z <<< ((0 : Int32) &&& 31)) = z := by
  have e : ((0 : Int32) &&& 31) = 0 := by decide
  rw [e]; first | simp | exact Int32.toBitVec_inj.mp (by simp [Int32.toBitVec_shiftLeft])
theorem own_256 (P : Int32 → Prop) (h : ∀ k : Fin 256, P (Int32.ofNat k.val)) (c : Int32) (h0 : 0 ≤ c.toInt) (h1 : c.toInt ≤ 255) : P c := by
  have e : c = Int32.ofNat c.toInt.toNat := Int32.toInt_inj.mp (by rw [Int32.toInt_ofNat_of_lt (by omega)]; omega)
  rw [e]; exact h ⟨c.toInt.toNat, by omega⟩
theorem own_nch (c : Int32) (h0 : 0 ≤ c.toInt) (h1 : c.toInt ≤ 255) : nar .char c = c := own_256 (fun c => nar .char c = c) (by decide +kernel) c h0 h1
theorem own_cl {m : Int32} {n : Nat} (h : m.toInt = n) : m.toNatClampNeg = n := by
  simp only [Int32.toNatClampNeg]; omega
theorem own_nn {m : Int32} {n : Nat} (h : m.toInt = n) : ¬ m < 0 := fun q => by
  have := Int32.lt_iff_toInt_lt.mp q; have e : (0 : Int32).toInt = 0 := by decide
  omega
theorem own_lvb (us : List Int32) : (own_vb us).length = us.length := List.length_map ..
theorem own_lvc (us : List Int32) : (own_vc us).length = us.length := List.length_map ..
theorem own_pad (l : List Value) (n : Nat) (d : Value) (i : Nat) : (l ++ List.replicate n d).getD i d = l.getD i d := by
  simp only [List.getD_eq_getElem?_getD]
  by_cases h : i < l.length
  · rw [List.getElem?_append_left h]
  · rw [List.getElem?_append_right (by omega), List.getElem?_replicate, List.getElem?_eq_none (by omega)]
    split <;> rfl
theorem own_push {Z : State} {h h' : Heap} {a : Addr} {k : ClassId} {ty : FieldType} {z j : Int32} {vs : List Value} {dv v : Value} {c : Cell} (A : Arr Z h a c ty) (q1 : c.cls = k) (S : c.slots.size = z.toNatClampNeg) (q3 : ¬ z < 0) (H : Has c vs dv) (G : ∀ i, i < c.slots.size → fits ty (vs.getD i dv) = true) (hv : fits ty v = true) (W : Wr h h' a j.toNatClampNeg v) (hj : j.toNatClampNeg = vs.length) : Arv Z h' a k ty z (vs ++ [v]) dv := by
  have e := own_pad vs 1 dv
  have q := Arv.set (vs := vs ++ List.replicate 1 dv) A q1 S q3 (fun i hi => by rw [e]; exact H i hi) (fun i hi => by rw [e]; exact G i hi) hv W vs.length hj (by simp)
  have e2 : (vs ++ List.replicate 1 dv).set vs.length v = vs ++ [v] := by simp
  rw [e2] at q; exact q
theorem own_rg (l : List Value) (d : Value) (k : Nat) : k ≤ l.length → (List.range k).map (fun i => l.getD (0 + i) d) = l.take k := fun hk => by
  apply List.ext_getElem
  · simp; omega
  · intro i h1 h2
    simp at h1
    simp [List.getD_eq_getElem?_getD]
    rw [List.getElem?_eq_getElem (by omega)]; rfl
theorem own_cp (l r : List Value) (n : Nat) (d : Value) (hn : r.length = n) : (l ++ List.replicate n d).take l.length ++ r ++ (l ++ List.replicate n d).drop (l.length + n) = l ++ r := by
  rw [List.take_left, List.drop_eq_nil_of_le (by simp), List.append_nil]
theorem own_vbb (us vs : List Int32) : own_vb us ++ own_vb vs = own_vb (us ++ vs) := (List.map_append ..).symm
theorem own_vcc (us vs : List Int32) : own_vc us ++ own_vc vs = own_vc (us ++ vs) := (List.map_append ..).symm
theorem own_gb (us : List Int32) (i : Nat) : (own_vb us).getD i (.int (0 : Int32)) = .int ((us.getD i 0).toInt8.toInt32) := by
  simp only [own_vb, List.getD_eq_getElem?_getD, List.getElem?_map]
  cases us[i]? <;> rfl
theorem own_gc (us : List Int32) (i : Nat) : (own_vc us).getD i (.int (0 : Int32)) = .int (us.getD i 0) := by
  simp only [own_vc, List.getD_eq_getElem?_getD, List.getElem?_map]
  cases us[i]? <;> rfl
def own_lat (us : List Int32) : Prop := ∀ c ∈ us, 0 ≤ c.toInt ∧ c.toInt ≤ 255
theorem own_latD {us : List Int32} (h : own_lat us) (i : Nat) : 0 ≤ (us.getD i 0).toInt ∧ (us.getD i 0).toInt ≤ 255 := by
  rw [List.getD_eq_getElem?_getD]
  cases e : us[i]? with
  | none => exact ⟨by decide, by decide⟩
  | some c => exact h c (List.mem_of_getElem? e)
theorem own_ch (c : Int32) (h0 : 0 ≤ c.toInt) (h1 : c.toInt ≤ 255) : nar .char ((c.toInt8.toInt32 &&& (255 : Int32)).toUInt32.toUInt16.toUInt32.toInt32) = c := own_256 (fun c => nar .char ((c.toInt8.toInt32 &&& (255 : Int32)).toUInt32.toUInt16.toUInt32.toInt32) = c) (by decide +kernel) c h0 h1
theorem ef_9 (m : MethodId) (x0 : Addr) (x1 : Int32) : entryFrame m #[(.ref x0), (.int x1)] 2 = mkF m 0 #[.val (.ref x0), .val (.int x1)] [] := by first | (simp [entryFrame, mkF, argsToLocals, Value.category]; done) | rfl
def Q9 (Z : State) (a1 : Addr) (cmS : Int32) (h0 : Heap) (n0 : Nat) (v : Option Value) (h : Heap) (L : List Loc) : Prop := ∃ (b : Addr) (k : ClassId), v = none ∧ Fr n0 L ∧ Keep h0 h [a1] ∧ h0.size ≤ b ∧ Exa Z h a1 "java/lang/StringBuilder" ∧ Fl7 Z h a1 (.ref b) ∧ Fl8 Z h a1 (.int 0) ∧ Fl9 Z h a1 (.int 0) ∧ Arv Z h b k .byte (16 : Int32) (own_vb ([])) (.int (0 : Int32))
theorem rm9 (l : Launch) (Z : State) (a0 : Array Value) (hw : ∀ d ∈ tables_1, d.before a0 Z = true) (ws : List Jvm.Cond) (a1 : Addr) (cmS : Int32) (h0 : Heap) (n0 : Nat) (Z0 : n0 ≤ h0.size) (O0 : Old Z n0 h0) (SC : Sta Z Z.heap "java/lang/String" "COMPACT_STRINGS" "Z" (.int cmS)) (cs0 : cmS ≠ 0) (E_a1 : Exa Z h0 a1 "java/lang/StringBuilder") (F_w_a1 : Fl7 Z h0 a1 .null) (F_c_a1 : Fl8 Z h0 a1 (.int 0)) (F_n_a1 : Fl9 Z h0 a1 (.int 0)) (G_a1 : n0 ≤ a1) :
 CT l Z mn22 jdk_68_method_2_code 2 none ws (⟨1, 1, 16, 12⟩ : Room) #[(.ref a1), (.int 16)] h0 (Q9 Z a1 cmS h0 n0) := by
 refine MetFree.of_bodySF (plainFor_of_name pn_20) hisR ?_
 intro p e s m args below meth c s₁ Bd hml0 hP hK
 obtain ⟨rfl, hZ, hh⟩ := hP
 have hx := Bd.exec
 have hby := Bd.bytes
 have hml : c.maxLocals = 2 := hml0
 have hown : s.vm.findClass "java/lang/AbstractStringBuilder" = some m.cls := findClass_of_methodNamed Bd.named
 have hnm := (name_of_methodNamed Bd.named Bd.method).1
 have hlocks : meth.locks = false := BodyLoose.notSynchronized Bd
 have X0 : Stand p l e (⟨1, 1, 16, 12⟩ : Room) s m #[(.ref a1), (.int 16)] below meth c s₁ [] 0 0 := Stand.of_body Bd
 have e0 : s₁.heap = h0 := by rw [← hh, Bd.state]; rfl
 have N0 := Fr.nil n0
 show Goes p e below (s₁.setTop (entryFrame m #[(.ref a1), (.int 16)] 2)) (Fin s (Q9 Z a1 cmS h0 n0) (⟨1, 1, 16, 12⟩ : Room).cells (⟨1, 1, 16, 12⟩ : Room).slots)
 refine Goes.of (fun t k => castTop (ef_9 m a1 (16 : Int32)) k) ?_
 have K0 : Keep h0 h0 [a1] := Keep.refl _ _
 refine gO (fun t k => XS.aloadN X0.here hx rfl (hb hby d9_0) rfl rfl k) ?_
 obtain ⟨T100, X100, e100, st100⟩ := initO X0 hx hZ hown (wd hw 59 rfl) (wd hw 8 rfl) (wd hw 9 rfl) e0 (g := (mkF m 1 #[.val (.ref a1), .val (.int 16)] [(.ref a1)])) rfl (by rw [hml]; rfl) rfl (hb hby d9_1) (by decide) (W := 0) (wr0 rfl rfl) (by decide)
 refine Goes.of st100 ?_
 obtain ⟨T101, X101, e101, st101⟩ := getS2 X100 hx hZ hown (host := "") (Or.inl (wd hw 60 rfl)) Via.refl e100 (SC.ext O0.2) (g := (mkF m 4 #[.val (.ref a1), .val (.int 16)] [])) rfl (hb hby d9_4)
 refine Goes.of st101 ?_
 have hd7_102 : ¬ (cmS = (0 : Int32)) := cs0
 refine gO (fun t k => XS.ifNo X101.here hx rfl (hb hby d9_7) rfl ((if0 _ _).trans (feq hd7_102).1) k) ?_
 refine gO (fun t k => XS.aloadN X101.here hx rfl (hb hby d9_10) rfl rfl k) ?_
 refine gO (fun t k => XS.iloadN X101.here hx rfl (hb hby d9_11) rfl k) ?_
 show Goes p e below (T101.setTop (mkF m 12 #[.val (.ref a1), .val (.int 16)] [(.int 16), (.ref a1)])) _
 obtain ⟨T103, h103, k103, X103, e103, E103, A103, st103⟩ := newP X101 hx hZ (wd hw 62 rfl) e101 (g := (mkF m 12 #[.val (.ref a1), .val (.int 16)] [(.int 16), (.ref a1)])) rfl (hb hby d9_12) rfl (by decide) (cap := 16) (by decide) (by decide) (by decide) (by decide)
 obtain ⟨b103, g103⟩ : ∃ z, z = h0.size := ⟨_, rfl⟩
 rw [← g103] at A103 st103
 have z106 : h0.size ≤ b103 := Nat.le_trans K0.1 (Nat.le_of_eq g103.symm)
 have q107 : a1 ≠ b103 := Nat.ne_of_lt (Nat.lt_of_lt_of_le F_w_a1.lt (Nat.le_of_eq g103.symm))
 have f109 := F_w_a1.ext E103
 have f110 := F_c_a1.ext E103
 have f111 := F_n_a1.ext E103
 have f112 := E_a1.ext E103
 have K113 : Keep h0 h103 [a1] := K0.ext E103
 have V103 : Arv Z h103 b103 k103 .byte (16 : Int32) (own_vb []) (.int (0 : Int32)) := Arv.new A103 (by decide)
 refine Goes.of st103 ?_
 obtain ⟨T114, h114, X114, e114, W114, st114⟩ := putF X103 hx hZ hown (host := "") (Or.inl (wd hw 63 rfl)) Via.refl e103 f109 f112 (Or.inl (wd hw 64 rfl)) (wd hw 48 rfl) (ty := (.array .byte)) (by decide) rfl rfl (g := (mkF m 14 #[.val (.ref a1), .val (.int 16)] [(.ref b103), (.ref a1)])) rfl rfl (hb hby d9_14)
 have f115 := f109.same W114
 have K116 : Keep h0 h114 [a1] := K113.wr W114 (Or.inl (List.mem_of_getElem? (i := 0) rfl))
 have f120 := f110.other W114 (Or.inr (slot_ne (Or.inl (wd hw 66 rfl)) (Or.inl (wd hw 64 rfl)) (by decide) (t := .byte) (t' := (.array .byte)) (by decide) (by decide)))
 have f121 := f111.other W114 (Or.inr (slot_ne (Or.inl (wd hw 108 rfl)) (Or.inl (wd hw 64 rfl)) (by decide) (t := .int) (t' := (.array .byte)) (by decide) (by decide)))
 have f122 := f112.wr W114
 have f123 := V103.other W114 (Ne.symm q107)
 have N114 := Fr.snoc X114 N0 G_a1
 refine Goes.of st114 ?_
 refine gO (fun t k => XS.aloadN X114.here hx rfl (hb hby d9_17) rfl rfl k) ?_
 refine gO (fun t k => XS.iconst X114.here hx rfl (hb hby d9_18) k) ?_
 obtain ⟨T124, h124, X124, e124, W124, st124⟩ := putFN X114 hx hZ hown (wd hw 65 rfl) Via.refl e114 f120 f122 (Or.inl (wd hw 66 rfl)) (wd hw 48 rfl) (ty := .byte) (v' := (.int 0)) (by decide) rfl (by decide) (g := (mkF m 19 #[.val (.ref a1), .val (.int 16)] [(.int 0), (.ref a1)])) rfl rfl (hb hby d9_19)
 have f125 := f120.same W124
 have K126 : Keep h0 h124 [a1] := K116.wr W124 (Or.inl (List.mem_of_getElem? (i := 0) rfl))
 have f129 := f115.other W124 (Or.inr (slot_ne (Or.inl (wd hw 64 rfl)) (Or.inl (wd hw 66 rfl)) (by decide) (t := (.array .byte)) (t' := .byte) (by decide) (by decide)))
 have f131 := f121.other W124 (Or.inr (slot_ne (Or.inl (wd hw 108 rfl)) (Or.inl (wd hw 66 rfl)) (by decide) (t := .int) (t' := .byte) (by decide) (by decide)))
 have f132 := f122.wr W124
 have f133 := f123.other W124 (Ne.symm q107)
 have N124 := Fr.snoc X124 N114 G_a1
 refine Goes.of st124 ?_
 refine gO (fun t k => XS.goto X124.here hx rfl (pc0 := 22) (pc' := 38) rfl (hb hby d9_22) (by decide) (by decide) k) ?_
 show Goes p e below (T124.setTop (mkF m 38 #[.val (.ref a1), .val (.int 16)] [])) _
 have eh : T124.heap = h124 := e124
 exact Goes.retV X124 hx Bd.returns hlocks (hb hby d9_38) (⟨b103, _, rfl, N124, by rw [eh]; exact K126, z106, by rw [eh]; exact f132, by rw [eh]; exact f129, by rw [eh]; exact f125, by rw [eh]; exact f131, by rw [eh]; exact f133⟩) (by decide) (by decide)
theorem ef_8 (m : MethodId) (x0 : Addr) : entryFrame m #[(.ref x0)] 1 = mkF m 0 #[.val (.ref x0)] [] := by first | (simp [entryFrame, mkF, argsToLocals, Value.category]; done) | rfl
def Q8 (Z : State) (a1 : Addr) (cmS : Int32) (h0 : Heap) (n0 : Nat) (v : Option Value) (h : Heap) (L : List Loc) : Prop := ∃ (b : Addr) (k : ClassId), v = none ∧ Fr n0 L ∧ Keep h0 h [a1] ∧ h0.size ≤ b ∧ Exa Z h a1 "java/lang/StringBuilder" ∧ Fl7 Z h a1 (.ref b) ∧ Fl8 Z h a1 (.int 0) ∧ Fl9 Z h a1 (.int 0) ∧ Arv Z h b k .byte (16 : Int32) (own_vb ([])) (.int (0 : Int32))
theorem rm8 (l : Launch) (Z : State) (a0 : Array Value) (hw : ∀ d ∈ tables_1, d.before a0 Z = true) (ws : List Jvm.Cond) (a1 : Addr) (cmS : Int32) (h0 : Heap) (n0 : Nat) (Z0 : n0 ≤ h0.size) (O0 : Old Z n0 h0) (SC : Sta Z Z.heap "java/lang/String" "COMPACT_STRINGS" "Z" (.int cmS)) (cs0 : cmS ≠ 0) (E_a1 : Exa Z h0 a1 "java/lang/StringBuilder") (F_w_a1 : Fl7 Z h0 a1 .null) (F_c_a1 : Fl8 Z h0 a1 (.int 0)) (F_n_a1 : Fl9 Z h0 a1 (.int 0)) (G_a1 : n0 ≤ a1) :
 CT l Z mn23 jdk_67_method_1_code 1 none ws (⟨2, 1, 16, 25⟩ : Room) #[(.ref a1)] h0 (Q8 Z a1 cmS h0 n0) := by
 refine MetFree.of_bodySF (plainFor_of_name pn_21) hisR ?_
 intro p e s m args below meth c s₁ Bd hml0 hP hK
 obtain ⟨rfl, hZ, hh⟩ := hP
 have hx := Bd.exec
 have hby := Bd.bytes
 have hml : c.maxLocals = 1 := hml0
 have hown : s.vm.findClass "java/lang/StringBuilder" = some m.cls := findClass_of_methodNamed Bd.named
 have hnm := (name_of_methodNamed Bd.named Bd.method).1
 have hlocks : meth.locks = false := BodyLoose.notSynchronized Bd
 have X0 : Stand p l e (⟨2, 1, 16, 25⟩ : Room) s m #[(.ref a1)] below meth c s₁ [] 0 0 := Stand.of_body Bd
 have e0 : s₁.heap = h0 := by rw [← hh, Bd.state]; rfl
 have N0 := Fr.nil n0
 show Goes p e below (s₁.setTop (entryFrame m #[(.ref a1)] 1)) (Fin s (Q8 Z a1 cmS h0 n0) (⟨2, 1, 16, 25⟩ : Room).cells (⟨2, 1, 16, 25⟩ : Room).slots)
 refine Goes.of (fun t k => castTop (ef_8 m a1) k) ?_
 have K0 : Keep h0 h0 [a1] := Keep.refl _ _
 refine gO (fun t k => XS.aloadN X0.here hx rfl (hb hby d8_0) rfl rfl k) ?_
 refine gO (fun t k => XS.bipush X0.here hx rfl (hb hby d8_1) k) ?_
 obtain ⟨_, _, ⟨T100, L100, k100, n100⟩, -, X100, ⟨Lc100, hQ100, l100, y100, z100⟩, st100⟩ := X0.specialBack hx (y := mn22) rfl hown (mvT hZ (wd hw 53 rfl)) (mvT hZ (wd hw 54 rfl)) (mvT hZ (wd hw 58 rfl)) (by decide) (backOf (W := 0) (rm9 l Z a0 hw [] a1 cmS h0 n0 Z0 O0 SC cs0 E_a1 F_w_a1 F_c_a1 F_n_a1 G_a1) hZ (wd hw 58 rfl) (wd hw 57 rfl) (by decide) (by decide)) (g := (mkF m 3 #[.val (.ref a1)] [(.int 16), (.ref a1)])) rfl (by rw [hml]; rfl) (Steps.refl _) (a := a1) (argsL := [(.int 16)]) (rest := []) (lenOf pd_22 rfl) rfl (wr0 rfl rfl) (hb hby d8_3) (fun _ _ => ⟨rfl, e0, (by decide : 0 + 1 ≤ _), (by decide : 0 + 16 ≤ _)⟩)
 dsimp only [Pt.U, Pt.locs, Pt.cells, Pt.slots] at X100 l100 y100 z100 st100 hQ100
 subst l100 y100 z100
 obtain ⟨b100, k100b, rfl, N100q, K100, z100b, E100, F100_w, F100_c, F100_n, V100⟩ := hQ100
 have N100 := Fr.app N0 N100q
 have z103 : h0.size ≤ b100 := Nat.le_trans K0.1 z100b
 have K104 : Keep h0 T100.heap [a1] := K0.trans K100 (allS (Or.inl (List.mem_of_getElem? (i := 0) rfl)) all0)
 refine Goes.of (fun t k => st100.trans k) ?_
 show Goes p e below (T100.setTop (mkF m 6 #[.val (.ref a1)] [])) _
 have eh : T100.heap = T100.heap := rfl
 exact Goes.retV X100 hx Bd.returns hlocks (hb hby d8_6) (⟨b100, _, rfl, N100, by rw [eh]; exact K104, z103, by rw [eh]; exact E100, by rw [eh]; exact F100_w, by rw [eh]; exact F100_c, by rw [eh]; exact F100_n, by rw [eh]; exact V100⟩) (by decide) (by decide)
theorem own_NF {s : State} {args : Array Value} {C : String} {y y0 : MethodName} (hc : y0.cls = y.cls) (hsel : (Cond.selects C y0 y0).before args s = true) : NotFace s y := fun r0 h0 => by
  obtain ⟨c2, r2, m2, q1, q2, q3, q4, kP, hkP, hkPi⟩ := Cond.selects_spec hsel
  have e1 : s.vm.findClass y.cls = some m2.cls := hc ▸ findClass_of_methodNamed q3
  have e2 := findClass_of_methodNamed h0
  have e3 : r0.cls = m2.cls := Option.some.inj (e2.symm.trans e1)
  exact ⟨kP, e3 ▸ hkP, hkPi⟩
theorem own_ens {p : Int32} (h0 : 0 ≤ p.toInt) (h1 : p.toInt ≤ 16) : ¬ ((0 : Int32) < p - ((16 : Int32) >>> ((0 : Int32) &&& 31))) := fun q => by
  rw [own_sh0] at q
  have := Int32.lt_iff_toInt_lt.mp q
  have e0 : (0 : Int32).toInt = 0 := by decide
  have e1 : (16 : Int32).toInt = 16 := by decide
  rw [Jvm.Kit.i32_sub (by omega) (by omega)] at this
  omega
theorem own_us {z : Int32} {vs : List Int32} (hz : z.toInt = vs.length) : own_vb vs = (List.range z.toNatClampNeg).map fun i => (own_vb vs).getD ((0 : Int32).toNatClampNeg + i) (.int (0 : Int32)) := by
  have e : (0 : Int32).toNatClampNeg = 0 := by decide
  rw [own_cl hz, e, own_rg _ _ _ (by rw [own_lvb]; omega)]
  exact (List.take_of_length_le (by rw [own_lvb]; omega)).symm
theorem own_fin {p z : Int32} {us vs : List Int32} (hm : p.toInt = us.length) (hz : z.toInt = vs.length) : (own_vb us ++ List.replicate (own_vb vs).length (Value.int (0 : Int32))).take p.toNatClampNeg ++ own_vb vs ++ (own_vb us ++ List.replicate (own_vb vs).length (Value.int (0 : Int32))).drop (p.toNatClampNeg + z.toNatClampNeg) = own_vb (us ++ vs) := by
  have q := own_cp (own_vb us) (own_vb vs) vs.length (.int (0 : Int32)) (own_lvb vs)
  rw [own_lvb us] at q
  rw [own_cl hm, own_cl hz, own_lvb vs, q, own_vbb]
theorem ef_17 (m : MethodId) (x0 : Addr) : entryFrame m #[(.ref x0)] 1 = mkF m 0 #[.val (.ref x0)] [] := by first | (simp [entryFrame, mkF, argsToLocals, Value.category]; done) | rfl
def Q17 (Z : State) (a1 : Addr) (cmS : Int32) (b : Addr) (kb : ClassId) (mm : Int32) (us : List Int32) (h0 : Heap) (n0 : Nat) (v : Option Value) (h : Heap) (L : List Loc) : Prop := v = some (.int 1) ∧ Fr n0 L ∧ h = h0
theorem rm17 (l : Launch) (Z : State) (a0 : Array Value) (hw : ∀ d ∈ tables_1, d.before a0 Z = true) (ws : List Jvm.Cond) (a1 : Addr) (cmS : Int32) (b : Addr) (kb : ClassId) (mm : Int32) (us : List Int32) (h0 : Heap) (n0 : Nat) (Z0 : n0 ≤ h0.size) (O0 : Old Z n0 h0) (SC : Sta Z Z.heap "java/lang/String" "COMPACT_STRINGS" "Z" (.int cmS)) (cs0 : cmS ≠ 0) (E_a1 : Exa Z h0 a1 "java/lang/StringBuilder") (F_w_a1 : Fl7 Z h0 a1 (.ref b)) (F_c_a1 : Fl8 Z h0 a1 (.int 0)) (F_n_a1 : Fl9 Z h0 a1 (.int mm)) (V_b : Arv Z h0 b kb .byte (16 : Int32) (own_vb (us)) (.int (0 : Int32))) :
 CT l Z mn25 jdk_68_method_68_code 1 (some .boolean) ws (⟨0, 0, 0, 0⟩ : Room) #[(.ref a1)] h0 (Q17 Z a1 cmS b kb mm us h0 n0) := by
 refine MetFree.of_bodySF (plainFor_of_name pn_20) hisR ?_
 intro p e s m args below meth c s₁ Bd hml0 hP hK
 obtain ⟨rfl, hZ, hh⟩ := hP
 have hx := Bd.exec
 have hby := Bd.bytes
 have hml : c.maxLocals = 1 := hml0
 have hown : s.vm.findClass "java/lang/AbstractStringBuilder" = some m.cls := findClass_of_methodNamed Bd.named
 have hnm := (name_of_methodNamed Bd.named Bd.method).1
 have hlocks : meth.locks = false := BodyLoose.notSynchronized Bd
 have X0 : Stand p l e (⟨0, 0, 0, 0⟩ : Room) s m #[(.ref a1)] below meth c s₁ [] 0 0 := Stand.of_body Bd
 have e0 : s₁.heap = h0 := by rw [← hh, Bd.state]; rfl
 have N0 := Fr.nil n0
 show Goes p e below (s₁.setTop (entryFrame m #[(.ref a1)] 1)) (Fin s (Q17 Z a1 cmS b kb mm us h0 n0) (⟨0, 0, 0, 0⟩ : Room).cells (⟨0, 0, 0, 0⟩ : Room).slots)
 refine Goes.of (fun t k => castTop (ef_17 m a1) k) ?_
 obtain ⟨T100, X100, e100, st100⟩ := getS2 X0 hx hZ hown (host := "") (Or.inl (wd hw 60 rfl)) Via.refl e0 (SC.ext O0.2) (g := (mkF m 0 #[.val (.ref a1)] [])) rfl (hb hby d17_0)
 refine Goes.of st100 ?_
 have hd3_101 : ¬ (cmS = (0 : Int32)) := cs0
 refine gO (fun t k => XS.ifNo X100.here hx rfl (hb hby d17_3) rfl ((if0 _ _).trans (feq hd3_101).1) k) ?_
 refine gO (fun t k => XS.aloadN X100.here hx rfl (hb hby d17_6) rfl rfl k) ?_
 obtain ⟨T102, X102, e102, st102⟩ := getF X100 hx hZ hown (host := "") (Or.inl (wd hw 65 rfl)) Via.refl e100 F_c_a1 (g := (mkF m 7 #[.val (.ref a1)] [(.ref a1)])) rfl rfl (hb hby d17_7)
 refine Goes.of st102 ?_
 refine gO (fun t k => XS.ifNo X102.here hx rfl (hb hby d17_10) rfl ((if0 _ _).trans (teq (by decide)).2) k) ?_
 refine gO (fun t k => XS.iconst X102.here hx rfl (hb hby d17_13) k) ?_
 show Goes p e below (T102.setTop (mkF m 14 #[.val (.ref a1)] [(.int 1)])) _
 refine gO (fun t k => XS.goto X102.here hx rfl (pc0 := 14) (pc' := 18) rfl (hb hby d17_14) (by decide) (by decide) k) ?_
 show Goes p e below (T102.setTop (mkF m 18 #[.val (.ref a1)] [(.int 1)])) _
 exact Goes.retN (t := .boolean) X102 hx Bd.returns (by simp) hlocks (hb hby d17_18) (⟨rfl, N0, e102⟩) (by decide) (by decide)
theorem ef_16 (m : MethodId) (x0 : Addr) : entryFrame m #[(.ref x0)] 1 = mkF m 0 #[.val (.ref x0)] [] := by first | (simp [entryFrame, mkF, argsToLocals, Value.category]; done) | rfl
def Q16 (Z : State) (a1 b : Addr) (kb : ClassId) (mm : Int32) (us : List Int32) (h0 : Heap) (n0 : Nat) (v : Option Value) (h : Heap) (L : List Loc) : Prop := v = some (.int mm) ∧ Fr n0 L ∧ h = h0
theorem rm16 (l : Launch) (Z : State) (a0 : Array Value) (hw : ∀ d ∈ tables_1, d.before a0 Z = true) (ws : List Jvm.Cond) (a1 b : Addr) (kb : ClassId) (mm : Int32) (us : List Int32) (h0 : Heap) (n0 : Nat) (Z0 : n0 ≤ h0.size) (E_a1 : Exa Z h0 a1 "java/lang/StringBuilder") (F_w_a1 : Fl7 Z h0 a1 (.ref b)) (F_c_a1 : Fl8 Z h0 a1 (.int 0)) (F_n_a1 : Fl9 Z h0 a1 (.int mm)) (V_b : Arv Z h0 b kb .byte (16 : Int32) (own_vb (us)) (.int (0 : Int32))) :
 CT l Z mn26 jdk_68_method_6_code 1 (some .int) ws (⟨0, 0, 0, 0⟩ : Room) #[(.ref a1)] h0 (Q16 Z a1 b kb mm us h0 n0) := by
 refine MetFree.of_bodySF (plainFor_of_name pn_20) hisR ?_
 intro p e s m args below meth c s₁ Bd hml0 hP hK
 obtain ⟨rfl, hZ, hh⟩ := hP
 have hx := Bd.exec
 have hby := Bd.bytes
 have hml : c.maxLocals = 1 := hml0
 have hown : s.vm.findClass "java/lang/AbstractStringBuilder" = some m.cls := findClass_of_methodNamed Bd.named
 have hnm := (name_of_methodNamed Bd.named Bd.method).1
 have hlocks : meth.locks = false := BodyLoose.notSynchronized Bd
 have X0 : Stand p l e (⟨0, 0, 0, 0⟩ : Room) s m #[(.ref a1)] below meth c s₁ [] 0 0 := Stand.of_body Bd
 have e0 : s₁.heap = h0 := by rw [← hh, Bd.state]; rfl
 have N0 := Fr.nil n0
 show Goes p e below (s₁.setTop (entryFrame m #[(.ref a1)] 1)) (Fin s (Q16 Z a1 b kb mm us h0 n0) (⟨0, 0, 0, 0⟩ : Room).cells (⟨0, 0, 0, 0⟩ : Room).slots)
 refine Goes.of (fun t k => castTop (ef_16 m a1) k) ?_
 refine gO (fun t k => XS.aloadN X0.here hx rfl (hb hby d16_0) rfl rfl k) ?_
 obtain ⟨T100, X100, e100, st100⟩ := getF X0 hx hZ hown (host := "") (Or.inl (wd hw 107 rfl)) Via.refl e0 F_n_a1 (g := (mkF m 1 #[.val (.ref a1)] [(.ref a1)])) rfl rfl (hb hby d16_1)
 refine Goes.of st100 ?_
 show Goes p e below (T100.setTop (mkF m 4 #[.val (.ref a1)] [(.int mm)])) _
 exact Goes.retI X100 hx Bd.returns hlocks (hb hby d16_4) (⟨rfl, N0, e100⟩) (by decide) (by decide)
theorem ef_14 (m : MethodId) (x0 : Addr) : entryFrame m #[(.ref x0)] 1 = mkF m 0 #[.val (.ref x0)] [] := by first | (simp [entryFrame, mkF, argsToLocals, Value.category]; done) | rfl
def Q14 (Z : State) (a1 b : Addr) (kb : ClassId) (mm : Int32) (us : List Int32) (h0 : Heap) (n0 : Nat) (v : Option Value) (h : Heap) (L : List Loc) : Prop := v = some (.ref b) ∧ Fr n0 L ∧ h = h0
theorem rm14 (l : Launch) (Z : State) (a0 : Array Value) (hw : ∀ d ∈ tables_1, d.before a0 Z = true) (ws : List Jvm.Cond) (a1 b : Addr) (kb : ClassId) (mm : Int32) (us : List Int32) (h0 : Heap) (n0 : Nat) (Z0 : n0 ≤ h0.size) (E_a1 : Exa Z h0 a1 "java/lang/StringBuilder") (F_w_a1 : Fl7 Z h0 a1 (.ref b)) (F_c_a1 : Fl8 Z h0 a1 (.int 0)) (F_n_a1 : Fl9 Z h0 a1 (.int mm)) (V_b : Arv Z h0 b kb .byte (16 : Int32) (own_vb (us)) (.int (0 : Int32))) :
 CT l Z mn24 jdk_68_method_64_code 1 (some (.array .byte)) ws (⟨0, 0, 0, 0⟩ : Room) #[(.ref a1)] h0 (Q14 Z a1 b kb mm us h0 n0) := by
 refine MetFree.of_bodySF (plainFor_of_name pn_20) hisR ?_
 intro p e s m args below meth c s₁ Bd hml0 hP hK
 obtain ⟨rfl, hZ, hh⟩ := hP
 have hx := Bd.exec
 have hby := Bd.bytes
 have hml : c.maxLocals = 1 := hml0
 have hown : s.vm.findClass "java/lang/AbstractStringBuilder" = some m.cls := findClass_of_methodNamed Bd.named
 have hnm := (name_of_methodNamed Bd.named Bd.method).1
 have hlocks : meth.locks = false := BodyLoose.notSynchronized Bd
 have X0 : Stand p l e (⟨0, 0, 0, 0⟩ : Room) s m #[(.ref a1)] below meth c s₁ [] 0 0 := Stand.of_body Bd
 have e0 : s₁.heap = h0 := by rw [← hh, Bd.state]; rfl
 have N0 := Fr.nil n0
 show Goes p e below (s₁.setTop (entryFrame m #[(.ref a1)] 1)) (Fin s (Q14 Z a1 b kb mm us h0 n0) (⟨0, 0, 0, 0⟩ : Room).cells (⟨0, 0, 0, 0⟩ : Room).slots)
 refine Goes.of (fun t k => castTop (ef_14 m a1) k) ?_
 refine gO (fun t k => XS.aloadN X0.here hx rfl (hb hby d14_0) rfl rfl k) ?_
 obtain ⟨T100, X100, e100, st100⟩ := getF X0 hx hZ hown (host := "") (Or.inl (wd hw 63 rfl)) Via.refl e0 F_w_a1 (g := (mkF m 1 #[.val (.ref a1)] [(.ref a1)])) rfl rfl (hb hby d14_1)
 refine Goes.of st100 ?_
 show Goes p e below (T100.setTop (mkF m 4 #[.val (.ref a1)] [(.ref b)])) _
 exact Goes.retA X100 hx (by rfl) Bd.returns (by rfl) hlocks (hb hby d14_4) (⟨rfl, N0, e100⟩) (by decide) (by decide)
theorem ef_15 (m : MethodId) (x0 : Addr) : entryFrame m #[(.ref x0)] 1 = mkF m 0 #[.val (.ref x0)] [] := by first | (simp [entryFrame, mkF, argsToLocals, Value.category]; done) | rfl
def Q15 (Z : State) (a1 b : Addr) (kb : ClassId) (mm : Int32) (us : List Int32) (h0 : Heap) (n0 : Nat) (v : Option Value) (h : Heap) (L : List Loc) : Prop := v = some (.int mm) ∧ Fr n0 L ∧ h = h0
theorem rm15 (l : Launch) (Z : State) (a0 : Array Value) (hw : ∀ d ∈ tables_1, d.before a0 Z = true) (ws : List Jvm.Cond) (a1 b : Addr) (kb : ClassId) (mm : Int32) (us : List Int32) (h0 : Heap) (n0 : Nat) (Z0 : n0 ≤ h0.size) (E_a1 : Exa Z h0 a1 "java/lang/StringBuilder") (F_w_a1 : Fl7 Z h0 a1 (.ref b)) (F_c_a1 : Fl8 Z h0 a1 (.int 0)) (F_n_a1 : Fl9 Z h0 a1 (.int mm)) (V_b : Arv Z h0 b kb .byte (16 : Int32) (own_vb (us)) (.int (0 : Int32))) :
 CT l Z mn27 jdk_67_method_93_code 1 (some .int) ws (⟨1, 0, 0, 12⟩ : Room) #[(.ref a1)] h0 (Q15 Z a1 b kb mm us h0 n0) := by
 refine MetFree.of_bodySF (plainFor_of_name pn_21) hisR ?_
 intro p e s m args below meth c s₁ Bd hml0 hP hK
 obtain ⟨rfl, hZ, hh⟩ := hP
 have hx := Bd.exec
 have hby := Bd.bytes
 have hml : c.maxLocals = 1 := hml0
 have hown : s.vm.findClass "java/lang/StringBuilder" = some m.cls := findClass_of_methodNamed Bd.named
 have hnm := (name_of_methodNamed Bd.named Bd.method).1
 have hlocks : meth.locks = false := BodyLoose.notSynchronized Bd
 have X0 : Stand p l e (⟨1, 0, 0, 12⟩ : Room) s m #[(.ref a1)] below meth c s₁ [] 0 0 := Stand.of_body Bd
 have e0 : s₁.heap = h0 := by rw [← hh, Bd.state]; rfl
 have N0 := Fr.nil n0
 show Goes p e below (s₁.setTop (entryFrame m #[(.ref a1)] 1)) (Fin s (Q15 Z a1 b kb mm us h0 n0) (⟨1, 0, 0, 12⟩ : Room).cells (⟨1, 0, 0, 12⟩ : Room).slots)
 refine Goes.of (fun t k => castTop (ef_15 m a1) k) ?_
 refine gO (fun t k => XS.aloadN X0.here hx rfl (hb hby d15_0) rfl rfl k) ?_
 obtain ⟨_, _, ⟨T100, L100, k100, n100⟩, -, X100, ⟨Lc100, hQ100, l100, y100, z100⟩, st100⟩ := Jvm.RoadKit.superBack X0 hx hZ (y := mn26) hown (wd hw 104 rfl) (sameM (y0 := mn24) rfl (wd hw 96 rfl) (wd hw 100 rfl) (by decide)) (wd hw 100 rfl) (wd hw 105 rfl) (by decide) (backOf (W := 0) (rm16 l Z a0 hw [] a1 b kb mm us h0 n0 Z0 E_a1 F_w_a1 F_c_a1 F_n_a1 V_b) hZ (wd hw 106 rfl) (wd hw 57 rfl) (by decide) (by decide)) e0 (a := a1) (Ins.self E_a1) (g := (mkF m 1 #[.val (.ref a1)] [(.ref a1)])) rfl (by rw [hml]; rfl) (wd hw 106 rfl) (argsL := []) (rest := []) (lenOf pd_23 rfl) rfl (wr0 rfl rfl) (hb hby d15_1) (fun _ _ => ⟨rfl, e0, (by decide : 0 + 0 ≤ _), (by decide : 0 + 0 ≤ _)⟩)
 dsimp only [Pt.U, Pt.locs, Pt.cells, Pt.slots] at X100 l100 y100 z100 st100 hQ100
 subst l100 y100 z100
 obtain ⟨rfl, N100q, e100⟩ := hQ100
 have N100 := Fr.app N0 N100q
 refine Goes.of (fun t k => st100.trans k) ?_
 show Goes p e below (T100.setTop (mkF m 4 #[.val (.ref a1)] [(.int mm)])) _
 exact Goes.retI X100 hx Bd.returns hlocks (hb hby d15_4) (⟨rfl, N100, e100⟩) (by decide) (by decide)
theorem ef_41 (m : MethodId) (x0 : Addr) (x1 : Int32) : entryFrame m #[(.ref x0), (.int x1)] 3 = mkF m 0 #[.val (.ref x0), .val (.int x1), .unset] [] := by first | (simp [entryFrame, mkF, argsToLocals, Value.category]; done) | rfl
def Q41 (Z : State) (a1 : Addr) (p2 : Int32) (b : Addr) (kb : ClassId) (mm : Int32) (us : List Int32) (h0 : Heap) (n0 : Nat) (v : Option Value) (h : Heap) (L : List Loc) : Prop := v = none ∧ Fr n0 L ∧ h = h0
theorem rm41 (l : Launch) (Z : State) (a0 : Array Value) (hw : ∀ d ∈ tables_1, d.before a0 Z = true) (ws : List Jvm.Cond) (a1 : Addr) (p2 : Int32) (b : Addr) (kb : ClassId) (mm : Int32) (us : List Int32) (h0 : Heap) (n0 : Nat) (Z0 : n0 ≤ h0.size) (E_a1 : Exa Z h0 a1 "java/lang/StringBuilder") (F_w_a1 : Fl7 Z h0 a1 (.ref b)) (F_c_a1 : Fl8 Z h0 a1 (.int 0)) (F_n_a1 : Fl9 Z h0 a1 (.int mm)) (V_b : Arv Z h0 b kb .byte (16 : Int32) (own_vb (us)) (.int (0 : Int32))) (c0 : 0 ≤ p2.toInt) (c1 : p2.toInt ≤ 16) :
 CT l Z mn28 jdk_68_method_9_code 3 none ws (⟨0, 0, 0, 0⟩ : Room) #[(.ref a1), (.int p2)] h0 (Q41 Z a1 p2 b kb mm us h0 n0) := by
 refine MetFree.of_bodySF (plainFor_of_name pn_20) hisR ?_
 intro p e s m args below meth c s₁ Bd hml0 hP hK
 obtain ⟨rfl, hZ, hh⟩ := hP
 have hx := Bd.exec
 have hby := Bd.bytes
 have hml : c.maxLocals = 3 := hml0
 have hown : s.vm.findClass "java/lang/AbstractStringBuilder" = some m.cls := findClass_of_methodNamed Bd.named
 have hnm := (name_of_methodNamed Bd.named Bd.method).1
 have hlocks : meth.locks = false := BodyLoose.notSynchronized Bd
 have X0 : Stand p l e (⟨0, 0, 0, 0⟩ : Room) s m #[(.ref a1), (.int p2)] below meth c s₁ [] 0 0 := Stand.of_body Bd
 have e0 : s₁.heap = h0 := by rw [← hh, Bd.state]; rfl
 have N0 := Fr.nil n0
 show Goes p e below (s₁.setTop (entryFrame m #[(.ref a1), (.int p2)] 3)) (Fin s (Q41 Z a1 p2 b kb mm us h0 n0) (⟨0, 0, 0, 0⟩ : Room).cells (⟨0, 0, 0, 0⟩ : Room).slots)
 refine Goes.of (fun t k => castTop (ef_41 m a1 p2) k) ?_
 refine gO (fun t k => XS.aloadN X0.here hx rfl (hb hby d41_0) rfl rfl k) ?_
 obtain ⟨T100, X100, e100, st100⟩ := getF X0 hx hZ hown (host := "") (Or.inl (wd hw 63 rfl)) Via.refl e0 F_w_a1 (g := (mkF m 1 #[.val (.ref a1), .val (.int p2), .unset] [(.ref a1)])) rfl rfl (hb hby d41_1)
 refine Goes.of st100 ?_
 have Vc101 := V_b
 obtain ⟨clc101, Arc101, qc101, Sc101, Nc101, Hc101, Gc101⟩ := Vc101
 refine Goes.of (X100.arraylength hx (by rw [e100]; exact Arc101.1) (State.isArrayOf_alike hZ.alike Arc101.2.1) (g := (mkF m 4 #[.val (.ref a1), .val (.int p2), .unset] [(.ref b)])) rfl rfl (hb hby d41_4)) ?_
 rw [len_of Sc101 Nc101]
 refine gO (fun t k => XS.aloadN X100.here hx rfl (hb hby d41_5) rfl rfl k) ?_
 obtain ⟨T102, X102, e102, st102⟩ := getF X100 hx hZ hown (host := "") (Or.inl (wd hw 65 rfl)) Via.refl e100 F_c_a1 (g := (mkF m 6 #[.val (.ref a1), .val (.int p2), .unset] [(.ref a1), (.int 16)])) rfl rfl (hb hby d41_6)
 refine Goes.of st102 ?_
 show Goes p e below (T102.setTop (mkF m 9 #[.val (.ref a1), .val (.int p2), .unset] [(.int 0), (.int 16)])) _
 refine gO (fun t k => XS.ishr X102.here hx rfl (hb hby d41_9) rfl k) ?_
 refine gO (fun t k => XS.istoreN X102.here hx rfl (hb hby d41_10) rfl (l' := #[.val (.ref a1), .val (.int p2), .val (.int ((16 : Int32) >>> ((0 : Int32) &&& 31)))]) rfl k) ?_
 refine gO (fun t k => XS.iloadN X102.here hx rfl (hb hby d41_11) rfl k) ?_
 refine gO (fun t k => XS.iloadN X102.here hx rfl (hb hby d41_12) rfl k) ?_
 refine gO (fun t k => XS.isub X102.here hx rfl (hb hby d41_13) rfl k) ?_
 show Goes p e below (T102.setTop (mkF m 14 #[.val (.ref a1), .val (.int p2), .val (.int ((16 : Int32) >>> ((0 : Int32) &&& 31)))] [(.int (p2 - ((16 : Int32) >>> ((0 : Int32) &&& 31))))])) _
 have hd14_103 : ¬ ((0 : Int32) < (p2 - ((16 : Int32) >>> ((0 : Int32) &&& 31)))) := own_ens c0 c1
 refine gO (fun t k => XS.ifYes X102.here hx rfl (pc0 := 14) (pc' := 38) rfl (hb hby d41_14) rfl ((if0 _ _).trans (flt hd14_103).2.2.2) (by decide) (by decide) k) ?_
 show Goes p e below (T102.setTop (mkF m 38 #[.val (.ref a1), .val (.int p2), .val (.int ((16 : Int32) >>> ((0 : Int32) &&& 31)))] [])) _
 exact Goes.retV X102 hx Bd.returns hlocks (hb hby d41_38) (⟨rfl, N0, e102⟩) (by decide) (by decide)
theorem ef_43 (m : MethodId) (x0 x1 : Addr) : entryFrame m #[(.ref x0), (.ref x1)] 2 = mkF m 0 #[.val (.ref x0), .val (.ref x1)] [] := by first | (simp [entryFrame, mkF, argsToLocals, Value.category]; done) | rfl
def Q43 (Z : State) (a1 a2 : Addr) (cmS : Int32) (b : Addr) (kb : ClassId) (mm : Int32) (us : List Int32) (h0 : Heap) (n0 : Nat) (v : Option Value) (h : Heap) (L : List Loc) : Prop := v = none ∧ Fr n0 L ∧ h = h0
theorem rm43 (l : Launch) (Z : State) (a0 : Array Value) (hw : ∀ d ∈ tables_1, d.before a0 Z = true) (ws : List Jvm.Cond) (a1 a2 : Addr) (cmS : Int32) (b : Addr) (kb : ClassId) (mm : Int32) (us : List Int32) (h0 : Heap) (n0 : Nat) (Z0 : n0 ≤ h0.size) (O0 : Old Z n0 h0) (SC : Sta Z Z.heap "java/lang/String" "COMPACT_STRINGS" "Z" (.int cmS)) (cs0 : cmS ≠ 0) (E_a1 : Exa Z h0 a1 "java/lang/StringBuilder") (F_w_a1 : Fl7 Z h0 a1 (.ref b)) (F_c_a1 : Fl8 Z h0 a1 (.int 0)) (F_n_a1 : Fl9 Z h0 a1 (.int mm)) (V_b : Arv Z h0 b kb .byte (16 : Int32) (own_vb (us)) (.int (0 : Int32))) (E2 : Exa Z h0 a2 "java/lang/String") (F2 : Fl5 Z h0 a2 (.int 0)) :
 CT l Z mn29 jdk_68_method_71_code 2 none ws (⟨1, 0, 0, 13⟩ : Room) #[(.ref a1), (.ref a2)] h0 (Q43 Z a1 a2 cmS b kb mm us h0 n0) := by
 refine MetFree.of_bodySF (plainFor_of_name pn_20) hisR ?_
 intro p e s m args below meth c s₁ Bd hml0 hP hK
 obtain ⟨rfl, hZ, hh⟩ := hP
 have hx := Bd.exec
 have hby := Bd.bytes
 have hml : c.maxLocals = 2 := hml0
 have hown : s.vm.findClass "java/lang/AbstractStringBuilder" = some m.cls := findClass_of_methodNamed Bd.named
 have hnm := (name_of_methodNamed Bd.named Bd.method).1
 have hlocks : meth.locks = false := BodyLoose.notSynchronized Bd
 have X0 : Stand p l e (⟨1, 0, 0, 13⟩ : Room) s m #[(.ref a1), (.ref a2)] below meth c s₁ [] 0 0 := Stand.of_body Bd
 have e0 : s₁.heap = h0 := by rw [← hh, Bd.state]; rfl
 have N0 := Fr.nil n0
 show Goes p e below (s₁.setTop (entryFrame m #[(.ref a1), (.ref a2)] 2)) (Fin s (Q43 Z a1 a2 cmS b kb mm us h0 n0) (⟨1, 0, 0, 13⟩ : Room).cells (⟨1, 0, 0, 13⟩ : Room).slots)
 refine Goes.of (fun t k => castTop (ef_43 m a1 a2) k) ?_
 obtain ⟨T100, X100, e100, st100⟩ := getS2 X0 hx hZ hown (host := "") (Or.inl (wd hw 60 rfl)) Via.refl e0 (SC.ext O0.2) (g := (mkF m 0 #[.val (.ref a1), .val (.ref a2)] [])) rfl (hb hby d43_0)
 refine Goes.of st100 ?_
 have hd3_101 : ¬ (cmS = (0 : Int32)) := cs0
 refine gO (fun t k => XS.ifNo X100.here hx rfl (hb hby d43_3) rfl ((if0 _ _).trans (feq hd3_101).1) k) ?_
 refine gO (fun t k => XS.aloadN X100.here hx rfl (hb hby d43_6) rfl rfl k) ?_
 obtain ⟨T102, X102, e102, st102⟩ := getF X100 hx hZ hown (host := "") (Or.inl (wd hw 65 rfl)) Via.refl e100 F_c_a1 (g := (mkF m 7 #[.val (.ref a1), .val (.ref a2)] [(.ref a1)])) rfl rfl (hb hby d43_7)
 refine Goes.of st102 ?_
 refine gO (fun t k => XS.aloadN X102.here hx rfl (hb hby d43_10) rfl rfl k) ?_
 show Goes p e below (T102.setTop (mkF m 11 #[.val (.ref a1), .val (.ref a2)] [(.ref a2), (.int 0)])) _
 obtain ⟨cq103, kq103, q103a, q103b, q103c⟩ := isOf hZ e102 E2
 obtain ⟨_, _, ⟨T103, L103, k103, n103⟩, -, X103, ⟨Lc103, hQ103, l103, y103, z103⟩, st103⟩ := X102.virtualBack hx (y := mn20) (z := mn20) hown (mvT hZ (wd hw 250 rfl)) (mvT hZ (wd hw 145 rfl)) (notFace_of_selects (args := #[]) (mvT hZ (wd hw 147 rfl))) (mvT hZ (wd hw 147 rfl)) (mvT hZ (wd hw 146 rfl)) (by decide) (backOf (W := 1) (rm24 l Z a0 hw [] a2 cmS h0 n0 Z0 O0 SC cs0 F2) hZ (wd hw 148 rfl) (wd hw 61 rfl) (by decide) (by decide)) q103a q103c (g := (mkF m 11 #[.val (.ref a1), .val (.ref a2)] [(.ref a2), (.int 0)])) rfl (by rw [hml]; rfl) (Steps.refl _) (argsL := []) (rest := [(.int 0)]) (lenOf pd_19 rfl) rfl (wr0 rfl rfl) (hb hby d43_11) (fun _ _ => ⟨rfl, e102, (by decide : 0 + 0 ≤ _), (by decide : 0 + 0 ≤ _)⟩)
 dsimp only [Pt.U, Pt.locs, Pt.cells, Pt.slots] at X103 l103 y103 z103 st103 hQ103
 subst l103 y103 z103
 obtain ⟨rfl, N103q, e103⟩ := hQ103
 have N103 := Fr.app N0 N103q
 refine Goes.of (fun t k => st103.trans k) ?_
 refine gO (fun t k => XS.icmpYes X103.here hx rfl (pc0 := 14) (pc' := 21) rfl (hb hby d43_14) rfl (teq (by decide)).1 (by decide) (by decide) k) ?_
 show Goes p e below (T103.setTop (mkF m 21 #[.val (.ref a1), .val (.ref a2)] [])) _
 exact Goes.retV X103 hx Bd.returns hlocks (hb hby d43_21) (⟨rfl, N103, e103⟩) (by decide) (by decide)
theorem ef_44 (m : MethodId) (x0 x1 : Addr) (x2 x3 : Int32) : entryFrame m #[(.ref x0), (.ref x1), (.int x2), (.int x3)] 4 = mkF m 0 #[.val (.ref x0), .val (.ref x1), .val (.int x2), .val (.int x3)] [] := by first | (simp [entryFrame, mkF, argsToLocals, Value.category]; done) | rfl
def Q44 (Z : State) (a1 a2 : Addr) (p3 cmS : Int32) (b3 : Addr) (k3 : ClassId) (z : Int32) (vs : List Int32) (k2 : ClassId) (us : List Int32) (h0 : Heap) (n0 : Nat) (v : Option Value) (h : Heap) (L : List Loc) : Prop := v = none ∧ Fr n0 L ∧ Keep h0 h [a2] ∧ Arv Z h a2 k2 .byte (16 : Int32) (own_vb ((us ++ vs))) (.int (0 : Int32))
theorem rm44 (l : Launch) (Z : State) (a0 : Array Value) (hw : ∀ d ∈ tables_1, d.before a0 Z = true) (ws : List Jvm.Cond) (a1 a2 : Addr) (p3 cmS : Int32) (b3 : Addr) (k3 : ClassId) (z : Int32) (vs : List Int32) (k2 : ClassId) (us : List Int32) (h0 : Heap) (n0 : Nat) (Z0 : n0 ≤ h0.size) (O0 : Old Z n0 h0) (SC : Sta Z Z.heap "java/lang/String" "COMPACT_STRINGS" "Z" (.int cmS)) (cs0 : cmS ≠ 0) (E_a1 : Exa Z h0 a1 "java/lang/String") (F_c_a1 : Fl5 Z h0 a1 (.int 0)) (F_w_a1 : Fl6 Z h0 a1 (.ref b3)) (V_b3 : Arv Z h0 b3 k3 .byte z (own_vb (vs)) (.int (0 : Int32))) (V_a2 : Arv Z h0 a2 k2 .byte (16 : Int32) (own_vb (us)) (.int (0 : Int32))) (G_a2 : n0 ≤ a2) (hm : p3.toInt = us.length) (hz : z.toInt = vs.length) (hc : us.length + vs.length ≤ 16) (ne : b3 ≠ a2) :
 CT l Z mn30 jdk_42_method_147_code 4 none ws (⟨1, 0, 0, 40⟩ : Room) #[(.ref a1), (.ref a2), (.int p3), (.int 0)] h0 (Q44 Z a1 a2 p3 cmS b3 k3 z vs k2 us h0 n0) := by
 refine MetFree.of_bodySF (plainFor_of_name pn_15) hisR ?_
 intro p e s m args below meth c s₁ Bd hml0 hP hK
 obtain ⟨rfl, hZ, hh⟩ := hP
 have hx := Bd.exec
 have hby := Bd.bytes
 have hml : c.maxLocals = 4 := hml0
 have hown : s.vm.findClass "java/lang/String" = some m.cls := findClass_of_methodNamed Bd.named
 have hnm := (name_of_methodNamed Bd.named Bd.method).1
 have hlocks : meth.locks = false := BodyLoose.notSynchronized Bd
 have X0 : Stand p l e (⟨1, 0, 0, 40⟩ : Room) s m #[(.ref a1), (.ref a2), (.int p3), (.int 0)] below meth c s₁ [] 0 0 := Stand.of_body Bd
 have e0 : s₁.heap = h0 := by rw [← hh, Bd.state]; rfl
 have N0 := Fr.nil n0
 show Goes p e below (s₁.setTop (entryFrame m #[(.ref a1), (.ref a2), (.int p3), (.int 0)] 4)) (Fin s (Q44 Z a1 a2 p3 cmS b3 k3 z vs k2 us h0 n0) (⟨1, 0, 0, 40⟩ : Room).cells (⟨1, 0, 0, 40⟩ : Room).slots)
 refine Goes.of (fun t k => castTop (ef_44 m a1 a2 p3 (0 : Int32)) k) ?_
 have K0 : Keep h0 h0 [a2] := Keep.refl _ _
 refine gO (fun t k => XS.aloadN X0.here hx rfl (hb hby d44_0) rfl rfl k) ?_
 obtain ⟨cq100, kq100, q100a, q100b, q100c⟩ := isOf hZ e0 E_a1
 obtain ⟨_, _, ⟨T100, L100, k100, n100⟩, -, X100, ⟨Lc100, hQ100, l100, y100, z100⟩, st100⟩ := X0.virtualBack hx (y := mn20) (z := mn20) hown (mvT hZ (wd hw 144 rfl)) (mvT hZ (wd hw 145 rfl)) (notFace_of_selects (args := #[]) (mvT hZ (wd hw 147 rfl))) (mvT hZ (wd hw 147 rfl)) (mvT hZ (wd hw 146 rfl)) (by decide) (backOf (W := 0) (rm24 l Z a0 hw [] a1 cmS h0 n0 Z0 O0 SC cs0 F_c_a1) hZ (wd hw 148 rfl) (wd hw 61 rfl) (by decide) (by decide)) q100a q100c (g := (mkF m 1 #[.val (.ref a1), .val (.ref a2), .val (.int p3), .val (.int 0)] [(.ref a1)])) rfl (by rw [hml]; rfl) (Steps.refl _) (argsL := []) (rest := []) (lenOf pd_19 rfl) rfl (wr0 rfl rfl) (hb hby d44_1) (fun _ _ => ⟨rfl, e0, (by decide : 0 + 0 ≤ _), (by decide : 0 + 0 ≤ _)⟩)
 dsimp only [Pt.U, Pt.locs, Pt.cells, Pt.slots] at X100 l100 y100 z100 st100 hQ100
 subst l100 y100 z100
 obtain ⟨rfl, N100q, e100⟩ := hQ100
 have N100 := Fr.app N0 N100q
 refine Goes.of (fun t k => st100.trans k) ?_
 refine gO (fun t k => XS.iloadN X100.here hx rfl (hb hby d44_4) rfl k) ?_
 refine gO (fun t k => XS.icmpNo X100.here hx rfl (hb hby d44_5) rfl (teq (by decide)).2 k) ?_
 refine gO (fun t k => XS.aloadN X100.here hx rfl (hb hby d44_8) rfl rfl k) ?_
 show Goes p e below (T100.setTop (mkF m 9 #[.val (.ref a1), .val (.ref a2), .val (.int p3), .val (.int 0)] [(.ref a1)])) _
 obtain ⟨T101, X101, e101, st101⟩ := getF X100 hx hZ hown (host := "") (Or.inl (wd hw 134 rfl)) Via.refl e100 F_w_a1 (g := (mkF m 9 #[.val (.ref a1), .val (.ref a2), .val (.int p3), .val (.int 0)] [(.ref a1)])) rfl rfl (hb hby d44_9)
 refine Goes.of st101 ?_
 refine gO (fun t k => XS.iconst X101.here hx rfl (hb hby d44_12) k) ?_
 refine gO (fun t k => XS.aloadN X101.here hx rfl (hb hby d44_13) rfl rfl k) ?_
 refine gO (fun t k => XS.iloadN X101.here hx rfl (hb hby d44_14) rfl k) ?_
 refine gO (fun t k => XS.iloadN X101.here hx rfl (hb hby d44_15) rfl k) ?_
 show Goes p e below (T101.setTop (mkF m 16 #[.val (.ref a1), .val (.ref a2), .val (.int p3), .val (.int 0)] [(.int 0), (.int p3), (.ref a2), (.int 0), (.ref b3)])) _
 refine gO (fun t k => XS.ishl X101.here hx rfl (hb hby d44_16) rfl k) ?_
 refine gO (fun t k => XS.aloadN X101.here hx rfl (hb hby d44_17) rfl rfl k) ?_
 obtain ⟨T102, X102, e102, st102⟩ := getF X101 hx hZ hown (host := "") (Or.inl (wd hw 134 rfl)) Via.refl e101 F_w_a1 (g := (mkF m 18 #[.val (.ref a1), .val (.ref a2), .val (.int p3), .val (.int 0)] [(.ref a1), (.int (p3 <<< ((0 : Int32) &&& 31))), (.ref a2), (.int 0), (.ref b3)])) rfl rfl (hb hby d44_18)
 refine Goes.of st102 ?_
 have Vc103 := V_b3
 obtain ⟨clc103, Arc103, qc103, Sc103, Nc103, Hc103, Gc103⟩ := Vc103
 refine Goes.of (X102.arraylength hx (by rw [e102]; exact Arc103.1) (State.isArrayOf_alike hZ.alike Arc103.2.1) (g := (mkF m 21 #[.val (.ref a1), .val (.ref a2), .val (.int p3), .val (.int 0)] [(.ref b3), (.int (p3 <<< ((0 : Int32) &&& 31))), (.ref a2), (.int 0), (.ref b3)])) rfl rfl (hb hby d44_21)) ?_
 rw [len_of Sc103 Nc103]
 show Goes p e below (T102.setTop (mkF m 22 #[.val (.ref a1), .val (.ref a2), .val (.int p3), .val (.int 0)] [(.int z), (.int (p3 <<< ((0 : Int32) &&& 31))), (.ref a2), (.int 0), (.ref b3)])) _
 rw [own_shl0]
 show Goes p e below (T102.setTop (mkF m 22 #[.val (.ref a1), .val (.ref a2), .val (.int p3), .val (.int 0)] [(.int z), (.int p3), (.ref a2), (.int 0), (.ref b3)])) _
 have B104 := Arv.pad (vs' := (own_vb us) ++ List.replicate ((own_vb vs)).length (.int (0 : Int32))) V_a2 (own_pad (own_vb us) _ _)
 obtain ⟨T105, h105, L105, X105, e105, N105, K105, V105, st105⟩ := cpA X102 hx hZ hown (wd hw 256 rfl) (wd hw 133 rfl) (wd hw 131 rfl) (wd hw 132 rfl) e102 V_b3 B104 (sp := 0) (dp := p3) (nn := z) (us := (own_vb vs)) (Or.inl ⟨rfl, rfl⟩) (by decide) (own_nn hm) (own_nn hz) (by have e : (0 : Int32).toNatClampNeg = 0 := (by decide); omega) (by have e : (16 : Int32).toNatClampNeg = 16 := (by decide); rw [own_cl hm, own_cl hz, e]; exact hc) (own_us hz) (by rw [own_cl hm, own_cl hz]; simp [own_lvb]) N100 G_a2 (g := (mkF m 22 #[.val (.ref a1), .val (.ref a2), .val (.int p3), .val (.int 0)] [(.int z), (.int p3), (.ref a2), (.int 0), (.ref b3)])) rfl (by rw [hml]; rfl) rfl (hb hby d44_22) (by decide) (W := 0) (by show 2 * 0 + _ ≤ _; exact Nat.le_of_eq rfl) (by decide)
 have V105v : Arv Z h105 a2 k2 .byte (16 : Int32) (own_vb (us ++ vs)) (.int (0 : Int32)) := by rw [← own_fin hm hz]; exact V105
 have K106 : Keep h0 h105 [a2] := K0.trans K105 (allS (Or.inl (List.mem_of_getElem? (i := 0) rfl)) all0)
 refine Goes.of st105 ?_
 refine gO (fun t k => XS.goto X105.here hx rfl (pc0 := 25) (pc' := 43) rfl (hb hby d44_25) (by decide) (by decide) k) ?_
 show Goes p e below (T105.setTop (mkF m 43 #[.val (.ref a1), .val (.ref a2), .val (.int p3), .val (.int 0)] [])) _
 have eh : T105.heap = h105 := e105
 exact Goes.retV X105 hx Bd.returns hlocks (hb hby d44_43) (⟨rfl, N105, by rw [eh]; exact K106, by rw [eh]; exact V105v⟩) (by decide) (by decide)
theorem ef_42 (m : MethodId) (x0 : Addr) (x1 : Int32) (x2 : Addr) : entryFrame m #[(.ref x0), (.int x1), (.ref x2)] 3 = mkF m 0 #[.val (.ref x0), .val (.int x1), .val (.ref x2)] [] := by first | (simp [entryFrame, mkF, argsToLocals, Value.category]; done) | rfl
def Q42 (Z : State) (a1 : Addr) (p2 : Int32) (a3 : Addr) (cmS : Int32) (b : Addr) (kb : ClassId) (mm : Int32) (us : List Int32) (b3 : Addr) (k3 : ClassId) (z : Int32) (vs : List Int32) (h0 : Heap) (n0 : Nat) (v : Option Value) (h : Heap) (L : List Loc) : Prop := v = none ∧ Fr n0 L ∧ Keep h0 h [b] ∧ Arv Z h b kb .byte (16 : Int32) (own_vb ((us ++ vs))) (.int (0 : Int32))
theorem rm42 (l : Launch) (Z : State) (a0 : Array Value) (hw : ∀ d ∈ tables_1, d.before a0 Z = true) (ws : List Jvm.Cond) (a1 : Addr) (p2 : Int32) (a3 : Addr) (cmS : Int32) (b : Addr) (kb : ClassId) (mm : Int32) (us : List Int32) (b3 : Addr) (k3 : ClassId) (z : Int32) (vs : List Int32) (h0 : Heap) (n0 : Nat) (Z0 : n0 ≤ h0.size) (O0 : Old Z n0 h0) (SC : Sta Z Z.heap "java/lang/String" "COMPACT_STRINGS" "Z" (.int cmS)) (cs0 : cmS ≠ 0) (E_a1 : Exa Z h0 a1 "java/lang/StringBuilder") (F_w_a1 : Fl7 Z h0 a1 (.ref b)) (F_c_a1 : Fl8 Z h0 a1 (.int 0)) (F_n_a1 : Fl9 Z h0 a1 (.int mm)) (V_b : Arv Z h0 b kb .byte (16 : Int32) (own_vb (us)) (.int (0 : Int32))) (G_b : n0 ≤ b) (E_a3 : Exa Z h0 a3 "java/lang/String") (F_c_a3 : Fl5 Z h0 a3 (.int 0)) (F_w_a3 : Fl6 Z h0 a3 (.ref b3)) (V_b3 : Arv Z h0 b3 k3 .byte z (own_vb (vs)) (.int (0 : Int32))) (hm : p2.toInt = us.length) (hz : z.toInt = vs.length) (hc : us.length + vs.length ≤ 16) (ne : b3 ≠ b) :
 CT l Z mn31 jdk_68_method_73_code 3 none ws (⟨2, 0, 0, 55⟩ : Room) #[(.ref a1), (.int p2), (.ref a3)] h0 (Q42 Z a1 p2 a3 cmS b kb mm us b3 k3 z vs h0 n0) := by
 refine MetFree.of_bodySF (plainFor_of_name pn_20) hisR ?_
 intro p e s m args below meth c s₁ Bd hml0 hP hK
 obtain ⟨rfl, hZ, hh⟩ := hP
 have hx := Bd.exec
 have hby := Bd.bytes
 have hml : c.maxLocals = 3 := hml0
 have hown : s.vm.findClass "java/lang/AbstractStringBuilder" = some m.cls := findClass_of_methodNamed Bd.named
 have hnm := (name_of_methodNamed Bd.named Bd.method).1
 have hlocks : meth.locks = false := BodyLoose.notSynchronized Bd
 have X0 : Stand p l e (⟨2, 0, 0, 55⟩ : Room) s m #[(.ref a1), (.int p2), (.ref a3)] below meth c s₁ [] 0 0 := Stand.of_body Bd
 have e0 : s₁.heap = h0 := by rw [← hh, Bd.state]; rfl
 have N0 := Fr.nil n0
 show Goes p e below (s₁.setTop (entryFrame m #[(.ref a1), (.int p2), (.ref a3)] 3)) (Fin s (Q42 Z a1 p2 a3 cmS b kb mm us b3 k3 z vs h0 n0) (⟨2, 0, 0, 55⟩ : Room).cells (⟨2, 0, 0, 55⟩ : Room).slots)
 refine Goes.of (fun t k => castTop (ef_42 m a1 p2 a3) k) ?_
 have K0 : Keep h0 h0 [b] := Keep.refl _ _
 refine gO (fun t k => XS.aloadN X0.here hx rfl (hb hby d42_0) rfl rfl k) ?_
 refine gO (fun t k => XS.aloadN X0.here hx rfl (hb hby d42_1) rfl rfl k) ?_
 obtain ⟨cq100, q100, q100'⟩ := E_a1.cell
 obtain ⟨_, _, ⟨T100, L100, k100, n100⟩, -, X100, ⟨Lc100, hQ100, l100, y100, z100⟩, st100⟩ := X0.privateBack hx (y := mn29) hown (mvT hZ (wd hw 245 rfl)) (mvT hZ (wd hw 246 rfl)) (selSelf (mvT hZ (wd hw 248 rfl)) (Cond.privateMethod_at (mvP hZ (wd hw 247 rfl) (args := #[]))) (mvT hZ (wd hw 246 rfl)) (by decide)) (Cond.privateMethod_at (mvP hZ (wd hw 247 rfl) (args := #[]))) (mvT hZ (wd hw 249 rfl)) (by decide) (backOf (W := 0) (rm43 l Z a0 hw [] a1 a3 cmS b kb mm us h0 n0 Z0 O0 SC cs0 E_a1 F_w_a1 F_c_a1 F_n_a1 V_b E_a3 F_c_a3) hZ (wd hw 249 rfl) (wd hw 57 rfl) (by decide) (by decide)) (g := (mkF m 2 #[.val (.ref a1), .val (.int p2), .val (.ref a3)] [(.ref a3), (.ref a1)])) rfl (by rw [hml]; rfl) (Steps.refl _) (a := a1) (by rw [e0]; exact q100) q100' (argsL := [(.ref a3)]) (rest := []) (lenOf pd_24 rfl) rfl (wr0 rfl rfl) (hb hby d42_2) (fun _ _ => ⟨rfl, e0, (by decide : 0 + 0 ≤ _), (by decide : 0 + 0 ≤ _)⟩)
 dsimp only [Pt.U, Pt.locs, Pt.cells, Pt.slots] at X100 l100 y100 z100 st100 hQ100
 subst l100 y100 z100
 obtain ⟨rfl, N100q, e100⟩ := hQ100
 have N100 := Fr.app N0 N100q
 refine Goes.of (fun t k => st100.trans k) ?_
 refine gO (fun t k => XS.aloadN X100.here hx rfl (hb hby d42_5) rfl rfl k) ?_
 refine gO (fun t k => XS.aloadN X100.here hx rfl (hb hby d42_6) rfl rfl k) ?_
 show Goes p e below (T100.setTop (mkF m 7 #[.val (.ref a1), .val (.int p2), .val (.ref a3)] [(.ref a1), (.ref a3)])) _
 obtain ⟨T101, X101, e101, st101⟩ := getF X100 hx hZ hown (host := "") (Or.inl (wd hw 63 rfl)) Via.refl e100 F_w_a1 (g := (mkF m 7 #[.val (.ref a1), .val (.int p2), .val (.ref a3)] [(.ref a1), (.ref a3)])) rfl rfl (hb hby d42_7)
 refine Goes.of st101 ?_
 refine gO (fun t k => XS.iloadN X101.here hx rfl (hb hby d42_10) rfl k) ?_
 refine gO (fun t k => XS.aloadN X101.here hx rfl (hb hby d42_11) rfl rfl k) ?_
 obtain ⟨T102, X102, e102, st102⟩ := getF X101 hx hZ hown (host := "") (Or.inl (wd hw 65 rfl)) Via.refl e101 F_c_a1 (g := (mkF m 12 #[.val (.ref a1), .val (.int p2), .val (.ref a3)] [(.ref a1), (.int p2), (.ref b), (.ref a3)])) rfl rfl (hb hby d42_12)
 refine Goes.of st102 ?_
 obtain ⟨cq103, kq103, q103a, q103b, q103c⟩ := isOf hZ e102 E_a3
 obtain ⟨_, _, ⟨T103, L103, k103, n103⟩, -, X103, ⟨Lc103, hQ103, l103, y103, z103⟩, st103⟩ := X102.virtualBack hx (y := mn30) (z := mn30) hown (mvT hZ (wd hw 251 rfl)) (mvT hZ (wd hw 252 rfl)) (notFace_of_selects (args := #[]) (mvT hZ (wd hw 254 rfl))) (mvT hZ (wd hw 254 rfl)) (mvT hZ (wd hw 253 rfl)) (by decide) (backOf (W := 0) (rm44 l Z a0 hw [] a3 b p2 cmS b3 k3 z vs kb us h0 n0 Z0 O0 SC cs0 E_a3 F_c_a3 F_w_a3 V_b3 V_b G_b hm hz hc ne) hZ (wd hw 255 rfl) (wd hw 61 rfl) (by decide) (by decide)) q103a q103c (g := (mkF m 15 #[.val (.ref a1), .val (.int p2), .val (.ref a3)] [(.int 0), (.int p2), (.ref b), (.ref a3)])) rfl (by rw [hml]; rfl) (Steps.refl _) (argsL := [(.ref b), (.int p2), (.int 0)]) (rest := []) (lenOf pd_25 rfl) rfl (wr0 rfl rfl) (hb hby d42_15) (fun _ _ => ⟨rfl, e102, (by decide : 0 + 0 ≤ _), (by decide : 0 + 0 ≤ _)⟩)
 dsimp only [Pt.U, Pt.locs, Pt.cells, Pt.slots] at X103 l103 y103 z103 st103 hQ103
 subst l103 y103 z103
 obtain ⟨rfl, N103q, K103, V103⟩ := hQ103
 have N103 := Fr.app N100 N103q
 have K104 : Keep h0 T103.heap [b] := K0.trans K103 (allS (Or.inl (List.mem_of_getElem? (i := 0) rfl)) all0)
 refine Goes.of (fun t k => st103.trans k) ?_
 show Goes p e below (T103.setTop (mkF m 18 #[.val (.ref a1), .val (.int p2), .val (.ref a3)] [])) _
 have eh : T103.heap = T103.heap := rfl
 exact Goes.retV X103 hx Bd.returns hlocks (hb hby d42_18) (⟨rfl, N103, by rw [eh]; exact K104, by rw [eh]; exact V103⟩) (by decide) (by decide)
theorem ef_40 (m : MethodId) (x0 x1 : Addr) : entryFrame m #[(.ref x0), (.ref x1)] 3 = mkF m 0 #[.val (.ref x0), .val (.ref x1), .unset] [] := by first | (simp [entryFrame, mkF, argsToLocals, Value.category]; done) | rfl
def Q40 (Z : State) (a1 a2 : Addr) (cmS : Int32) (b : Addr) (kb : ClassId) (mm : Int32) (us : List Int32) (b3 : Addr) (k3 : ClassId) (z : Int32) (vs : List Int32) (h0 : Heap) (n0 : Nat) (v : Option Value) (h : Heap) (L : List Loc) : Prop := ∃ m' : Int32, v = some (.ref a1) ∧ Fr n0 L ∧ Keep h0 h [a1, b] ∧ m'.toInt = (us ++ vs).length ∧ Exa Z h a1 "java/lang/StringBuilder" ∧ Fl7 Z h a1 (.ref b) ∧ Fl8 Z h a1 (.int 0) ∧ Fl9 Z h a1 (.int m') ∧ Arv Z h b kb .byte (16 : Int32) (own_vb (us ++ vs)) (.int (0 : Int32))
theorem rm40 (l : Launch) (Z : State) (a0 : Array Value) (hw : ∀ d ∈ tables_1, d.before a0 Z = true) (ws : List Jvm.Cond) (a1 a2 : Addr) (cmS : Int32) (b : Addr) (kb : ClassId) (mm : Int32) (us : List Int32) (b3 : Addr) (k3 : ClassId) (z : Int32) (vs : List Int32) (h0 : Heap) (n0 : Nat) (Z0 : n0 ≤ h0.size) (O0 : Old Z n0 h0) (SC : Sta Z Z.heap "java/lang/String" "COMPACT_STRINGS" "Z" (.int cmS)) (cs0 : cmS ≠ 0) (E_a1 : Exa Z h0 a1 "java/lang/StringBuilder") (F_w_a1 : Fl7 Z h0 a1 (.ref b)) (F_c_a1 : Fl8 Z h0 a1 (.int 0)) (F_n_a1 : Fl9 Z h0 a1 (.int mm)) (V_b : Arv Z h0 b kb .byte (16 : Int32) (own_vb (us)) (.int (0 : Int32))) (G_b : n0 ≤ b) (G_a1 : n0 ≤ a1) (hm : mm.toInt = us.length) (E_a2 : Exa Z h0 a2 "java/lang/String") (F_c_a2 : Fl5 Z h0 a2 (.int 0)) (F_w_a2 : Fl6 Z h0 a2 (.ref b3)) (V_b3 : Arv Z h0 b3 k3 .byte z (own_vb (vs)) (.int (0 : Int32))) (hz : z.toInt = vs.length) (hc : us.length + vs.length ≤ 16) (ne : b3 ≠ b) :
 CT l Z mn32 jdk_68_method_22_code 3 (some (.object "java/lang/AbstractStringBuilder")) ws (⟨3, 0, 0, 69⟩ : Room) #[(.ref a1), (.ref a2)] h0 (Q40 Z a1 a2 cmS b kb mm us b3 k3 z vs h0 n0) := by
 refine MetFree.of_bodySF (plainFor_of_name pn_20) hisR ?_
 intro p e s m args below meth c s₁ Bd hml0 hP hK
 obtain ⟨rfl, hZ, hh⟩ := hP
 have hx := Bd.exec
 have hby := Bd.bytes
 have hml : c.maxLocals = 3 := hml0
 have hown : s.vm.findClass "java/lang/AbstractStringBuilder" = some m.cls := findClass_of_methodNamed Bd.named
 have hnm := (name_of_methodNamed Bd.named Bd.method).1
 have hlocks : meth.locks = false := BodyLoose.notSynchronized Bd
 have X0 : Stand p l e (⟨3, 0, 0, 69⟩ : Room) s m #[(.ref a1), (.ref a2)] below meth c s₁ [] 0 0 := Stand.of_body Bd
 have e0 : s₁.heap = h0 := by rw [← hh, Bd.state]; rfl
 have N0 := Fr.nil n0
 show Goes p e below (s₁.setTop (entryFrame m #[(.ref a1), (.ref a2)] 3)) (Fin s (Q40 Z a1 a2 cmS b kb mm us b3 k3 z vs h0 n0) (⟨3, 0, 0, 69⟩ : Room).cells (⟨3, 0, 0, 69⟩ : Room).slots)
 refine Goes.of (fun t k => castTop (ef_40 m a1 a2) k) ?_
 have K0 : Keep h0 h0 [a1, b] := Keep.refl _ _
 refine gO (fun t k => XS.aloadN X0.here hx rfl (hb hby d40_0) rfl rfl k) ?_
 show Goes p e below (s₁.setTop (mkF m 1 #[.val (.ref a1), .val (.ref a2), .unset] [(.ref a2)])) _
 refine gO (fun t k => XS.ifnonnullYes X0.here hx rfl (pc0 := 1) (pc' := 9) rfl (hb hby d40_1) rfl (by decide) (by decide) k) ?_
 refine gO (fun t k => XS.aloadN X0.here hx rfl (hb hby d40_9) rfl rfl k) ?_
 obtain ⟨cq100, kq100, q100a, q100b, q100c⟩ := isOf hZ e0 E_a2
 obtain ⟨_, _, ⟨T100, L100, k100, n100⟩, -, X100, ⟨Lc100, hQ100, l100, y100, z100⟩, st100⟩ := X0.virtualBack hx (y := mn21) (z := mn21) hown (mvT hZ (wd hw 234 rfl)) (mvT hZ (wd hw 140 rfl)) (notFace_of_selects (args := #[]) (mvT hZ (wd hw 142 rfl))) (mvT hZ (wd hw 142 rfl)) (mvT hZ (wd hw 141 rfl)) (by decide) (backOf (W := 0) (rm23 l Z a0 hw [] a2 cmS b3 k3 z vs h0 n0 Z0 O0 SC cs0 E_a2 F_c_a2 F_w_a2 V_b3) hZ (wd hw 143 rfl) (wd hw 61 rfl) (by decide) (by decide)) q100a q100c (g := (mkF m 10 #[.val (.ref a1), .val (.ref a2), .unset] [(.ref a2)])) rfl (by rw [hml]; rfl) (Steps.refl _) (argsL := []) (rest := []) (lenOf pd_23 rfl) rfl (wr0 rfl rfl) (hb hby d40_10) (fun _ _ => ⟨rfl, e0, (by decide : 0 + 0 ≤ _), (by decide : 0 + 0 ≤ _)⟩)
 dsimp only [Pt.U, Pt.locs, Pt.cells, Pt.slots] at X100 l100 y100 z100 st100 hQ100
 subst l100 y100 z100
 obtain ⟨rfl, N100q, e100⟩ := hQ100
 have N100 := Fr.app N0 N100q
 refine Goes.of (fun t k => st100.trans k) ?_
 refine gO (fun t k => XS.istoreN X100.here hx rfl (hb hby d40_13) rfl (l' := #[.val (.ref a1), .val (.ref a2), .val (.int z)]) rfl k) ?_
 refine gO (fun t k => XS.aloadN X100.here hx rfl (hb hby d40_14) rfl rfl k) ?_
 refine gO (fun t k => XS.aloadN X100.here hx rfl (hb hby d40_15) rfl rfl k) ?_
 show Goes p e below (T100.setTop (mkF m 16 #[.val (.ref a1), .val (.ref a2), .val (.int z)] [(.ref a1), (.ref a1)])) _
 obtain ⟨T101, X101, e101, st101⟩ := getF X100 hx hZ hown (host := "") (Or.inl (wd hw 107 rfl)) Via.refl e100 F_n_a1 (g := (mkF m 16 #[.val (.ref a1), .val (.ref a2), .val (.int z)] [(.ref a1), (.ref a1)])) rfl rfl (hb hby d40_16)
 refine Goes.of st101 ?_
 refine gO (fun t k => XS.iloadN X101.here hx rfl (hb hby d40_19) rfl k) ?_
 refine gO (fun t k => XS.iadd X101.here hx rfl (hb hby d40_20) rfl k) ?_
 have hs : (mm + z).toInt = mm.toInt + z.toInt := Jvm.Kit.i32_add (by omega) (by omega)
 obtain ⟨cq102, q102, q102'⟩ := E_a1.cell
 obtain ⟨_, _, ⟨T102, L102, k102, n102⟩, -, X102, ⟨Lc102, hQ102, l102, y102, z102⟩, st102⟩ := X101.privateBack hx (y := mn28) hown (mvT hZ (wd hw 235 rfl)) (mvT hZ (wd hw 236 rfl)) (selSelf (mvT hZ (wd hw 238 rfl)) (Cond.privateMethod_at (mvP hZ (wd hw 237 rfl) (args := #[]))) (mvT hZ (wd hw 236 rfl)) (by decide)) (Cond.privateMethod_at (mvP hZ (wd hw 237 rfl) (args := #[]))) (mvT hZ (wd hw 239 rfl)) (by decide) (backOf (W := 0) (rm41 l Z a0 hw [] a1 (mm + z) b kb mm us h0 n0 Z0 E_a1 F_w_a1 F_c_a1 F_n_a1 V_b (by omega) (by omega)) hZ (wd hw 239 rfl) (wd hw 57 rfl) (by decide) (by decide)) (g := (mkF m 21 #[.val (.ref a1), .val (.ref a2), .val (.int z)] [(.int (mm + z)), (.ref a1)])) rfl (by rw [hml]; rfl) (Steps.refl _) (a := a1) (by rw [e101]; exact q102) q102' (argsL := [(.int (mm + z))]) (rest := []) (lenOf pd_22 rfl) rfl (wr0 rfl rfl) (hb hby d40_21) (fun _ _ => ⟨rfl, e101, (by decide : 0 + 0 ≤ _), (by decide : 0 + 0 ≤ _)⟩)
 dsimp only [Pt.U, Pt.locs, Pt.cells, Pt.slots] at X102 l102 y102 z102 st102 hQ102
 subst l102 y102 z102
 obtain ⟨rfl, N102q, e102⟩ := hQ102
 have N102 := Fr.app N100 N102q
 refine Goes.of (fun t k => st102.trans k) ?_
 refine gO (fun t k => XS.aloadN X102.here hx rfl (hb hby d40_24) rfl rfl k) ?_
 refine gO (fun t k => XS.aloadN X102.here hx rfl (hb hby d40_25) rfl rfl k) ?_
 show Goes p e below (T102.setTop (mkF m 26 #[.val (.ref a1), .val (.ref a2), .val (.int z)] [(.ref a1), (.ref a1)])) _
 obtain ⟨T103, X103, e103, st103⟩ := getF X102 hx hZ hown (host := "") (Or.inl (wd hw 107 rfl)) Via.refl e102 F_n_a1 (g := (mkF m 26 #[.val (.ref a1), .val (.ref a2), .val (.int z)] [(.ref a1), (.ref a1)])) rfl rfl (hb hby d40_26)
 refine Goes.of st103 ?_
 refine gO (fun t k => XS.aloadN X103.here hx rfl (hb hby d40_29) rfl rfl k) ?_
 obtain ⟨cq104, q104, q104'⟩ := E_a1.cell
 obtain ⟨_, _, ⟨T104, L104, k104, n104⟩, -, X104, ⟨Lc104, hQ104, l104, y104, z104⟩, st104⟩ := X103.privateBack hx (y := mn31) hown (mvT hZ (wd hw 240 rfl)) (mvT hZ (wd hw 241 rfl)) (selSelf (mvT hZ (wd hw 243 rfl)) (Cond.privateMethod_at (mvP hZ (wd hw 242 rfl) (args := #[]))) (mvT hZ (wd hw 241 rfl)) (by decide)) (Cond.privateMethod_at (mvP hZ (wd hw 242 rfl) (args := #[]))) (mvT hZ (wd hw 244 rfl)) (by decide) (backOf (W := 0) (rm42 l Z a0 hw [] a1 mm a2 cmS b kb mm us b3 k3 z vs h0 n0 Z0 O0 SC cs0 E_a1 F_w_a1 F_c_a1 F_n_a1 V_b G_b E_a2 F_c_a2 F_w_a2 V_b3 hm hz hc ne) hZ (wd hw 244 rfl) (wd hw 57 rfl) (by decide) (by decide)) (g := (mkF m 30 #[.val (.ref a1), .val (.ref a2), .val (.int z)] [(.ref a2), (.int mm), (.ref a1)])) rfl (by rw [hml]; rfl) (Steps.refl _) (a := a1) (by rw [e103]; exact q104) q104' (argsL := [(.int mm), (.ref a2)]) (rest := []) (lenOf pd_26 rfl) rfl (wr0 rfl rfl) (hb hby d40_30) (fun _ _ => ⟨rfl, e103, (by decide : 0 + 0 ≤ _), (by decide : 0 + 0 ≤ _)⟩)
 dsimp only [Pt.U, Pt.locs, Pt.cells, Pt.slots] at X104 l104 y104 z104 st104 hQ104
 subst l104 y104 z104
 obtain ⟨rfl, N104q, K104, V104⟩ := hQ104
 have N104 := Fr.app N102 N104q
 have K105 : Keep h0 T104.heap [a1, b] := K0.trans K104 (allS (Or.inl (List.mem_of_getElem? (i := 1) rfl)) all0)
 have q106 : a1 ≠ b := Exa.neArv E_a1 V_b (wd hw 48 rfl)
 have f110 := F_w_a1.keep K104 (ninS q106 nin0)
 have f111 := F_c_a1.keep K104 (ninS q106 nin0)
 have f112 := F_n_a1.keep K104 (ninS q106 nin0)
 have f113 := E_a1.keep K104
 refine Goes.of (fun t k => st104.trans k) ?_
 refine gO (fun t k => XS.aloadN X104.here hx rfl (hb hby d40_33) rfl rfl k) ?_
 refine gO (fun t k => XS.dup X104.here hx rfl (hb hby d40_34) rfl rfl k) ?_
 show Goes p e below (T104.setTop (mkF m 35 #[.val (.ref a1), .val (.ref a2), .val (.int z)] [(.ref a1), (.ref a1)])) _
 obtain ⟨T119, X119, e119, st119⟩ := getF X104 hx hZ hown (host := "") (Or.inl (wd hw 107 rfl)) Via.refl rfl f112 (g := (mkF m 35 #[.val (.ref a1), .val (.ref a2), .val (.int z)] [(.ref a1), (.ref a1)])) rfl rfl (hb hby d40_35)
 refine Goes.of st119 ?_
 refine gO (fun t k => XS.iloadN X119.here hx rfl (hb hby d40_38) rfl k) ?_
 refine gO (fun t k => XS.iadd X119.here hx rfl (hb hby d40_39) rfl k) ?_
 obtain ⟨T120, h120, X120, e120, W120, st120⟩ := putF X119 hx hZ hown (host := "") (Or.inl (wd hw 107 rfl)) Via.refl e119 f112 f113 (Or.inl (wd hw 108 rfl)) (wd hw 48 rfl) (ty := .int) (by decide) rfl rfl (g := (mkF m 40 #[.val (.ref a1), .val (.ref a2), .val (.int z)] [(.int (mm + z)), (.ref a1)])) rfl rfl (hb hby d40_40)
 have f121 := f112.same W120
 have K122 : Keep h0 h120 [a1, b] := K105.wr W120 (Or.inl (List.mem_of_getElem? (i := 0) rfl))
 have f127 := f110.other W120 (Or.inr (slot_ne (Or.inl (wd hw 64 rfl)) (Or.inl (wd hw 108 rfl)) (by decide) (t := (.array .byte)) (t' := .int) (by decide) (by decide)))
 have f128 := f111.other W120 (Or.inr (slot_ne (Or.inl (wd hw 66 rfl)) (Or.inl (wd hw 108 rfl)) (by decide) (t := .byte) (t' := .int) (by decide) (by decide)))
 have f130 := f113.wr W120
 have f135 := V104.other W120 (Ne.symm q106)
 have N120 := Fr.snoc X120 N104 G_a1
 refine Goes.of st120 ?_
 refine gO (fun t k => XS.aloadN X120.here hx rfl (hb hby d40_43) rfl rfl k) ?_
 show Goes p e below (T120.setTop (mkF m 44 #[.val (.ref a1), .val (.ref a2), .val (.int z)] [(.ref a1)])) _
 have eh : T120.heap = h120 := e120
 exact Goes.retA X120 hx (by rfl) Bd.returns (by rfl) hlocks (hb hby d40_44) (⟨mm + z, rfl, N120, by rw [eh]; exact K122, by rw [hs, List.length_append]; omega, by rw [eh]; exact f130, by rw [eh]; exact f127, by rw [eh]; exact f128, by rw [eh]; exact f121, by rw [eh]; exact f135⟩) (by decide) (by decide)
theorem ef_39 (m : MethodId) (x0 x1 : Addr) : entryFrame m #[(.ref x0), (.ref x1)] 2 = mkF m 0 #[.val (.ref x0), .val (.ref x1)] [] := by first | (simp [entryFrame, mkF, argsToLocals, Value.category]; done) | rfl
def Q39 (Z : State) (a1 a2 : Addr) (cmS : Int32) (b : Addr) (kb : ClassId) (mm : Int32) (us : List Int32) (b3 : Addr) (k3 : ClassId) (z : Int32) (vs : List Int32) (h0 : Heap) (n0 : Nat) (v : Option Value) (h : Heap) (L : List Loc) : Prop := ∃ m' : Int32, v = some (.ref a1) ∧ Fr n0 L ∧ Keep h0 h [a1, b] ∧ m'.toInt = (us ++ vs).length ∧ Exa Z h a1 "java/lang/StringBuilder" ∧ Fl7 Z h a1 (.ref b) ∧ Fl8 Z h a1 (.int 0) ∧ Fl9 Z h a1 (.int m') ∧ Arv Z h b kb .byte (16 : Int32) (own_vb (us ++ vs)) (.int (0 : Int32))
theorem rm39 (l : Launch) (Z : State) (a0 : Array Value) (hw : ∀ d ∈ tables_1, d.before a0 Z = true) (ws : List Jvm.Cond) (a1 a2 : Addr) (cmS : Int32) (b : Addr) (kb : ClassId) (mm : Int32) (us : List Int32) (b3 : Addr) (k3 : ClassId) (z : Int32) (vs : List Int32) (h0 : Heap) (n0 : Nat) (Z0 : n0 ≤ h0.size) (O0 : Old Z n0 h0) (SC : Sta Z Z.heap "java/lang/String" "COMPACT_STRINGS" "Z" (.int cmS)) (cs0 : cmS ≠ 0) (E_a1 : Exa Z h0 a1 "java/lang/StringBuilder") (F_w_a1 : Fl7 Z h0 a1 (.ref b)) (F_c_a1 : Fl8 Z h0 a1 (.int 0)) (F_n_a1 : Fl9 Z h0 a1 (.int mm)) (V_b : Arv Z h0 b kb .byte (16 : Int32) (own_vb (us)) (.int (0 : Int32))) (G_b : n0 ≤ b) (G_a1 : n0 ≤ a1) (hm : mm.toInt = us.length) (E_a2 : Exa Z h0 a2 "java/lang/String") (F_c_a2 : Fl5 Z h0 a2 (.int 0)) (F_w_a2 : Fl6 Z h0 a2 (.ref b3)) (V_b3 : Arv Z h0 b3 k3 .byte z (own_vb (vs)) (.int (0 : Int32))) (hz : z.toInt = vs.length) (hc : us.length + vs.length ≤ 16) (ne : b3 ≠ b) :
 CT l Z mn33 jdk_67_method_7_code 2 (some (.object "java/lang/StringBuilder")) ws (⟨4, 0, 0, 83⟩ : Room) #[(.ref a1), (.ref a2)] h0 (Q39 Z a1 a2 cmS b kb mm us b3 k3 z vs h0 n0) := by
 refine MetFree.of_bodySF (plainFor_of_name pn_21) hisR ?_
 intro p e s m args below meth c s₁ Bd hml0 hP hK
 obtain ⟨rfl, hZ, hh⟩ := hP
 have hx := Bd.exec
 have hby := Bd.bytes
 have hml : c.maxLocals = 2 := hml0
 have hown : s.vm.findClass "java/lang/StringBuilder" = some m.cls := findClass_of_methodNamed Bd.named
 have hnm := (name_of_methodNamed Bd.named Bd.method).1
 have hlocks : meth.locks = false := BodyLoose.notSynchronized Bd
 have X0 : Stand p l e (⟨4, 0, 0, 83⟩ : Room) s m #[(.ref a1), (.ref a2)] below meth c s₁ [] 0 0 := Stand.of_body Bd
 have e0 : s₁.heap = h0 := by rw [← hh, Bd.state]; rfl
 have N0 := Fr.nil n0
 show Goes p e below (s₁.setTop (entryFrame m #[(.ref a1), (.ref a2)] 2)) (Fin s (Q39 Z a1 a2 cmS b kb mm us b3 k3 z vs h0 n0) (⟨4, 0, 0, 83⟩ : Room).cells (⟨4, 0, 0, 83⟩ : Room).slots)
 refine Goes.of (fun t k => castTop (ef_39 m a1 a2) k) ?_
 have K0 : Keep h0 h0 [a1, b] := Keep.refl _ _
 refine gO (fun t k => XS.aloadN X0.here hx rfl (hb hby d39_0) rfl rfl k) ?_
 refine gO (fun t k => XS.aloadN X0.here hx rfl (hb hby d39_1) rfl rfl k) ?_
 obtain ⟨_, _, ⟨T100, L100, k100, n100⟩, -, X100, ⟨Lc100, hQ100, l100, y100, z100⟩, st100⟩ := Jvm.RoadKit.superBack X0 hx hZ (y := mn32) hown (wd hw 230 rfl) (sameM (y0 := mn24) rfl (wd hw 96 rfl) (wd hw 231 rfl) (by decide)) (wd hw 231 rfl) (wd hw 105 rfl) (by decide) (backOf (W := 0) (rm40 l Z a0 hw [] a1 a2 cmS b kb mm us b3 k3 z vs h0 n0 Z0 O0 SC cs0 E_a1 F_w_a1 F_c_a1 F_n_a1 V_b G_b G_a1 hm E_a2 F_c_a2 F_w_a2 V_b3 hz hc ne) hZ (wd hw 233 rfl) (wd hw 57 rfl) (by decide) (by decide)) e0 (a := a1) (Ins.self E_a1) (g := (mkF m 2 #[.val (.ref a1), .val (.ref a2)] [(.ref a2), (.ref a1)])) rfl (by rw [hml]; rfl) (wd hw 233 rfl) (argsL := [(.ref a2)]) (rest := []) (lenOf pd_27 rfl) rfl (wr0 rfl rfl) (hb hby d39_2) (fun _ _ => ⟨rfl, e0, (by decide : 0 + 0 ≤ _), (by decide : 0 + 0 ≤ _)⟩)
 dsimp only [Pt.U, Pt.locs, Pt.cells, Pt.slots] at X100 l100 y100 z100 st100 hQ100
 subst l100 y100 z100
 obtain ⟨m100, rfl, N100q, K100, hl100, E100, F100_w, F100_c, F100_n, V100⟩ := hQ100
 have N100 := Fr.app N0 N100q
 have K101 : Keep h0 T100.heap [a1, b] := K0.trans K100 (allS (Or.inl (List.mem_of_getElem? (i := 0) rfl)) (allS (Or.inl (List.mem_of_getElem? (i := 1) rfl)) all0))
 refine Goes.of (fun t k => st100.trans k) ?_
 refine gO (fun t k => XS.pop X100.here hx rfl (hb hby d39_5) rfl rfl k) ?_
 refine gO (fun t k => XS.aloadN X100.here hx rfl (hb hby d39_6) rfl rfl k) ?_
 show Goes p e below (T100.setTop (mkF m 7 #[.val (.ref a1), .val (.ref a2)] [(.ref a1)])) _
 have eh : T100.heap = T100.heap := rfl
 exact Goes.retA X100 hx (by rfl) Bd.returns (by rfl) hlocks (hb hby d39_7) (⟨_, rfl, N100, by rw [eh]; exact K101, hl100, by rw [eh]; exact E100, by rw [eh]; exact F100_w, by rw [eh]; exact F100_c, by rw [eh]; exact F100_n, by rw [eh]; exact V100⟩) (by decide) (by decide)
theorem ef_46 (m : MethodId) (x0 : Addr) (x1 : Int32) : entryFrame m #[(.ref x0), (.int x1)] 2 = mkF m 0 #[.val (.ref x0), .val (.int x1)] [] := by first | (simp [entryFrame, mkF, argsToLocals, Value.category]; done) | rfl
def Q46 (Z : State) (a1 : Addr) (p2 cmS : Int32) (b : Addr) (kb : ClassId) (mm : Int32) (us : List Int32) (h0 : Heap) (n0 : Nat) (v : Option Value) (h : Heap) (L : List Loc) : Prop := ∃ m' : Int32, v = some (.ref a1) ∧ Fr n0 L ∧ Keep h0 h [a1, b] ∧ m'.toInt = (us ++ [p2]).length ∧ Exa Z h a1 "java/lang/StringBuilder" ∧ Fl7 Z h a1 (.ref b) ∧ Fl8 Z h a1 (.int 0) ∧ Fl9 Z h a1 (.int m') ∧ Arv Z h b kb .byte (16 : Int32) (own_vb (us ++ [p2])) (.int (0 : Int32))
theorem rm46 (l : Launch) (Z : State) (a0 : Array Value) (hw : ∀ d ∈ tables_1, d.before a0 Z = true) (ws : List Jvm.Cond) (a1 : Addr) (p2 cmS : Int32) (b : Addr) (kb : ClassId) (mm : Int32) (us : List Int32) (h0 : Heap) (n0 : Nat) (Z0 : n0 ≤ h0.size) (O0 : Old Z n0 h0) (SC : Sta Z Z.heap "java/lang/String" "COMPACT_STRINGS" "Z" (.int cmS)) (cs0 : cmS ≠ 0) (E_a1 : Exa Z h0 a1 "java/lang/StringBuilder") (F_w_a1 : Fl7 Z h0 a1 (.ref b)) (F_c_a1 : Fl8 Z h0 a1 (.int 0)) (F_n_a1 : Fl9 Z h0 a1 (.int mm)) (V_b : Arv Z h0 b kb .byte (16 : Int32) (own_vb (us)) (.int (0 : Int32))) (G_b : n0 ≤ b) (G_a1 : n0 ≤ a1) (hm : mm.toInt = us.length) (hc : us.length + 1 ≤ 16) (r1 : p2.toInt ≤ 255) :
 CT l Z mn34 jdk_68_method_31_code 2 (some (.object "java/lang/AbstractStringBuilder")) ws (⟨1, 0, 0, 14⟩ : Room) #[(.ref a1), (.int p2)] h0 (Q46 Z a1 p2 cmS b kb mm us h0 n0) := by
 refine MetFree.of_bodySF (plainFor_of_name pn_20) hisR ?_
 intro p e s m args below meth c s₁ Bd hml0 hP hK
 obtain ⟨rfl, hZ, hh⟩ := hP
 have hx := Bd.exec
 have hby := Bd.bytes
 have hml : c.maxLocals = 2 := hml0
 have hown : s.vm.findClass "java/lang/AbstractStringBuilder" = some m.cls := findClass_of_methodNamed Bd.named
 have hnm := (name_of_methodNamed Bd.named Bd.method).1
 have hlocks : meth.locks = false := BodyLoose.notSynchronized Bd
 have X0 : Stand p l e (⟨1, 0, 0, 14⟩ : Room) s m #[(.ref a1), (.int p2)] below meth c s₁ [] 0 0 := Stand.of_body Bd
 have e0 : s₁.heap = h0 := by rw [← hh, Bd.state]; rfl
 have N0 := Fr.nil n0
 show Goes p e below (s₁.setTop (entryFrame m #[(.ref a1), (.int p2)] 2)) (Fin s (Q46 Z a1 p2 cmS b kb mm us h0 n0) (⟨1, 0, 0, 14⟩ : Room).cells (⟨1, 0, 0, 14⟩ : Room).slots)
 refine Goes.of (fun t k => castTop (ef_46 m a1 p2) k) ?_
 have K0 : Keep h0 h0 [a1, b] := Keep.refl _ _
 refine gO (fun t k => XS.aloadN X0.here hx rfl (hb hby d46_0) rfl rfl k) ?_
 refine gO (fun t k => XS.aloadN X0.here hx rfl (hb hby d46_1) rfl rfl k) ?_
 obtain ⟨T100, X100, e100, st100⟩ := getF X0 hx hZ hown (host := "") (Or.inl (wd hw 107 rfl)) Via.refl e0 F_n_a1 (g := (mkF m 2 #[.val (.ref a1), .val (.int p2)] [(.ref a1), (.ref a1)])) rfl rfl (hb hby d46_2)
 refine Goes.of st100 ?_
 refine gO (fun t k => XS.iconst X100.here hx rfl (hb hby d46_5) k) ?_
 refine gO (fun t k => XS.iadd X100.here hx rfl (hb hby d46_6) rfl k) ?_
 show Goes p e below (T100.setTop (mkF m 7 #[.val (.ref a1), .val (.int p2)] [(.int (mm + (1 : Int32))), (.ref a1)])) _
 have e1 : (1 : Int32).toInt = 1 := by decide
 have hs : (mm + 1).toInt = mm.toInt + (1 : Int32).toInt := Jvm.Kit.i32_add (by omega) (by omega)
 obtain ⟨cq101, q101, q101'⟩ := E_a1.cell
 obtain ⟨_, _, ⟨T101, L101, k101, n101⟩, -, X101, ⟨Lc101, hQ101, l101, y101, z101⟩, st101⟩ := X100.privateBack hx (y := mn28) hown (mvT hZ (wd hw 235 rfl)) (mvT hZ (wd hw 236 rfl)) (selSelf (mvT hZ (wd hw 238 rfl)) (Cond.privateMethod_at (mvP hZ (wd hw 237 rfl) (args := #[]))) (mvT hZ (wd hw 236 rfl)) (by decide)) (Cond.privateMethod_at (mvP hZ (wd hw 237 rfl) (args := #[]))) (mvT hZ (wd hw 239 rfl)) (by decide) (backOf (W := 0) (rm41 l Z a0 hw [] a1 (mm + (1 : Int32)) b kb mm us h0 n0 Z0 E_a1 F_w_a1 F_c_a1 F_n_a1 V_b (by omega) (by omega)) hZ (wd hw 239 rfl) (wd hw 57 rfl) (by decide) (by decide)) (g := (mkF m 7 #[.val (.ref a1), .val (.int p2)] [(.int (mm + (1 : Int32))), (.ref a1)])) rfl (by rw [hml]; rfl) (Steps.refl _) (a := a1) (by rw [e100]; exact q101) q101' (argsL := [(.int (mm + (1 : Int32)))]) (rest := []) (lenOf pd_22 rfl) rfl (wr0 rfl rfl) (hb hby d46_7) (fun _ _ => ⟨rfl, e100, (by decide : 0 + 0 ≤ _), (by decide : 0 + 0 ≤ _)⟩)
 dsimp only [Pt.U, Pt.locs, Pt.cells, Pt.slots] at X101 l101 y101 z101 st101 hQ101
 subst l101 y101 z101
 obtain ⟨rfl, N101q, e101⟩ := hQ101
 have N101 := Fr.app N0 N101q
 refine Goes.of (fun t k => st101.trans k) ?_
 refine gO (fun t k => XS.aloadN X101.here hx rfl (hb hby d46_10) rfl rfl k) ?_
 obtain ⟨cq102, kq102, q102a, q102b, q102c⟩ := isOf hZ e101 E_a1
 obtain ⟨_, _, ⟨T102, L102, k102, n102⟩, -, X102, ⟨Lc102, hQ102, l102, y102, z102⟩, st102⟩ := X101.virtualBack hx (y := mn25) (z := mn25) hown (mvT hZ (wd hw 266 rfl)) (mvT hZ (wd hw 110 rfl)) (notFace_of_selects (args := #[]) (mvT hZ (wd hw 112 rfl))) (mvT hZ (wd hw 112 rfl)) (mvT hZ (wd hw 111 rfl)) (by decide) (backOf (W := 0) (rm17 l Z a0 hw [] a1 cmS b kb mm us h0 n0 Z0 O0 SC cs0 E_a1 F_w_a1 F_c_a1 F_n_a1 V_b) hZ (wd hw 113 rfl) (wd hw 57 rfl) (by decide) (by decide)) q102a q102c (g := (mkF m 11 #[.val (.ref a1), .val (.int p2)] [(.ref a1)])) rfl (by rw [hml]; rfl) (Steps.refl _) (argsL := []) (rest := []) (lenOf pd_28 rfl) rfl (wr0 rfl rfl) (hb hby d46_11) (fun _ _ => ⟨rfl, e101, (by decide : 0 + 0 ≤ _), (by decide : 0 + 0 ≤ _)⟩)
 dsimp only [Pt.U, Pt.locs, Pt.cells, Pt.slots] at X102 l102 y102 z102 st102 hQ102
 subst l102 y102 z102
 obtain ⟨rfl, N102q, e102⟩ := hQ102
 have N102 := Fr.app N101 N102q
 refine Goes.of (fun t k => st102.trans k) ?_
 refine gO (fun t k => XS.ifNo X102.here hx rfl (hb hby d46_14) rfl ((if0 _ _).trans (feq (by decide)).1) k) ?_
 refine gO (fun t k => XS.iloadN X102.here hx rfl (hb hby d46_17) rfl k) ?_
 show Goes p e below (T102.setTop (mkF m 18 #[.val (.ref a1), .val (.int p2)] [(.int p2)])) _
 obtain ⟨_, _, ⟨T103, L103, k103, n103⟩, -, X103, ⟨Lc103, hQ103, l103, y103, z103⟩, st103⟩ := Jvm.LawKit.callS X102 hx (y := mn16) hown (mvT hZ (wd hw 267 rfl)) (mvT hZ (wd hw 154 rfl)) (mvT hZ (wd hw 155 rfl)) (mvT hZ (wd hw 156 rfl)) (by decide) (backOf (W := 0) (rm26 l Z a0 hw [] p2  h0 n0 Z0 r1) hZ (wd hw 156 rfl) (wd hw 155 rfl) (by decide) (by decide)) (g := (mkF m 18 #[.val (.ref a1), .val (.int p2)] [(.int p2)])) rfl (by rw [hml]; rfl) (argsL := [(.int p2)]) (rest := []) (lenOf pd_16 rfl) rfl (wr0 rfl rfl) (hb hby d46_18) (fun _ _ => ⟨rfl, e102, (by decide : 0 + 0 ≤ _), (by decide : 0 + 0 ≤ _)⟩)
 dsimp only [Pt.U, Pt.locs, Pt.cells, Pt.slots] at X103 l103 y103 z103 st103 hQ103
 subst l103 y103 z103
 obtain ⟨rfl, N103q, e103⟩ := hQ103
 have N103 := Fr.app N102 N103q
 refine Goes.of st103 ?_
 refine gO (fun t k => XS.ifNo X103.here hx rfl (hb hby d46_21) rfl ((if0 _ _).trans (feq (by decide)).1) k) ?_
 refine gO (fun t k => XS.aloadN X103.here hx rfl (hb hby d46_24) rfl rfl k) ?_
 obtain ⟨T104, X104, e104, st104⟩ := getF X103 hx hZ hown (host := "") (Or.inl (wd hw 63 rfl)) Via.refl e103 F_w_a1 (g := (mkF m 25 #[.val (.ref a1), .val (.int p2)] [(.ref a1)])) rfl rfl (hb hby d46_25)
 refine Goes.of st104 ?_
 refine gO (fun t k => XS.aloadN X104.here hx rfl (hb hby d46_28) rfl rfl k) ?_
 refine gO (fun t k => XS.dup X104.here hx rfl (hb hby d46_29) rfl rfl k) ?_
 show Goes p e below (T104.setTop (mkF m 30 #[.val (.ref a1), .val (.int p2)] [(.ref a1), (.ref a1), (.ref b)])) _
 obtain ⟨T105, X105, e105, st105⟩ := getF X104 hx hZ hown (host := "") (Or.inl (wd hw 107 rfl)) Via.refl e104 F_n_a1 (g := (mkF m 30 #[.val (.ref a1), .val (.int p2)] [(.ref a1), (.ref a1), (.ref b)])) rfl rfl (hb hby d46_30)
 refine Goes.of st105 ?_
 show Goes p e below (T105.setTop (mkF m 33 #[.val (.ref a1), .val (.int p2)] [(.int mm), (.ref a1), (.ref b)])) _
 refine gO (fun t k => XS.dupX1 X105.here hx rfl (hb hby d46_33) rfl rfl rfl k) ?_
 refine gO (fun t k => XS.iconst X105.here hx rfl (hb hby d46_34) k) ?_
 refine gO (fun t k => XS.iadd X105.here hx rfl (hb hby d46_35) rfl k) ?_
 obtain ⟨T106, h106, X106, e106, W106, st106⟩ := putF X105 hx hZ hown (host := "") (Or.inl (wd hw 107 rfl)) Via.refl e105 F_n_a1 E_a1 (Or.inl (wd hw 108 rfl)) (wd hw 48 rfl) (ty := .int) (by decide) rfl rfl (g := (mkF m 36 #[.val (.ref a1), .val (.int p2)] [(.int (mm + (1 : Int32))), (.ref a1), (.int mm), (.ref b)])) rfl rfl (hb hby d46_36)
 have f107 := F_n_a1.same W106
 have K108 : Keep h0 h106 [a1, b] := K0.wr W106 (Or.inl (List.mem_of_getElem? (i := 0) rfl))
 have q109 : b ≠ a1 := Ne.symm (Exa.neArv E_a1 V_b (wd hw 48 rfl))
 have f112 := F_w_a1.other W106 (Or.inr (slot_ne (Or.inl (wd hw 64 rfl)) (Or.inl (wd hw 108 rfl)) (by decide) (t := (.array .byte)) (t' := .int) (by decide) (by decide)))
 have f113 := F_c_a1.other W106 (Or.inr (slot_ne (Or.inl (wd hw 66 rfl)) (Or.inl (wd hw 108 rfl)) (by decide) (t := .byte) (t' := .int) (by decide) (by decide)))
 have f115 := E_a1.wr W106
 have f116 := V_b.other W106 q109
 have N106 := Fr.snoc X106 N103 G_a1
 refine Goes.of st106 ?_
 refine gO (fun t k => XS.iloadN X106.here hx rfl (hb hby d46_39) rfl k) ?_
 show Goes p e below (T106.setTop (mkF m 40 #[.val (.ref a1), .val (.int p2)] [(.int p2), (.int mm), (.ref b)])) _
 refine gO (fun t k => XS.i2b X106.here hx rfl (hb hby d46_40) rfl k) ?_
 have Vc117 := f116
 obtain ⟨clc117, Arc117, qc117, Sc117, Nc117, Hc117, Gc117⟩ := Vc117
 have hin118j : (mm).toNatClampNeg = (own_vb us).length := (own_cl hm).trans (own_lvb us).symm
 have hin118 : ¬ (mm < 0 ∨ clc117.slots.size ≤ (mm).toNatClampNeg) := inb_of Sc117 ⟨own_nn hm, Int32.lt_iff_toInt_lt.mpr (by have e : (16 : Int32).toInt = 16 := (by decide); omega)⟩
 obtain ⟨T119, h119, X119, e119, W119, st119⟩ := stB X106 hx hZ e106 Arc117 (j := mm) hin118 (g := (mkF m 41 #[.val (.ref a1), .val (.int p2)] [(.int (p2.toInt8.toInt32)), (.int mm), (.ref b)])) rfl rfl (hb hby d46_41)
 have V119 := own_push Arc117 qc117 Sc117 Nc117 Hc117 Gc117 (fits_nar_byte _) W119 hin118j
 have V119 : Arv Z h119 b kb .byte (16 : Int32) (own_vb (us ++ [p2])) (.int (0 : Int32)) := by rw [Int8.toInt8_toInt32] at V119; rw [← own_vbb]; exact V119
 have K120 : Keep h0 h119 [a1, b] := K108.wr W119 (Or.inl (List.mem_of_getElem? (i := 1) rfl))
 have f123 := f112.other W119 (Or.inl (Ne.symm q109))
 have f124 := f113.other W119 (Or.inl (Ne.symm q109))
 have f125 := f107.other W119 (Or.inl (Ne.symm q109))
 have f126 := f115.wr W119
 have N119 := Fr.snoc X119 N106 G_b
 refine Goes.of st119 ?_
 refine gO (fun t k => XS.goto X119.here hx rfl (pc0 := 42) (pc' := 75) rfl (hb hby d46_42) (by decide) (by decide) k) ?_
 refine gO (fun t k => XS.aloadN X119.here hx rfl (hb hby d46_75) rfl rfl k) ?_
 show Goes p e below (T119.setTop (mkF m 76 #[.val (.ref a1), .val (.int p2)] [(.ref a1)])) _
 have eh : T119.heap = h119 := e119
 exact Goes.retA X119 hx (by rfl) Bd.returns (by rfl) hlocks (hb hby d46_76) (⟨mm + 1, rfl, N119, by rw [eh]; exact K120, by rw [hs, List.length_append]; simp; omega, by rw [eh]; exact f126, by rw [eh]; exact f123, by rw [eh]; exact f124, by rw [eh]; exact f125, by rw [eh]; exact V119⟩) (by decide) (by decide)
theorem ef_45 (m : MethodId) (x0 : Addr) (x1 : Int32) : entryFrame m #[(.ref x0), (.int x1)] 2 = mkF m 0 #[.val (.ref x0), .val (.int x1)] [] := by first | (simp [entryFrame, mkF, argsToLocals, Value.category]; done) | rfl
def Q45 (Z : State) (a1 : Addr) (p2 cmS : Int32) (b : Addr) (kb : ClassId) (mm : Int32) (us : List Int32) (h0 : Heap) (n0 : Nat) (v : Option Value) (h : Heap) (L : List Loc) : Prop := ∃ m' : Int32, v = some (.ref a1) ∧ Fr n0 L ∧ Keep h0 h [a1, b] ∧ m'.toInt = (us ++ [p2]).length ∧ Exa Z h a1 "java/lang/StringBuilder" ∧ Fl7 Z h a1 (.ref b) ∧ Fl8 Z h a1 (.int 0) ∧ Fl9 Z h a1 (.int m') ∧ Arv Z h b kb .byte (16 : Int32) (own_vb (us ++ [p2])) (.int (0 : Int32))
theorem rm45 (l : Launch) (Z : State) (a0 : Array Value) (hw : ∀ d ∈ tables_1, d.before a0 Z = true) (ws : List Jvm.Cond) (a1 : Addr) (p2 cmS : Int32) (b : Addr) (kb : ClassId) (mm : Int32) (us : List Int32) (h0 : Heap) (n0 : Nat) (Z0 : n0 ≤ h0.size) (O0 : Old Z n0 h0) (SC : Sta Z Z.heap "java/lang/String" "COMPACT_STRINGS" "Z" (.int cmS)) (cs0 : cmS ≠ 0) (E_a1 : Exa Z h0 a1 "java/lang/StringBuilder") (F_w_a1 : Fl7 Z h0 a1 (.ref b)) (F_c_a1 : Fl8 Z h0 a1 (.int 0)) (F_n_a1 : Fl9 Z h0 a1 (.int mm)) (V_b : Arv Z h0 b kb .byte (16 : Int32) (own_vb (us)) (.int (0 : Int32))) (G_b : n0 ≤ b) (G_a1 : n0 ≤ a1) (hm : mm.toInt = us.length) (hc : us.length + 1 ≤ 16) (r1 : p2.toInt ≤ 255) :
 CT l Z mn35 jdk_67_method_14_code 2 (some (.object "java/lang/StringBuilder")) ws (⟨2, 0, 0, 27⟩ : Room) #[(.ref a1), (.int p2)] h0 (Q45 Z a1 p2 cmS b kb mm us h0 n0) := by
 refine MetFree.of_bodySF (plainFor_of_name pn_21) hisR ?_
 intro p e s m args below meth c s₁ Bd hml0 hP hK
 obtain ⟨rfl, hZ, hh⟩ := hP
 have hx := Bd.exec
 have hby := Bd.bytes
 have hml : c.maxLocals = 2 := hml0
 have hown : s.vm.findClass "java/lang/StringBuilder" = some m.cls := findClass_of_methodNamed Bd.named
 have hnm := (name_of_methodNamed Bd.named Bd.method).1
 have hlocks : meth.locks = false := BodyLoose.notSynchronized Bd
 have X0 : Stand p l e (⟨2, 0, 0, 27⟩ : Room) s m #[(.ref a1), (.int p2)] below meth c s₁ [] 0 0 := Stand.of_body Bd
 have e0 : s₁.heap = h0 := by rw [← hh, Bd.state]; rfl
 have N0 := Fr.nil n0
 show Goes p e below (s₁.setTop (entryFrame m #[(.ref a1), (.int p2)] 2)) (Fin s (Q45 Z a1 p2 cmS b kb mm us h0 n0) (⟨2, 0, 0, 27⟩ : Room).cells (⟨2, 0, 0, 27⟩ : Room).slots)
 refine Goes.of (fun t k => castTop (ef_45 m a1 p2) k) ?_
 have K0 : Keep h0 h0 [a1, b] := Keep.refl _ _
 refine gO (fun t k => XS.aloadN X0.here hx rfl (hb hby d45_0) rfl rfl k) ?_
 refine gO (fun t k => XS.iloadN X0.here hx rfl (hb hby d45_1) rfl k) ?_
 obtain ⟨_, _, ⟨T100, L100, k100, n100⟩, -, X100, ⟨Lc100, hQ100, l100, y100, z100⟩, st100⟩ := Jvm.RoadKit.superBack X0 hx hZ (y := mn34) hown (wd hw 262 rfl) (sameM (y0 := mn24) rfl (wd hw 96 rfl) (wd hw 263 rfl) (by decide)) (wd hw 263 rfl) (wd hw 105 rfl) (by decide) (backOf (W := 0) (rm46 l Z a0 hw [] a1 p2 cmS b kb mm us h0 n0 Z0 O0 SC cs0 E_a1 F_w_a1 F_c_a1 F_n_a1 V_b G_b G_a1 hm hc r1) hZ (wd hw 265 rfl) (wd hw 57 rfl) (by decide) (by decide)) e0 (a := a1) (Ins.self E_a1) (g := (mkF m 2 #[.val (.ref a1), .val (.int p2)] [(.int p2), (.ref a1)])) rfl (by rw [hml]; rfl) (wd hw 265 rfl) (argsL := [(.int p2)]) (rest := []) (lenOf pd_29 rfl) rfl (wr0 rfl rfl) (hb hby d45_2) (fun _ _ => ⟨rfl, e0, (by decide : 0 + 0 ≤ _), (by decide : 0 + 0 ≤ _)⟩)
 dsimp only [Pt.U, Pt.locs, Pt.cells, Pt.slots] at X100 l100 y100 z100 st100 hQ100
 subst l100 y100 z100
 obtain ⟨m100, rfl, N100q, K100, hl100, E100, F100_w, F100_c, F100_n, V100⟩ := hQ100
 have N100 := Fr.app N0 N100q
 have K101 : Keep h0 T100.heap [a1, b] := K0.trans K100 (allS (Or.inl (List.mem_of_getElem? (i := 0) rfl)) (allS (Or.inl (List.mem_of_getElem? (i := 1) rfl)) all0))
 refine Goes.of (fun t k => st100.trans k) ?_
 refine gO (fun t k => XS.pop X100.here hx rfl (hb hby d45_5) rfl rfl k) ?_
 refine gO (fun t k => XS.aloadN X100.here hx rfl (hb hby d45_6) rfl rfl k) ?_
 show Goes p e below (T100.setTop (mkF m 7 #[.val (.ref a1), .val (.int p2)] [(.ref a1)])) _
 have eh : T100.heap = T100.heap := rfl
 exact Goes.retA X100 hx (by rfl) Bd.returns (by rfl) hlocks (hb hby d45_7) (⟨_, rfl, N100, by rw [eh]; exact K101, hl100, by rw [eh]; exact E100, by rw [eh]; exact F100_w, by rw [eh]; exact F100_c, by rw [eh]; exact F100_n, by rw [eh]; exact V100⟩) (by decide) (by decide)
theorem ef_21 (m : MethodId) (x0 x1 : Int32) : entryFrame m #[(.int x0), (.int x1)] 2 = mkF m 0 #[.val (.int x0), .val (.int x1)] [] := by first | (simp [entryFrame, mkF, argsToLocals, Value.category]; done) | rfl
def Q21 (Z : State) (p1 p2 : Int32) (h0 : Heap) (n0 : Nat) (v : Option Value) (h : Heap) (L : List Loc) : Prop := v = some (.int p2) ∧ Fr n0 L ∧ h = h0
theorem rm21 (l : Launch) (Z : State) (a0 : Array Value) (hw : ∀ d ∈ tables_1, d.before a0 Z = true) (ws : List Jvm.Cond) (p1 p2 : Int32) (h0 : Heap) (n0 : Nat) (Z0 : n0 ≤ h0.size) (c0 : p2 < p1) :
 CT l Z mn36 jdk_29_method_69_code 2 (some .int) ws (⟨0, 0, 0, 0⟩ : Room) #[(.int p1), (.int p2)] h0 (Q21 Z p1 p2 h0 n0) := by
 refine MetFree.of_bodySF (Jvm.Free.JP.mathPlain rfl (by decide +kernel)) hisR ?_
 intro p e s m args below meth c s₁ Bd hml0 hP hK
 obtain ⟨rfl, hZ, hh⟩ := hP
 have hx := Bd.exec
 have hby := Bd.bytes
 have hml : c.maxLocals = 2 := hml0
 have hown : s.vm.findClass "java/lang/Math" = some m.cls := findClass_of_methodNamed Bd.named
 have hnm := (name_of_methodNamed Bd.named Bd.method).1
 have hlocks : meth.locks = false := BodyLoose.notSynchronized Bd
 have X0 : Stand p l e (⟨0, 0, 0, 0⟩ : Room) s m #[(.int p1), (.int p2)] below meth c s₁ [] 0 0 := Stand.of_body Bd
 have e0 : s₁.heap = h0 := by rw [← hh, Bd.state]; rfl
 have N0 := Fr.nil n0
 show Goes p e below (s₁.setTop (entryFrame m #[(.int p1), (.int p2)] 2)) (Fin s (Q21 Z p1 p2 h0 n0) (⟨0, 0, 0, 0⟩ : Room).cells (⟨0, 0, 0, 0⟩ : Room).slots)
 refine Goes.of (fun t k => castTop (ef_21 m p1 p2) k) ?_
 refine gO (fun t k => XS.iloadN X0.here hx rfl (hb hby d21_0) rfl k) ?_
 refine gO (fun t k => XS.iloadN X0.here hx rfl (hb hby d21_1) rfl k) ?_
 have hd2_100 : p2 < p1 := c0
 refine gO (fun t k => XS.icmpYes X0.here hx rfl (pc0 := 2) (pc' := 9) rfl (hb hby d21_2) rfl (tlt hd2_100).2.2.1 (by decide) (by decide) k) ?_
 refine gO (fun t k => XS.iloadN X0.here hx rfl (hb hby d21_9) rfl k) ?_
 show Goes p e below (s₁.setTop (mkF m 10 #[.val (.int p1), .val (.int p2)] [(.int p2)])) _
 exact Goes.retI X0 hx Bd.returns hlocks (hb hby d21_10) (⟨rfl, N0, e0⟩) (by decide) (by decide)
theorem ef_20 (m : MethodId) (x0 x1 : Int32) : entryFrame m #[(.int x0), (.int x1)] 2 = mkF m 0 #[.val (.int x0), .val (.int x1)] [] := by first | (simp [entryFrame, mkF, argsToLocals, Value.category]; done) | rfl
def Q20 (Z : State) (p1 p2 : Int32) (h0 : Heap) (n0 : Nat) (v : Option Value) (h : Heap) (L : List Loc) : Prop := v = none ∧ Fr n0 L ∧ h = h0
theorem rm20 (l : Launch) (Z : State) (a0 : Array Value) (hw : ∀ d ∈ tables_1, d.before a0 Z = true) (ws : List Jvm.Cond) (p1 p2 : Int32) (h0 : Heap) (n0 : Nat) (Z0 : n0 ≤ h0.size) (c0 : ¬ (p2 < p1)) :
 CT l Z mn37 jdk_65_method_131_code 2 none ws (⟨0, 0, 0, 0⟩ : Room) #[(.int p1), (.int p2)] h0 (Q20 Z p1 p2 h0 n0) := by
 refine MetFree.of_bodySF (plainFor_of_name pn_30) hisR ?_
 intro p e s m args below meth c s₁ Bd hml0 hP hK
 obtain ⟨rfl, hZ, hh⟩ := hP
 have hx := Bd.exec
 have hby := Bd.bytes
 have hml : c.maxLocals = 2 := hml0
 have hown : s.vm.findClass "java/util/Arrays" = some m.cls := findClass_of_methodNamed Bd.named
 have hnm := (name_of_methodNamed Bd.named Bd.method).1
 have hlocks : meth.locks = false := BodyLoose.notSynchronized Bd
 have X0 : Stand p l e (⟨0, 0, 0, 0⟩ : Room) s m #[(.int p1), (.int p2)] below meth c s₁ [] 0 0 := Stand.of_body Bd
 have e0 : s₁.heap = h0 := by rw [← hh, Bd.state]; rfl
 have N0 := Fr.nil n0
 show Goes p e below (s₁.setTop (entryFrame m #[(.int p1), (.int p2)] 2)) (Fin s (Q20 Z p1 p2 h0 n0) (⟨0, 0, 0, 0⟩ : Room).cells (⟨0, 0, 0, 0⟩ : Room).slots)
 refine Goes.of (fun t k => castTop (ef_20 m p1 p2) k) ?_
 refine gO (fun t k => XS.iloadN X0.here hx rfl (hb hby d20_0) rfl k) ?_
 refine gO (fun t k => XS.iloadN X0.here hx rfl (hb hby d20_1) rfl k) ?_
 have hd2_100 : ¬ (p2 < p1) := c0
 refine gO (fun t k => XS.icmpYes X0.here hx rfl (pc0 := 2) (pc' := 37) rfl (hb hby d20_2) rfl (flt hd2_100).2.1 (by decide) (by decide) k) ?_
 show Goes p e below (s₁.setTop (mkF m 37 #[.val (.int p1), .val (.int p2)] [])) _
 exact Goes.retV X0 hx Bd.returns hlocks (hb hby d20_37) (⟨rfl, N0, e0⟩) (by decide) (by decide)
theorem ef_19 (m : MethodId) (x0 : Addr) (x1 x2 : Int32) : entryFrame m #[(.ref x0), (.int x1), (.int x2)] 5 = mkF m 0 #[.val (.ref x0), .val (.int x1), .val (.int x2), .unset, .unset] [] := by first | (simp [entryFrame, mkF, argsToLocals, Value.category]; done) | rfl
def Q19 (Z : State) (a1 : Addr) (p3 : Int32) (kb : ClassId) (us : List Int32) (h0 : Heap) (n0 : Nat) (v : Option Value) (h : Heap) (L : List Loc) : Prop := ∃ (b : Addr) (k : ClassId), v = some (.ref b) ∧ Fr n0 L ∧ Keep h0 h [] ∧ h0.size ≤ b ∧ Arv Z h b k .byte p3 (own_vb (us)) (.int (0 : Int32))
theorem rm19 (l : Launch) (Z : State) (a0 : Array Value) (hw : ∀ d ∈ tables_1, d.before a0 Z = true) (ws : List Jvm.Cond) (a1 : Addr) (p3 : Int32) (kb : ClassId) (us : List Int32) (h0 : Heap) (n0 : Nat) (Z0 : n0 ≤ h0.size) (A : Arv Z h0 a1 kb .byte (16 : Int32) (own_vb (us)) (.int (0 : Int32))) (hm : p3.toInt = us.length) (hc : us.length ≤ 12) :
 CT l Z mn38 jdk_65_method_133_code 5 (some (.array .byte)) ws (⟨1, 1, 12, 40⟩ : Room) #[(.ref a1), (.int 0), (.int p3)] h0 (Q19 Z a1 p3 kb us h0 n0) := by
 refine MetFree.of_bodySF (plainFor_of_name pn_30) hisR ?_
 intro p e s m args below meth c s₁ Bd hml0 hP hK
 obtain ⟨rfl, hZ, hh⟩ := hP
 have hx := Bd.exec
 have hby := Bd.bytes
 have hml : c.maxLocals = 5 := hml0
 have hown : s.vm.findClass "java/util/Arrays" = some m.cls := findClass_of_methodNamed Bd.named
 have hnm := (name_of_methodNamed Bd.named Bd.method).1
 have hlocks : meth.locks = false := BodyLoose.notSynchronized Bd
 have X0 : Stand p l e (⟨1, 1, 12, 40⟩ : Room) s m #[(.ref a1), (.int 0), (.int p3)] below meth c s₁ [] 0 0 := Stand.of_body Bd
 have e0 : s₁.heap = h0 := by rw [← hh, Bd.state]; rfl
 have N0 := Fr.nil n0
 show Goes p e below (s₁.setTop (entryFrame m #[(.ref a1), (.int 0), (.int p3)] 5)) (Fin s (Q19 Z a1 p3 kb us h0 n0) (⟨1, 1, 12, 40⟩ : Room).cells (⟨1, 1, 12, 40⟩ : Room).slots)
 refine Goes.of (fun t k => castTop (ef_19 m a1 (0 : Int32) p3) k) ?_
 have K0 : Keep h0 h0 [] := Keep.refl _ _
 refine gO (fun t k => XS.iloadN X0.here hx rfl (hb hby d19_0) rfl k) ?_
 refine gO (fun t k => XS.iloadN X0.here hx rfl (hb hby d19_1) rfl k) ?_
 obtain ⟨_, _, ⟨T100, L100, k100, n100⟩, -, X100, ⟨Lc100, hQ100, l100, y100, z100⟩, st100⟩ := Jvm.LawKit.callS X0 hx (y := mn37) hown (mvT hZ (wd hw 123 rfl)) (mvT hZ (wd hw 124 rfl)) (mvT hZ (wd hw 118 rfl)) (mvT hZ (wd hw 125 rfl)) (by decide) (backOf (W := 0) (rm20 l Z a0 hw [] (0 : Int32) p3  h0 n0 Z0 (own_nn hm)) hZ (wd hw 125 rfl) (wd hw 118 rfl) (by decide) (by decide)) (g := (mkF m 2 #[.val (.ref a1), .val (.int 0), .val (.int p3), .unset, .unset] [(.int p3), (.int 0)])) rfl (by rw [hml]; rfl) (argsL := [(.int 0), (.int p3)]) (rest := []) (lenOf pd_31 rfl) rfl (wr0 rfl rfl) (hb hby d19_2) (fun _ _ => ⟨rfl, e0, (by decide : 0 + 0 ≤ _), (by decide : 0 + 0 ≤ _)⟩)
 dsimp only [Pt.U, Pt.locs, Pt.cells, Pt.slots] at X100 l100 y100 z100 st100 hQ100
 subst l100 y100 z100
 obtain ⟨rfl, N100q, e100⟩ := hQ100
 have N100 := Fr.app N0 N100q
 refine Goes.of st100 ?_
 refine gO (fun t k => XS.iloadN X100.here hx rfl (hb hby d19_5) rfl k) ?_
 refine gO (fun t k => XS.iloadN X100.here hx rfl (hb hby d19_6) rfl k) ?_
 show Goes p e below (T100.setTop (mkF m 7 #[.val (.ref a1), .val (.int 0), .val (.int p3), .unset, .unset] [(.int 0), (.int p3)])) _
 refine gO (fun t k => XS.isub X100.here hx rfl (hb hby d19_7) rfl k) ?_
 refine gO (fun t k => XS.istoreN X100.here hx rfl (hb hby d19_8) rfl (l' := #[.val (.ref a1), .val (.int 0), .val (.int p3), .val (.int (p3 - (0 : Int32))), .unset]) rfl k) ?_
 refine gO (fun t k => XS.iloadN X100.here hx rfl (hb hby d19_9) rfl k) ?_
 show Goes p e below (T100.setTop (mkF m 10 #[.val (.ref a1), .val (.int 0), .val (.int p3), .val (.int (p3 - (0 : Int32))), .unset] [(.int (p3 - (0 : Int32)))])) _
 rw [Int32.sub_zero]
 show Goes p e below (T100.setTop (mkF m 10 #[.val (.ref a1), .val (.int 0), .val (.int p3), .val (.int p3), .unset] [(.int p3)])) _
 obtain ⟨T101, h101, k101, X101, e101, E101, A101, st101⟩ := newP X100 hx hZ (wd hw 62 rfl) e100 (g := (mkF m 10 #[.val (.ref a1), .val (.int 0), .val (.int p3), .val (.int p3), .unset] [(.int p3)])) rfl (hb hby d19_10) rfl (own_nn hm) (cap := 12) (by rw [own_cl hm]; exact hc) (by decide) (by decide) (by decide)
 obtain ⟨b101, g101⟩ : ∃ z, z = h0.size := ⟨_, rfl⟩
 rw [← g101] at A101 st101
 have g102 : n0 ≤ b101 := Nat.le_trans Z0 (Nat.le_of_eq g101.symm)
 have z103 := Nat.le_trans Z0 E101.1
 have z104 : h0.size ≤ b101 := Nat.le_trans K0.1 (Nat.le_of_eq g101.symm)
 have f106 := A.ext E101
 have K107 : Keep h0 h101 [] := K0.ext E101
 have V101 : Arv Z h101 b101 k101 .byte p3 (own_vb []) (.int (0 : Int32)) := Arv.new A101 (own_nn hm)
 refine Goes.of st101 ?_
 refine gO (fun t k => XS.astore X101.here hx rfl (hb hby d19_12) rfl rfl (l' := #[.val (.ref a1), .val (.int 0), .val (.int p3), .val (.int p3), .val (.ref b101)]) rfl k) ?_
 refine gO (fun t k => XS.aloadN X101.here hx rfl (hb hby d19_14) rfl rfl k) ?_
 refine gO (fun t k => XS.iloadN X101.here hx rfl (hb hby d19_15) rfl k) ?_
 refine gO (fun t k => XS.aload X101.here hx rfl (hb hby d19_16) rfl rfl k) ?_
 show Goes p e below (T101.setTop (mkF m 18 #[.val (.ref a1), .val (.int 0), .val (.int p3), .val (.int p3), .val (.ref b101)] [(.ref b101), (.int 0), (.ref a1)])) _
 refine gO (fun t k => XS.iconst X101.here hx rfl (hb hby d19_18) k) ?_
 refine gO (fun t k => XS.aloadN X101.here hx rfl (hb hby d19_19) rfl rfl k) ?_
 have Vc108 := f106
 obtain ⟨clc108, Arc108, qc108, Sc108, Nc108, Hc108, Gc108⟩ := Vc108
 refine Goes.of (X101.arraylength hx (by rw [e101]; exact Arc108.1) (State.isArrayOf_alike hZ.alike Arc108.2.1) (g := (mkF m 20 #[.val (.ref a1), .val (.int 0), .val (.int p3), .val (.int p3), .val (.ref b101)] [(.ref a1), (.int 0), (.ref b101), (.int 0), (.ref a1)])) rfl rfl (hb hby d19_20)) ?_
 rw [len_of Sc108 Nc108]
 refine gO (fun t k => XS.iloadN X101.here hx rfl (hb hby d19_21) rfl k) ?_
 refine gO (fun t k => XS.isub X101.here hx rfl (hb hby d19_22) rfl k) ?_
 refine gO (fun t k => XS.iloadN X101.here hx rfl (hb hby d19_23) rfl k) ?_
 show Goes p e below (T101.setTop (mkF m 24 #[.val (.ref a1), .val (.int 0), .val (.int p3), .val (.int p3), .val (.ref b101)] [(.int p3), (.int ((16 : Int32) - (0 : Int32))), (.int 0), (.ref b101), (.int 0), (.ref a1)])) _
 have hlt : p3 < ((16 : Int32) - (0 : Int32)) := Int32.lt_iff_toInt_lt.mpr (by have e : (((16 : Int32) - (0 : Int32))).toInt = 16 := (by decide); omega)
 obtain ⟨_, _, ⟨T109, L109, k109, n109⟩, -, X109, ⟨Lc109, hQ109, l109, y109, z109⟩, st109⟩ := Jvm.LawKit.callS X101 hx (y := mn36) hown (mvT hZ (wd hw 126 rfl)) (mvT hZ (wd hw 127 rfl)) (mvT hZ (wd hw 128 rfl)) (mvT hZ (wd hw 129 rfl)) (by decide) (backOf (W := 4) (rm21 l Z a0 hw [] ((16 : Int32) - (0 : Int32)) p3  h101 n0 z103 hlt) hZ (wd hw 129 rfl) (wd hw 128 rfl) (by decide) (by decide)) (g := (mkF m 24 #[.val (.ref a1), .val (.int 0), .val (.int p3), .val (.int p3), .val (.ref b101)] [(.int p3), (.int ((16 : Int32) - (0 : Int32))), (.int 0), (.ref b101), (.int 0), (.ref a1)])) rfl (by rw [hml]; rfl) (argsL := [(.int ((16 : Int32) - (0 : Int32))), (.int p3)]) (rest := [(.int 0), (.ref b101), (.int 0), (.ref a1)]) (lenOf pd_5 rfl) rfl (wr0 rfl rfl) (hb hby d19_24) (fun _ _ => ⟨rfl, e101, (by decide : 1 + 0 ≤ _), (by decide : 12 + 0 ≤ _)⟩)
 dsimp only [Pt.U, Pt.locs, Pt.cells, Pt.slots] at X109 l109 y109 z109 st109 hQ109
 subst l109 y109 z109
 obtain ⟨rfl, N109q, e109⟩ := hQ109
 have N109 := Fr.app N100 N109q
 refine Goes.of st109 ?_
 have hz0 : (0 : Int32).toInt = (([] : List Int32).length : Nat) := by decide
 have B110 := Arv.pad (vs' := (own_vb []) ++ List.replicate ((own_vb us)).length (.int (0 : Int32))) V101 (own_pad (own_vb []) _ _)
 obtain ⟨T111, h111, L111, X111, e111, N111, K111, V111, st111⟩ := cpA X109 hx hZ hown (wd hw 130 rfl) (wd hw 133 rfl) (wd hw 131 rfl) (wd hw 132 rfl) e109 f106 B110 (sp := 0) (dp := 0) (nn := p3) (us := (own_vb us)) (Or.inl ⟨rfl, rfl⟩) (by decide) (by decide) (own_nn hm) (by have e : (0 : Int32).toNatClampNeg = 0 := (by decide); have e2 : (16 : Int32).toNatClampNeg = 16 := (by decide); rw [own_cl hm, e, e2]; omega) (by have e : (0 : Int32).toNatClampNeg = 0 := (by decide); omega) (own_us hm) (by have e : (0 : Int32).toNatClampNeg = 0 := (by decide); rw [own_cl hm, e]; simp [own_lvb]) N109 g102 (g := (mkF m 27 #[.val (.ref a1), .val (.int 0), .val (.int p3), .val (.int p3), .val (.ref b101)] [(.int p3), (.int 0), (.ref b101), (.int 0), (.ref a1)])) rfl (by rw [hml]; rfl) rfl (hb hby d19_27) (by decide) (W := 0) (by show 2 * 0 + _ ≤ _; exact Nat.le_of_eq rfl) (by decide)
 have V111v : Arv Z h111 b101 k101 .byte p3 (own_vb us) (.int (0 : Int32)) := by have q := own_fin hz0 hm; rw [List.nil_append] at q; rw [← q]; exact V111
 have K112 : Keep h0 h111 [] := K107.trans K111 (allS (Or.inr z104) all0)
 refine Goes.of st111 ?_
 refine gO (fun t k => XS.aload X111.here hx rfl (hb hby d19_30) rfl rfl k) ?_
 show Goes p e below (T111.setTop (mkF m 32 #[.val (.ref a1), .val (.int 0), .val (.int p3), .val (.int p3), .val (.ref b101)] [(.ref b101)])) _
 have eh : T111.heap = h111 := e111
 exact Goes.retA X111 hx (by rfl) Bd.returns (by rfl) hlocks (hb hby d19_32) (⟨b101, _, rfl, N111, by rw [eh]; exact K112, z104, by rw [eh]; exact V111v⟩) (by decide) (by decide)
theorem ef_18 (m : MethodId) (x0 : Addr) (x1 x2 : Int32) : entryFrame m #[(.ref x0), (.int x1), (.int x2)] 3 = mkF m 0 #[.val (.ref x0), .val (.int x1), .val (.int x2)] [] := by first | (simp [entryFrame, mkF, argsToLocals, Value.category]; done) | rfl
def Q18 (Z : State) (a1 : Addr) (p3 : Int32) (kb : ClassId) (us : List Int32) (h0 : Heap) (n0 : Nat) (v : Option Value) (h : Heap) (L : List Loc) : Prop := ∃ (b : Addr) (k : ClassId), v = some (.ref b) ∧ Fr n0 L ∧ Keep h0 h [] ∧ h0.size ≤ b ∧ Arv Z h b k .byte p3 (own_vb (us)) (.int (0 : Int32))
theorem rm18 (l : Launch) (Z : State) (a0 : Array Value) (hw : ∀ d ∈ tables_1, d.before a0 Z = true) (ws : List Jvm.Cond) (a1 : Addr) (p3 : Int32) (kb : ClassId) (us : List Int32) (h0 : Heap) (n0 : Nat) (Z0 : n0 ≤ h0.size) (A : Arv Z h0 a1 kb .byte (16 : Int32) (own_vb (us)) (.int (0 : Int32))) (hm : p3.toInt = us.length) (hc : us.length ≤ 12) :
 CT l Z mn39 jdk_65_method_132_code 3 (some (.array .byte)) ws (⟨2, 1, 12, 56⟩ : Room) #[(.ref a1), (.int 0), (.int p3)] h0 (Q18 Z a1 p3 kb us h0 n0) := by
 refine MetFree.of_bodySF (plainFor_of_name pn_30) hisR ?_
 intro p e s m args below meth c s₁ Bd hml0 hP hK
 obtain ⟨rfl, hZ, hh⟩ := hP
 have hx := Bd.exec
 have hby := Bd.bytes
 have hml : c.maxLocals = 3 := hml0
 have hown : s.vm.findClass "java/util/Arrays" = some m.cls := findClass_of_methodNamed Bd.named
 have hnm := (name_of_methodNamed Bd.named Bd.method).1
 have hlocks : meth.locks = false := BodyLoose.notSynchronized Bd
 have X0 : Stand p l e (⟨2, 1, 12, 56⟩ : Room) s m #[(.ref a1), (.int 0), (.int p3)] below meth c s₁ [] 0 0 := Stand.of_body Bd
 have e0 : s₁.heap = h0 := by rw [← hh, Bd.state]; rfl
 have N0 := Fr.nil n0
 show Goes p e below (s₁.setTop (entryFrame m #[(.ref a1), (.int 0), (.int p3)] 3)) (Fin s (Q18 Z a1 p3 kb us h0 n0) (⟨2, 1, 12, 56⟩ : Room).cells (⟨2, 1, 12, 56⟩ : Room).slots)
 refine Goes.of (fun t k => castTop (ef_18 m a1 (0 : Int32) p3) k) ?_
 have K0 : Keep h0 h0 [] := Keep.refl _ _
 refine gO (fun t k => XS.iloadN X0.here hx rfl (hb hby d18_0) rfl k) ?_
 refine gO (fun t k => XS.ifNo X0.here hx rfl (hb hby d18_1) rfl ((if0 _ _).trans (teq (by decide)).2) k) ?_
 refine gO (fun t k => XS.iloadN X0.here hx rfl (hb hby d18_4) rfl k) ?_
 refine gO (fun t k => XS.aloadN X0.here hx rfl (hb hby d18_5) rfl rfl k) ?_
 show Goes p e below (s₁.setTop (mkF m 6 #[.val (.ref a1), .val (.int 0), .val (.int p3)] [(.ref a1), (.int p3)])) _
 have Vc100 := A
 obtain ⟨clc100, Arc100, qc100, Sc100, Nc100, Hc100, Gc100⟩ := Vc100
 refine Goes.of (X0.arraylength hx (by rw [e0]; exact Arc100.1) (State.isArrayOf_alike hZ.alike Arc100.2.1) (g := (mkF m 6 #[.val (.ref a1), .val (.int 0), .val (.int p3)] [(.ref a1), (.int p3)])) rfl rfl (hb hby d18_6)) ?_
 rw [len_of Sc100 Nc100]
 have hd7_101 : ¬ (p3 = (16 : Int32)) := fun q => by have e : (16 : Int32).toInt = 16 := (by decide); rw [q, e] at hm; omega
 refine gO (fun t k => XS.icmpNo X0.here hx rfl (hb hby d18_7) rfl (feq hd7_101).1 k) ?_
 refine gO (fun t k => XS.aloadN X0.here hx rfl (hb hby d18_10) rfl rfl k) ?_
 refine gO (fun t k => XS.iloadN X0.here hx rfl (hb hby d18_11) rfl k) ?_
 refine gO (fun t k => XS.iloadN X0.here hx rfl (hb hby d18_12) rfl k) ?_
 show Goes p e below (s₁.setTop (mkF m 13 #[.val (.ref a1), .val (.int 0), .val (.int p3)] [(.int p3), (.int 0), (.ref a1)])) _
 obtain ⟨_, _, ⟨T102, L102, k102, n102⟩, -, X102, ⟨Lc102, hQ102, l102, y102, z102⟩, st102⟩ := Jvm.LawKit.callS X0 hx (y := mn38) hown (mvT hZ (wd hw 120 rfl)) (mvT hZ (wd hw 121 rfl)) (mvT hZ (wd hw 118 rfl)) (mvT hZ (wd hw 122 rfl)) (by decide) (backOf (W := 0) (rm19 l Z a0 hw [] a1 p3 kb us h0 n0 Z0 A hm hc) hZ (wd hw 122 rfl) (wd hw 118 rfl) (by decide) (by decide)) (g := (mkF m 13 #[.val (.ref a1), .val (.int 0), .val (.int p3)] [(.int p3), (.int 0), (.ref a1)])) rfl (by rw [hml]; rfl) (argsL := [(.ref a1), (.int 0), (.int p3)]) (rest := []) (lenOf pd_32 rfl) rfl (wr0 rfl rfl) (hb hby d18_13) (fun _ _ => ⟨rfl, e0, (by decide : 0 + 1 ≤ _), (by decide : 0 + 12 ≤ _)⟩)
 dsimp only [Pt.U, Pt.locs, Pt.cells, Pt.slots] at X102 l102 y102 z102 st102 hQ102
 subst l102 y102 z102
 obtain ⟨b102, k102b, rfl, N102q, K102, z102b, V102⟩ := hQ102
 have N102 := Fr.app N0 N102q
 have z105 : h0.size ≤ b102 := Nat.le_trans K0.1 z102b
 have K106 : Keep h0 T102.heap [] := K0.trans K102 all0
 refine Goes.of st102 ?_
 show Goes p e below (T102.setTop (mkF m 16 #[.val (.ref a1), .val (.int 0), .val (.int p3)] [(.ref b102)])) _
 have eh : T102.heap = T102.heap := rfl
 exact Goes.retA X102 hx (by rfl) Bd.returns (by rfl) hlocks (hb hby d18_16) (⟨b102, _, rfl, N102, by rw [eh]; exact K106, z105, by rw [eh]; exact V102⟩) (by decide) (by decide)
theorem ef_13 (m : MethodId) (x0 x1 : Addr) : entryFrame m #[(.ref x0), (.ref x1), .null] 5 = mkF m 0 #[.val (.ref x0), .val (.ref x1), .val .null, .unset, .unset] [] := by first | (simp [entryFrame, mkF, argsToLocals, Value.category]; done) | rfl
def Q13 (Z : State) (a1 a2 : Addr) (cmS : Int32) (b : Addr) (kb : ClassId) (mm : Int32) (us : List Int32) (h0 : Heap) (n0 : Nat) (v : Option Value) (h : Heap) (L : List Loc) : Prop := ∃ (t : Addr) (k : ClassId), v = none ∧ Fr n0 L ∧ Keep h0 h [a1] ∧ Exa Z h a1 "java/lang/String" ∧ Fl5 Z h a1 (.int 0) ∧ Fl6 Z h a1 (.ref t) ∧ Arv Z h t k .byte mm (own_vb (us)) (.int (0 : Int32))
theorem rm13 (l : Launch) (Z : State) (a0 : Array Value) (hw : ∀ d ∈ tables_1, d.before a0 Z = true) (ws : List Jvm.Cond) (a1 a2 : Addr) (cmS : Int32) (b : Addr) (kb : ClassId) (mm : Int32) (us : List Int32) (h0 : Heap) (n0 : Nat) (Z0 : n0 ≤ h0.size) (O0 : Old Z n0 h0) (SC : Sta Z Z.heap "java/lang/String" "COMPACT_STRINGS" "Z" (.int cmS)) (cs0 : cmS ≠ 0) (E_a1 : Exa Z h0 a1 "java/lang/String") (F_c_a1 : Fl5 Z h0 a1 (.int 0)) (F_w_a1 : Fl6 Z h0 a1 .null) (G_a1 : n0 ≤ a1) (E_a2 : Exa Z h0 a2 "java/lang/StringBuilder") (F_w_a2 : Fl7 Z h0 a2 (.ref b)) (F_c_a2 : Fl8 Z h0 a2 (.int 0)) (F_n_a2 : Fl9 Z h0 a2 (.int mm)) (V_b : Arv Z h0 b kb .byte (16 : Int32) (own_vb (us)) (.int (0 : Int32))) (hm : mm.toInt = us.length) (hc : us.length ≤ 12) :
 CT l Z mn40 jdk_42_method_150_code 5 none ws (⟨3, 1, 12, 71⟩ : Room) #[(.ref a1), (.ref a2), .null] h0 (Q13 Z a1 a2 cmS b kb mm us h0 n0) := by
 refine MetFree.of_bodySF (plainFor_of_name pn_15) hisR ?_
 intro p e s m args below meth c s₁ Bd hml0 hP hK
 obtain ⟨rfl, hZ, hh⟩ := hP
 have hx := Bd.exec
 have hby := Bd.bytes
 have hml : c.maxLocals = 5 := hml0
 have hown : s.vm.findClass "java/lang/String" = some m.cls := findClass_of_methodNamed Bd.named
 have hnm := (name_of_methodNamed Bd.named Bd.method).1
 have hlocks : meth.locks = false := BodyLoose.notSynchronized Bd
 have X0 : Stand p l e (⟨3, 1, 12, 71⟩ : Room) s m #[(.ref a1), (.ref a2), .null] below meth c s₁ [] 0 0 := Stand.of_body Bd
 have e0 : s₁.heap = h0 := by rw [← hh, Bd.state]; rfl
 have N0 := Fr.nil n0
 show Goes p e below (s₁.setTop (entryFrame m #[(.ref a1), (.ref a2), .null] 5)) (Fin s (Q13 Z a1 a2 cmS b kb mm us h0 n0) (⟨3, 1, 12, 71⟩ : Room).cells (⟨3, 1, 12, 71⟩ : Room).slots)
 refine Goes.of (fun t k => castTop (ef_13 m a1 a2) k) ?_
 have K0 : Keep h0 h0 [a1] := Keep.refl _ _
 refine gO (fun t k => XS.aloadN X0.here hx rfl (hb hby d13_0) rfl rfl k) ?_
 obtain ⟨T100, X100, e100, st100⟩ := initO X0 hx hZ hown (wd hw 92 rfl) (wd hw 8 rfl) (wd hw 9 rfl) e0 (g := (mkF m 1 #[.val (.ref a1), .val (.ref a2), .val .null, .unset, .unset] [(.ref a1)])) rfl (by rw [hml]; rfl) rfl (hb hby d13_1) (by decide) (W := 0) (wr0 rfl rfl) (by decide)
 refine Goes.of st100 ?_
 refine gO (fun t k => XS.aloadN X100.here hx rfl (hb hby d13_4) rfl rfl k) ?_
 obtain ⟨cq101, kq101, q101a, q101b, q101c⟩ := isOf hZ e100 E_a2
 obtain ⟨_, _, ⟨T101, L101, k101, n101⟩, -, X101, ⟨Lc101, hQ101, l101, y101, z101⟩, st101⟩ := X100.virtualBack hx (y := mn24) (z := mn24) hown (mvT hZ (wd hw 93 rfl)) (mvT hZ (wd hw 94 rfl)) (notFace_of_selects (args := #[]) (mvT hZ (wd hw 96 rfl))) (mvT hZ (wd hw 96 rfl)) (mvT hZ (wd hw 95 rfl)) (by decide) (backOf (W := 0) (rm14 l Z a0 hw [] a2 b kb mm us h0 n0 Z0 E_a2 F_w_a2 F_c_a2 F_n_a2 V_b) hZ (wd hw 97 rfl) (wd hw 57 rfl) (by decide) (by decide)) q101a q101c (g := (mkF m 5 #[.val (.ref a1), .val (.ref a2), .val .null, .unset, .unset] [(.ref a2)])) rfl (by rw [hml]; rfl) (Steps.refl _) (argsL := []) (rest := []) (lenOf pd_33 rfl) rfl (wr0 rfl rfl) (hb hby d13_5) (fun _ _ => ⟨rfl, e100, (by decide : 0 + 0 ≤ _), (by decide : 0 + 0 ≤ _)⟩)
 dsimp only [Pt.U, Pt.locs, Pt.cells, Pt.slots] at X101 l101 y101 z101 st101 hQ101
 subst l101 y101 z101
 obtain ⟨rfl, N101q, e101⟩ := hQ101
 have N101 := Fr.app N0 N101q
 refine Goes.of (fun t k => st101.trans k) ?_
 refine gO (fun t k => XS.astoreN X101.here hx rfl (hb hby d13_8) rfl rfl (l' := #[.val (.ref a1), .val (.ref a2), .val .null, .val (.ref b), .unset]) rfl k) ?_
 refine gO (fun t k => XS.aloadN X101.here hx rfl (hb hby d13_9) rfl rfl k) ?_
 show Goes p e below (T101.setTop (mkF m 10 #[.val (.ref a1), .val (.ref a2), .val .null, .val (.ref b), .unset] [(.ref a2)])) _
 obtain ⟨cq102, kq102, q102a, q102b, q102c⟩ := isOf hZ e101 E_a2
 obtain ⟨_, _, ⟨T102, L102, k102, n102⟩, -, X102, ⟨Lc102, hQ102, l102, y102, z102⟩, st102⟩ := X101.virtualBack hx (y := mn26) (z := mn27) hown (mvT hZ (wd hw 98 rfl)) (mvT hZ (wd hw 99 rfl)) (own_NF (y0 := mn24) rfl (mvT hZ (args := #[]) (wd hw 96 rfl))) (mvT hZ (wd hw 101 rfl)) (mvT hZ (wd hw 102 rfl)) (by decide) (backOf (W := 0) (rm15 l Z a0 hw [] a2 b kb mm us h0 n0 Z0 E_a2 F_w_a2 F_c_a2 F_n_a2 V_b) hZ (wd hw 103 rfl) (wd hw 49 rfl) (by decide) (by decide)) q102a q102c (g := (mkF m 10 #[.val (.ref a1), .val (.ref a2), .val .null, .val (.ref b), .unset] [(.ref a2)])) rfl (by rw [hml]; rfl) (Steps.refl _) (argsL := []) (rest := []) (lenOf pd_23 rfl) rfl (wr0 rfl rfl) (hb hby d13_10) (fun _ _ => ⟨rfl, e101, (by decide : 0 + 0 ≤ _), (by decide : 0 + 0 ≤ _)⟩)
 dsimp only [Pt.U, Pt.locs, Pt.cells, Pt.slots] at X102 l102 y102 z102 st102 hQ102
 subst l102 y102 z102
 obtain ⟨rfl, N102q, e102⟩ := hQ102
 have N102 := Fr.app N101 N102q
 refine Goes.of (fun t k => st102.trans k) ?_
 refine gO (fun t k => XS.istore X102.here hx rfl (hb hby d13_13) rfl (l' := #[.val (.ref a1), .val (.ref a2), .val .null, .val (.ref b), .val (.int mm)]) rfl k) ?_
 refine gO (fun t k => XS.aloadN X102.here hx rfl (hb hby d13_15) rfl rfl k) ?_
 obtain ⟨cq103, kq103, q103a, q103b, q103c⟩ := isOf hZ e102 E_a2
 obtain ⟨_, _, ⟨T103, L103, k103, n103⟩, -, X103, ⟨Lc103, hQ103, l103, y103, z103⟩, st103⟩ := X102.virtualBack hx (y := mn25) (z := mn25) hown (mvT hZ (wd hw 109 rfl)) (mvT hZ (wd hw 110 rfl)) (notFace_of_selects (args := #[]) (mvT hZ (wd hw 112 rfl))) (mvT hZ (wd hw 112 rfl)) (mvT hZ (wd hw 111 rfl)) (by decide) (backOf (W := 0) (rm17 l Z a0 hw [] a2 cmS b kb mm us h0 n0 Z0 O0 SC cs0 E_a2 F_w_a2 F_c_a2 F_n_a2 V_b) hZ (wd hw 113 rfl) (wd hw 57 rfl) (by decide) (by decide)) q103a q103c (g := (mkF m 16 #[.val (.ref a1), .val (.ref a2), .val .null, .val (.ref b), .val (.int mm)] [(.ref a2)])) rfl (by rw [hml]; rfl) (Steps.refl _) (argsL := []) (rest := []) (lenOf pd_28 rfl) rfl (wr0 rfl rfl) (hb hby d13_16) (fun _ _ => ⟨rfl, e102, (by decide : 0 + 0 ≤ _), (by decide : 0 + 0 ≤ _)⟩)
 dsimp only [Pt.U, Pt.locs, Pt.cells, Pt.slots] at X103 l103 y103 z103 st103 hQ103
 subst l103 y103 z103
 obtain ⟨rfl, N103q, e103⟩ := hQ103
 have N103 := Fr.app N102 N103q
 refine Goes.of (fun t k => st103.trans k) ?_
 refine gO (fun t k => XS.ifNo X103.here hx rfl (hb hby d13_19) rfl ((if0 _ _).trans (feq (by decide)).1) k) ?_
 refine gO (fun t k => XS.aloadN X103.here hx rfl (hb hby d13_22) rfl rfl k) ?_
 show Goes p e below (T103.setTop (mkF m 23 #[.val (.ref a1), .val (.ref a2), .val .null, .val (.ref b), .val (.int mm)] [(.ref a1)])) _
 refine gO (fun t k => XS.iconst X103.here hx rfl (hb hby d13_23) k) ?_
 obtain ⟨T104, h104, X104, e104, W104, st104⟩ := putFN X103 hx hZ hown (wd hw 114 rfl) Via.refl e103 F_c_a1 E_a1 (Or.inr ⟨(wd hw 115 rfl), rfl, hnm⟩) (wd hw 84 rfl) (ty := .byte) (v' := (.int 0)) (by decide) rfl (by decide) (g := (mkF m 24 #[.val (.ref a1), .val (.ref a2), .val .null, .val (.ref b), .val (.int mm)] [(.int 0), (.ref a1)])) rfl rfl (hb hby d13_24)
 have f105 := F_c_a1.same W104
 have K106 : Keep h0 h104 [a1] := K0.wr W104 (Or.inl (List.mem_of_getElem? (i := 0) rfl))
 have q108 : b ≠ a1 := Ne.symm (Exa.neArv E_a1 V_b (wd hw 84 rfl))
 have z109 := Nat.le_trans Z0 (Keep.of_wr W104).1
 have f115 := V_b.other W104 q108
 have f117 := F_w_a1.other W104 (Or.inr (slot_ne (Or.inr (wd hw 135 rfl)) (Or.inr (wd hw 115 rfl)) (by decide) (t := (.array .byte)) (t' := .byte) (by decide) (by decide)))
 have f118 := E_a1.wr W104
 have N104 := Fr.snoc X104 N103 G_a1
 refine Goes.of st104 ?_
 refine gO (fun t k => XS.aloadN X104.here hx rfl (hb hby d13_27) rfl rfl k) ?_
 refine gO (fun t k => XS.aloadN X104.here hx rfl (hb hby d13_28) rfl rfl k) ?_
 refine gO (fun t k => XS.iconst X104.here hx rfl (hb hby d13_29) k) ?_
 refine gO (fun t k => XS.iload X104.here hx rfl (hb hby d13_30) rfl k) ?_
 show Goes p e below (T104.setTop (mkF m 32 #[.val (.ref a1), .val (.ref a2), .val .null, .val (.ref b), .val (.int mm)] [(.int mm), (.int 0), (.ref b), (.ref a1)])) _
 obtain ⟨_, _, ⟨T119, L119, k119, n119⟩, -, X119, ⟨Lc119, hQ119, l119, y119, z119⟩, st119⟩ := Jvm.LawKit.callS X104 hx (y := mn39) hown (mvT hZ (wd hw 116 rfl)) (mvT hZ (wd hw 117 rfl)) (mvT hZ (wd hw 118 rfl)) (mvT hZ (wd hw 119 rfl)) (by decide) (backOf (W := 1) (rm18 l Z a0 hw [] b mm kb us h104 n0 z109 f115 hm hc) hZ (wd hw 119 rfl) (wd hw 118 rfl) (by decide) (by decide)) (g := (mkF m 32 #[.val (.ref a1), .val (.ref a2), .val .null, .val (.ref b), .val (.int mm)] [(.int mm), (.int 0), (.ref b), (.ref a1)])) rfl (by rw [hml]; rfl) (argsL := [(.ref b), (.int 0), (.int mm)]) (rest := [(.ref a1)]) (lenOf pd_32 rfl) rfl (wr0 rfl rfl) (hb hby d13_32) (fun _ _ => ⟨rfl, e104, (by decide : 0 + 1 ≤ _), (by decide : 0 + 12 ≤ _)⟩)
 dsimp only [Pt.U, Pt.locs, Pt.cells, Pt.slots] at X119 l119 y119 z119 st119 hQ119
 subst l119 y119 z119
 obtain ⟨b119, k119b, rfl, N119q, K119, z119b, V119⟩ := hQ119
 have N119 := Fr.app N104 N119q
 have q122 : a1 ≠ b119 := Nat.ne_of_lt (Nat.lt_of_lt_of_le f105.lt z119b)
 have K125 : Keep h0 T119.heap [a1] := K106.trans K119 all0
 have f133 := f105.keep K119 nin0
 have f134 := f117.keep K119 nin0
 have f135 := f118.keep K119
 refine Goes.of st119 ?_
 obtain ⟨T136, h136, X136, e136, W136, st136⟩ := putF X119 hx hZ hown (host := "") (Or.inl (wd hw 134 rfl)) Via.refl rfl f134 f135 (Or.inr ⟨(wd hw 135 rfl), rfl, hnm⟩) (wd hw 84 rfl) (ty := (.array .byte)) (by decide) rfl rfl (g := (mkF m 35 #[.val (.ref a1), .val (.ref a2), .val .null, .val (.ref b), .val (.int mm)] [(.ref b119), (.ref a1)])) rfl rfl (hb hby d13_35)
 have f137 := f134.same W136
 have K138 : Keep h0 h136 [a1] := K125.wr W136 (Or.inl (List.mem_of_getElem? (i := 0) rfl))
 have f146 := f133.other W136 (Or.inr (slot_ne (Or.inr (wd hw 115 rfl)) (Or.inr (wd hw 135 rfl)) (by decide) (t := .byte) (t' := (.array .byte)) (by decide) (by decide)))
 have f148 := f135.wr W136
 have f149 := V119.other W136 (Ne.symm q122)
 have N136 := Fr.snoc X136 N119 G_a1
 refine Goes.of st136 ?_
 refine gO (fun t k => XS.goto X136.here hx rfl (pc0 := 38) (pc' := 97) rfl (hb hby d13_38) (by decide) (by decide) k) ?_
 show Goes p e below (T136.setTop (mkF m 97 #[.val (.ref a1), .val (.ref a2), .val .null, .val (.ref b), .val (.int mm)] [])) _
 have eh : T136.heap = h136 := e136
 exact Goes.retV X136 hx Bd.returns hlocks (hb hby d13_97) (⟨b119, _, rfl, N136, by rw [eh]; exact K138, by rw [eh]; exact f148, by rw [eh]; exact f146, by rw [eh]; exact f137, by rw [eh]; exact f149⟩) (by decide) (by decide)
theorem ef_12 (m : MethodId) (x0 x1 : Addr) : entryFrame m #[(.ref x0), (.ref x1)] 2 = mkF m 0 #[.val (.ref x0), .val (.ref x1)] [] := by first | (simp [entryFrame, mkF, argsToLocals, Value.category]; done) | rfl
def Q12 (Z : State) (a1 a2 : Addr) (cmS : Int32) (b : Addr) (kb : ClassId) (mm : Int32) (us : List Int32) (h0 : Heap) (n0 : Nat) (v : Option Value) (h : Heap) (L : List Loc) : Prop := ∃ (t : Addr) (k : ClassId), v = none ∧ Fr n0 L ∧ Keep h0 h [a1] ∧ Exa Z h a1 "java/lang/String" ∧ Fl5 Z h a1 (.int 0) ∧ Fl6 Z h a1 (.ref t) ∧ Arv Z h t k .byte mm (own_vb (us)) (.int (0 : Int32))
theorem rm12 (l : Launch) (Z : State) (a0 : Array Value) (hw : ∀ d ∈ tables_1, d.before a0 Z = true) (ws : List Jvm.Cond) (a1 a2 : Addr) (cmS : Int32) (b : Addr) (kb : ClassId) (mm : Int32) (us : List Int32) (h0 : Heap) (n0 : Nat) (Z0 : n0 ≤ h0.size) (O0 : Old Z n0 h0) (SC : Sta Z Z.heap "java/lang/String" "COMPACT_STRINGS" "Z" (.int cmS)) (cs0 : cmS ≠ 0) (E_a1 : Exa Z h0 a1 "java/lang/String") (F_c_a1 : Fl5 Z h0 a1 (.int 0)) (F_w_a1 : Fl6 Z h0 a1 .null) (G_a1 : n0 ≤ a1) (E_a2 : Exa Z h0 a2 "java/lang/StringBuilder") (F_w_a2 : Fl7 Z h0 a2 (.ref b)) (F_c_a2 : Fl8 Z h0 a2 (.int 0)) (F_n_a2 : Fl9 Z h0 a2 (.int mm)) (V_b : Arv Z h0 b kb .byte (16 : Int32) (own_vb (us)) (.int (0 : Int32))) (hm : mm.toInt = us.length) (hc : us.length ≤ 12) :
 CT l Z mn41 jdk_42_method_53_code 2 none ws (⟨4, 1, 12, 87⟩ : Room) #[(.ref a1), (.ref a2)] h0 (Q12 Z a1 a2 cmS b kb mm us h0 n0) := by
 refine MetFree.of_bodySF (plainFor_of_name pn_15) hisR ?_
 intro p e s m args below meth c s₁ Bd hml0 hP hK
 obtain ⟨rfl, hZ, hh⟩ := hP
 have hx := Bd.exec
 have hby := Bd.bytes
 have hml : c.maxLocals = 2 := hml0
 have hown : s.vm.findClass "java/lang/String" = some m.cls := findClass_of_methodNamed Bd.named
 have hnm := (name_of_methodNamed Bd.named Bd.method).1
 have hlocks : meth.locks = false := BodyLoose.notSynchronized Bd
 have X0 : Stand p l e (⟨4, 1, 12, 87⟩ : Room) s m #[(.ref a1), (.ref a2)] below meth c s₁ [] 0 0 := Stand.of_body Bd
 have e0 : s₁.heap = h0 := by rw [← hh, Bd.state]; rfl
 have N0 := Fr.nil n0
 show Goes p e below (s₁.setTop (entryFrame m #[(.ref a1), (.ref a2)] 2)) (Fin s (Q12 Z a1 a2 cmS b kb mm us h0 n0) (⟨4, 1, 12, 87⟩ : Room).cells (⟨4, 1, 12, 87⟩ : Room).slots)
 refine Goes.of (fun t k => castTop (ef_12 m a1 a2) k) ?_
 have K0 : Keep h0 h0 [a1] := Keep.refl _ _
 refine gO (fun t k => XS.aloadN X0.here hx rfl (hb hby d12_0) rfl rfl k) ?_
 refine gO (fun t k => XS.aloadN X0.here hx rfl (hb hby d12_1) rfl rfl k) ?_
 refine gO (fun t k => XS.aconstNull X0.here hx rfl (hb hby d12_2) k) ?_
 show Goes p e below (s₁.setTop (mkF m 3 #[.val (.ref a1), .val (.ref a2)] [.null, (.ref a2), (.ref a1)])) _
 obtain ⟨_, _, ⟨T100, L100, k100, n100⟩, -, X100, ⟨Lc100, hQ100, l100, y100, z100⟩, st100⟩ := X0.specialBack hx (y := mn40) rfl hown (mvT hZ (wd hw 89 rfl)) (mvT hZ (wd hw 90 rfl)) (mvT hZ (wd hw 91 rfl)) (by decide) (backOf (W := 0) (rm13 l Z a0 hw [] a1 a2  cmS b kb mm us h0 n0 Z0 O0 SC cs0 E_a1 F_c_a1 F_w_a1 G_a1 E_a2 F_w_a2 F_c_a2 F_n_a2 V_b hm hc) hZ (wd hw 91 rfl) (wd hw 61 rfl) (by decide) (by decide)) (g := (mkF m 3 #[.val (.ref a1), .val (.ref a2)] [.null, (.ref a2), (.ref a1)])) rfl (by rw [hml]; rfl) (Steps.refl _) (a := a1) (argsL := [(.ref a2), .null]) (rest := []) (lenOf pd_34 rfl) rfl (wr0 rfl rfl) (hb hby d12_3) (fun _ _ => ⟨rfl, e0, (by decide : 0 + 1 ≤ _), (by decide : 0 + 12 ≤ _)⟩)
 dsimp only [Pt.U, Pt.locs, Pt.cells, Pt.slots] at X100 l100 y100 z100 st100 hQ100
 subst l100 y100 z100
 obtain ⟨t100, k100t, rfl, N100q, K100, E100, F100_c, F100_w, V100⟩ := hQ100
 have N100 := Fr.app N0 N100q
 have K101 : Keep h0 T100.heap [a1] := K0.trans K100 (allS (Or.inl (List.mem_of_getElem? (i := 0) rfl)) all0)
 refine Goes.of (fun t k => st100.trans k) ?_
 show Goes p e below (T100.setTop (mkF m 6 #[.val (.ref a1), .val (.ref a2)] [])) _
 have eh : T100.heap = T100.heap := rfl
 exact Goes.retV X100 hx Bd.returns hlocks (hb hby d12_6) (⟨_, _, rfl, N100, by rw [eh]; exact K101, by rw [eh]; exact E100, by rw [eh]; exact F100_c, by rw [eh]; exact F100_w, by rw [eh]; exact V100⟩) (by decide) (by decide)
theorem ef_11 (m : MethodId) (x0 : Addr) : entryFrame m #[(.ref x0)] 1 = mkF m 0 #[.val (.ref x0)] [] := by first | (simp [entryFrame, mkF, argsToLocals, Value.category]; done) | rfl
def Q11 (Z : State) (a1 : Addr) (cmS : Int32) (b : Addr) (kb : ClassId) (mm : Int32) (us : List Int32) (h0 : Heap) (n0 : Nat) (v : Option Value) (h : Heap) (L : List Loc) : Prop := ∃ (s t : Addr) (k : ClassId), v = some (.ref s) ∧ Fr n0 L ∧ Keep h0 h [] ∧ Exa Z h s "java/lang/String" ∧ Fl5 Z h s (.int 0) ∧ Fl6 Z h s (.ref t) ∧ Arv Z h t k .byte mm (own_vb (us)) (.int (0 : Int32))
theorem rm11 (l : Launch) (Z : State) (a0 : Array Value) (hw : ∀ d ∈ tables_1, d.before a0 Z = true) (ws : List Jvm.Cond) (a1 : Addr) (cmS : Int32) (b : Addr) (kb : ClassId) (mm : Int32) (us : List Int32) (h0 : Heap) (n0 : Nat) (Z0 : n0 ≤ h0.size) (O0 : Old Z n0 h0) (SC : Sta Z Z.heap "java/lang/String" "COMPACT_STRINGS" "Z" (.int cmS)) (cs0 : cmS ≠ 0) (E_a1 : Exa Z h0 a1 "java/lang/StringBuilder") (F_w_a1 : Fl7 Z h0 a1 (.ref b)) (F_c_a1 : Fl8 Z h0 a1 (.int 0)) (F_n_a1 : Fl9 Z h0 a1 (.int mm)) (V_b : Arv Z h0 b kb .byte (16 : Int32) (own_vb (us)) (.int (0 : Int32))) (hm : mm.toInt = us.length) (hc : us.length ≤ 12) :
 CT l Z mn42 jdk_67_method_42_code 1 (some (.object "java/lang/String")) ws (⟨5, 2, 16, 101⟩ : Room) #[(.ref a1)] h0 (Q11 Z a1 cmS b kb mm us h0 n0) := by
 refine MetFree.of_bodySF (plainFor_of_name pn_21) hisR ?_
 intro p e s m args below meth c s₁ Bd hml0 hP hK
 obtain ⟨rfl, hZ, hh⟩ := hP
 have hx := Bd.exec
 have hby := Bd.bytes
 have hml : c.maxLocals = 1 := hml0
 have hown : s.vm.findClass "java/lang/StringBuilder" = some m.cls := findClass_of_methodNamed Bd.named
 have hnm := (name_of_methodNamed Bd.named Bd.method).1
 have hlocks : meth.locks = false := BodyLoose.notSynchronized Bd
 have X0 : Stand p l e (⟨5, 2, 16, 101⟩ : Room) s m #[(.ref a1)] below meth c s₁ [] 0 0 := Stand.of_body Bd
 have e0 : s₁.heap = h0 := by rw [← hh, Bd.state]; rfl
 have N0 := Fr.nil n0
 show Goes p e below (s₁.setTop (entryFrame m #[(.ref a1)] 1)) (Fin s (Q11 Z a1 cmS b kb mm us h0 n0) (⟨5, 2, 16, 101⟩ : Room).cells (⟨5, 2, 16, 101⟩ : Room).slots)
 refine Goes.of (fun t k => castTop (ef_11 m a1) k) ?_
 have K0 : Keep h0 h0 [] := Keep.refl _ _
 obtain ⟨T100, h100, X100, e100, E100, A100, D100, -, st100⟩ := newO X0 hx hZ hown (wd hw 83 rfl) (wd hw 84 rfl) (wd hw 61 rfl) e0 (g := (mkF m 0 #[.val (.ref a1)] [])) rfl (hb hby d11_0) (by decide) (by decide)
 obtain ⟨b100, g100⟩ : ∃ z, z = h0.size := ⟨_, rfl⟩
 rw [← g100] at A100 D100 st100
 have g101 : n0 ≤ b100 := Nat.le_trans Z0 (Nat.le_of_eq g100.symm)
 have z102 := Nat.le_trans Z0 E100.1
 have z103 : h0.size ≤ b100 := Nat.le_trans K0.1 (Nat.le_of_eq g100.symm)
 have f106 := O0.ext E100
 have f107 := F_w_a1.ext E100
 have f108 := F_c_a1.ext E100
 have f109 := F_n_a1.ext E100
 have f110 := E_a1.ext E100
 have f111 := V_b.ext E100
 have K112 : Keep h0 h100 [] := K0.ext E100
 have f113 : Fld Z h100 b100 "java/lang/String" "coder" "B" (.int 0) := D100 (Or.inr (wd hw 115 rfl)) (ty := .byte) (by decide)
 have f114 : Fld Z h100 b100 "java/lang/String" "value" "[B" .null := D100 (Or.inr (wd hw 135 rfl)) (ty := (.array .byte)) (by decide)
 refine Goes.of st100 ?_
 refine gO (fun t k => XS.dup X100.here hx rfl (hb hby d11_3) rfl rfl k) ?_
 refine gO (fun t k => XS.aloadN X100.here hx rfl (hb hby d11_4) rfl rfl k) ?_
 obtain ⟨_, _, ⟨T115, L115, k115, n115⟩, -, X115, ⟨Lc115, hQ115, l115, y115, z115⟩, st115⟩ := X100.specialBack hx (y := mn41) rfl hown (mvT hZ (wd hw 85 rfl)) (mvT hZ (wd hw 86 rfl)) (mvT hZ (wd hw 88 rfl)) (by decide) (backOf (W := 1) (rm12 l Z a0 hw [] b100 a1 cmS b kb mm us h100 n0 z102 f106 SC cs0 A100 f113 f114 g101 f110 f107 f108 f109 f111 hm hc) hZ (wd hw 88 rfl) (wd hw 61 rfl) (by decide) (by decide)) (g := (mkF m 5 #[.val (.ref a1)] [(.ref a1), (.ref b100), (.ref b100)])) rfl (by rw [hml]; rfl) (Steps.refl _) (a := b100) (argsL := [(.ref a1)]) (rest := [(.ref b100)]) (lenOf pd_35 rfl) rfl (wr0 rfl rfl) (hb hby d11_5) (fun _ _ => ⟨rfl, e100, (by decide : 1 + 1 ≤ _), (by decide : 4 + 12 ≤ _)⟩)
 dsimp only [Pt.U, Pt.locs, Pt.cells, Pt.slots] at X115 l115 y115 z115 st115 hQ115
 subst l115 y115 z115
 obtain ⟨t115, k115t, rfl, N115q, K115, E115, F115_c, F115_w, V115⟩ := hQ115
 have N115 := Fr.app N0 N115q
 have K116 : Keep h0 T115.heap [] := K112.trans K115 (allS (Or.inr z103) all0)
 refine Goes.of (fun t k => st115.trans k) ?_
 show Goes p e below (T115.setTop (mkF m 8 #[.val (.ref a1)] [(.ref b100)])) _
 have eh : T115.heap = T115.heap := rfl
 exact Goes.retA X115 hx (by rfl) Bd.returns (by rfl) hlocks (hb hby d11_8) (⟨b100, _, _, rfl, N115, by rw [eh]; exact K116, by rw [eh]; exact E115, by rw [eh]; exact F115_c, by rw [eh]; exact F115_w, by rw [eh]; exact V115⟩) (by decide) (by decide)
theorem ef_48 (m : MethodId) (x0 : Addr) : entryFrame m #[(.ref x0)] 1 = mkF m 0 #[.val (.ref x0)] [] := by first | (simp [entryFrame, mkF, argsToLocals, Value.category]; done) | rfl
def Q48 (Z : State) (a1 : Addr) (cmS : Int32) (b : Addr) (kb : ClassId) (z : Int32) (us : List Int32) (h0 : Heap) (n0 : Nat) (v : Option Value) (h : Heap) (L : List Loc) : Prop := v = some (.int 1) ∧ Fr n0 L ∧ h = h0
theorem rm48 (l : Launch) (Z : State) (a0 : Array Value) (hw : ∀ d ∈ tables_1, d.before a0 Z = true) (ws : List Jvm.Cond) (a1 : Addr) (cmS : Int32) (b : Addr) (kb : ClassId) (z : Int32) (us : List Int32) (h0 : Heap) (n0 : Nat) (Z0 : n0 ≤ h0.size) (O0 : Old Z n0 h0) (SC : Sta Z Z.heap "java/lang/String" "COMPACT_STRINGS" "Z" (.int cmS)) (cs0 : cmS ≠ 0) (E_a1 : Exa Z h0 a1 "java/lang/String") (F_c_a1 : Fl5 Z h0 a1 (.int 0)) (F_w_a1 : Fl6 Z h0 a1 (.ref b)) (V_b : Arv Z h0 b kb .byte z (own_vb (us)) (.int (0 : Int32))) :
 CT l Z mn43 jdk_42_method_154_code 1 (some .boolean) ws (⟨0, 0, 0, 0⟩ : Room) #[(.ref a1)] h0 (Q48 Z a1 cmS b kb z us h0 n0) := by
 refine MetFree.of_bodySF (plainFor_of_name pn_15) hisR ?_
 intro p e s m args below meth c s₁ Bd hml0 hP hK
 obtain ⟨rfl, hZ, hh⟩ := hP
 have hx := Bd.exec
 have hby := Bd.bytes
 have hml : c.maxLocals = 1 := hml0
 have hown : s.vm.findClass "java/lang/String" = some m.cls := findClass_of_methodNamed Bd.named
 have hnm := (name_of_methodNamed Bd.named Bd.method).1
 have hlocks : meth.locks = false := BodyLoose.notSynchronized Bd
 have X0 : Stand p l e (⟨0, 0, 0, 0⟩ : Room) s m #[(.ref a1)] below meth c s₁ [] 0 0 := Stand.of_body Bd
 have e0 : s₁.heap = h0 := by rw [← hh, Bd.state]; rfl
 have N0 := Fr.nil n0
 show Goes p e below (s₁.setTop (entryFrame m #[(.ref a1)] 1)) (Fin s (Q48 Z a1 cmS b kb z us h0 n0) (⟨0, 0, 0, 0⟩ : Room).cells (⟨0, 0, 0, 0⟩ : Room).slots)
 refine Goes.of (fun t k => castTop (ef_48 m a1) k) ?_
 obtain ⟨T100, X100, e100, st100⟩ := getS2 X0 hx hZ hown (host := "") (Or.inl (wd hw 149 rfl)) Via.refl e0 (SC.ext O0.2) (g := (mkF m 0 #[.val (.ref a1)] [])) rfl (hb hby d48_0)
 refine Goes.of st100 ?_
 have hd3_101 : ¬ (cmS = (0 : Int32)) := cs0
 refine gO (fun t k => XS.ifNo X100.here hx rfl (hb hby d48_3) rfl ((if0 _ _).trans (feq hd3_101).1) k) ?_
 refine gO (fun t k => XS.aloadN X100.here hx rfl (hb hby d48_6) rfl rfl k) ?_
 obtain ⟨T102, X102, e102, st102⟩ := getF X100 hx hZ hown (host := "") (Or.inl (wd hw 114 rfl)) Via.refl e100 F_c_a1 (g := (mkF m 7 #[.val (.ref a1)] [(.ref a1)])) rfl rfl (hb hby d48_7)
 refine Goes.of st102 ?_
 refine gO (fun t k => XS.ifNo X102.here hx rfl (hb hby d48_10) rfl ((if0 _ _).trans (teq (by decide)).2) k) ?_
 refine gO (fun t k => XS.iconst X102.here hx rfl (hb hby d48_13) k) ?_
 show Goes p e below (T102.setTop (mkF m 14 #[.val (.ref a1)] [(.int 1)])) _
 refine gO (fun t k => XS.goto X102.here hx rfl (pc0 := 14) (pc' := 18) rfl (hb hby d48_14) (by decide) (by decide) k) ?_
 show Goes p e below (T102.setTop (mkF m 18 #[.val (.ref a1)] [(.int 1)])) _
 exact Goes.retN (t := .boolean) X102 hx Bd.returns (by simp) hlocks (hb hby d48_18) (⟨rfl, N0, e102⟩) (by decide) (by decide)
theorem ef_50 (m : MethodId) (x0 x1 : Int32) : entryFrame m #[(.int x0), (.int x1)] 2 = mkF m 0 #[.val (.int x0), .val (.int x1)] [] := by first | (simp [entryFrame, mkF, argsToLocals, Value.category]; done) | rfl
def Q50 (Z : State) (p1 p2 : Int32) (fm : Value) (h0 : Heap) (n0 : Nat) (v : Option Value) (h : Heap) (L : List Loc) : Prop := v = none ∧ Fr n0 L ∧ h = h0
theorem rm50 (l : Launch) (Z : State) (a0 : Array Value) (hw : ∀ d ∈ tables_1, d.before a0 Z = true) (ws : List Jvm.Cond) (p1 p2 : Int32) (fm : Value) (h0 : Heap) (n0 : Nat) (Z0 : n0 ≤ h0.size) (O0 : Old Z n0 h0) (SF : Sta Z Z.heap "jdk/internal/util/Preconditions" "SIOOBE_FORMATTER" "Ljava/util/function/BiFunction;" fm) (hfm : fm = .null ∨ ∃ f : Addr, fm = .ref f) (i0 : ¬ (p1 < 0)) (i1 : p1 < p2) :
 CT l Z mn44 jdk_42_method_155_code 2 none ws (⟨1, 0, 0, 14⟩ : Room) #[(.int p1), (.int p2)] h0 (Q50 Z p1 p2 fm h0 n0) := by
 refine MetFree.of_bodySF (plainFor_of_name pn_15) hisR ?_
 intro p e s m args below meth c s₁ Bd hml0 hP hK
 obtain ⟨rfl, hZ, hh⟩ := hP
 have hx := Bd.exec
 have hby := Bd.bytes
 have hml : c.maxLocals = 2 := hml0
 have hown : s.vm.findClass "java/lang/String" = some m.cls := findClass_of_methodNamed Bd.named
 have hnm := (name_of_methodNamed Bd.named Bd.method).1
 have hlocks : meth.locks = false := BodyLoose.notSynchronized Bd
 have X0 : Stand p l e (⟨1, 0, 0, 14⟩ : Room) s m #[(.int p1), (.int p2)] below meth c s₁ [] 0 0 := Stand.of_body Bd
 have e0 : s₁.heap = h0 := by rw [← hh, Bd.state]; rfl
 have N0 := Fr.nil n0
 show Goes p e below (s₁.setTop (entryFrame m #[(.int p1), (.int p2)] 2)) (Fin s (Q50 Z p1 p2 fm h0 n0) (⟨1, 0, 0, 14⟩ : Room).cells (⟨1, 0, 0, 14⟩ : Room).slots)
 refine Goes.of (fun t k => castTop (ef_50 m p1 p2) k) ?_
 rcases hfm with hfm | ⟨f, hfm⟩
 ·subst hfm
  refine gO (fun t k => XS.iloadN X0.here hx rfl (hb hby d50_0) rfl k) ?_
  refine gO (fun t k => XS.iloadN X0.here hx rfl (hb hby d50_1) rfl k) ?_
  obtain ⟨T100, X100, e100, st100⟩ := getS2 X0 hx hZ hown (host := "") (Or.inl (wd hw 284 rfl)) Via.refl e0 (SF.ext O0.2) (g := (mkF m 2 #[.val (.int p1), .val (.int p2)] [(.int p2), (.int p1)])) rfl (hb hby d50_2)
  refine Goes.of st100 ?_
  obtain ⟨_, _, ⟨T101, L101, k101, n101⟩, -, X101, ⟨Lc101, hQ101, l101, y101, z101⟩, st101⟩ := Jvm.LawKit.callS X100 hx (y := mn12) hown (mvT hZ (wd hw 285 rfl)) (mvT hZ (wd hw 216 rfl)) (mvT hZ (wd hw 217 rfl)) (mvT hZ (wd hw 218 rfl)) (by decide) (backOf (W := 0) (rm37 l Z a0 hw [] p1 p2   h0 n0 Z0 i0 i1) hZ (wd hw 218 rfl) (wd hw 217 rfl) (by decide) (by decide)) (g := (mkF m 5 #[.val (.int p1), .val (.int p2)] [.null, (.int p2), (.int p1)])) rfl (by rw [hml]; rfl) (argsL := [(.int p1), (.int p2), .null]) (rest := []) (lenOf pd_12 rfl) rfl (wr0 rfl rfl) (hb hby d50_5) (fun _ _ => ⟨rfl, e100, (by decide : 0 + 0 ≤ _), (by decide : 0 + 0 ≤ _)⟩)
  dsimp only [Pt.U, Pt.locs, Pt.cells, Pt.slots] at X101 l101 y101 z101 st101 hQ101
  subst l101 y101 z101
  obtain ⟨rfl, N101q, e101⟩ := hQ101
  have N101 := Fr.app N0 N101q
  refine Goes.of st101 ?_
  refine gO (fun t k => XS.pop X101.here hx rfl (hb hby d50_8) rfl rfl k) ?_
  show Goes p e below (T101.setTop (mkF m 9 #[.val (.int p1), .val (.int p2)] [])) _
  exact Goes.retV X101 hx Bd.returns hlocks (hb hby d50_9) (⟨rfl, N101, e101⟩) (by decide) (by decide)
 ·subst hfm
  refine gO (fun t k => XS.iloadN X0.here hx rfl (hb hby d50_0) rfl k) ?_
  refine gO (fun t k => XS.iloadN X0.here hx rfl (hb hby d50_1) rfl k) ?_
  obtain ⟨T102, X102, e102, st102⟩ := getS2 X0 hx hZ hown (host := "") (Or.inl (wd hw 284 rfl)) Via.refl e0 (SF.ext O0.2) (g := (mkF m 2 #[.val (.int p1), .val (.int p2)] [(.int p2), (.int p1)])) rfl (hb hby d50_2)
  refine Goes.of st102 ?_
  obtain ⟨_, _, ⟨T103, L103, k103, n103⟩, -, X103, ⟨Lc103, hQ103, l103, y103, z103⟩, st103⟩ := Jvm.LawKit.callS X102 hx (y := mn12) hown (mvT hZ (wd hw 285 rfl)) (mvT hZ (wd hw 216 rfl)) (mvT hZ (wd hw 217 rfl)) (mvT hZ (wd hw 218 rfl)) (by decide) (backOf (W := 0) (rm37_22 l Z a0 hw [] p1 p2 f  h0 n0 Z0 i0 i1) hZ (wd hw 218 rfl) (wd hw 217 rfl) (by decide) (by decide)) (g := (mkF m 5 #[.val (.int p1), .val (.int p2)] [(.ref f), (.int p2), (.int p1)])) rfl (by rw [hml]; rfl) (argsL := [(.int p1), (.int p2), (.ref f)]) (rest := []) (lenOf pd_12 rfl) rfl (wr0 rfl rfl) (hb hby d50_5) (fun _ _ => ⟨rfl, e102, (by decide : 0 + 0 ≤ _), (by decide : 0 + 0 ≤ _)⟩)
  dsimp only [Pt.U, Pt.locs, Pt.cells, Pt.slots] at X103 l103 y103 z103 st103 hQ103
  subst l103 y103 z103
  obtain ⟨rfl, N103q, e103⟩ := hQ103
  have N103 := Fr.app N0 N103q
  refine Goes.of st103 ?_
  refine gO (fun t k => XS.pop X103.here hx rfl (hb hby d50_8) rfl rfl k) ?_
  show Goes p e below (T103.setTop (mkF m 9 #[.val (.int p1), .val (.int p2)] [])) _
  exact Goes.retV X103 hx Bd.returns hlocks (hb hby d50_9) (⟨rfl, N103, e103⟩) (by decide) (by decide)
theorem ef_49 (m : MethodId) (x0 : Addr) (x1 : Int32) : entryFrame m #[(.ref x0), (.int x1)] 2 = mkF m 0 #[.val (.ref x0), .val (.int x1)] [] := by first | (simp [entryFrame, mkF, argsToLocals, Value.category]; done) | rfl
def Q49 (Z : State) (a1 : Addr) (p2 : Int32) (kb : ClassId) (z : Int32) (us : List Int32) (fm : Value) (h0 : Heap) (n0 : Nat) (v : Option Value) (h : Heap) (L : List Loc) : Prop := v = some (.int (us.getD p2.toNatClampNeg 0)) ∧ Fr n0 L ∧ h = h0
theorem rm49 (l : Launch) (Z : State) (a0 : Array Value) (hw : ∀ d ∈ tables_1, d.before a0 Z = true) (ws : List Jvm.Cond) (a1 : Addr) (p2 : Int32) (kb : ClassId) (z : Int32) (us : List Int32) (fm : Value) (h0 : Heap) (n0 : Nat) (Z0 : n0 ≤ h0.size) (O0 : Old Z n0 h0) (SF : Sta Z Z.heap "jdk/internal/util/Preconditions" "SIOOBE_FORMATTER" "Ljava/util/function/BiFunction;" fm) (hfm : fm = .null ∨ ∃ f : Addr, fm = .ref f) (A : Arv Z h0 a1 kb .byte z (own_vb (us)) (.int (0 : Int32))) (i0 : ¬ (p2 < 0)) (i1 : p2 < z) (lt : own_lat us) :
 CT l Z mn45 jdk_43_method_2_code 2 (some .char) ws (⟨2, 0, 0, 27⟩ : Room) #[(.ref a1), (.int p2)] h0 (Q49 Z a1 p2 kb z us fm h0 n0) := by
 refine MetFree.of_bodySF (plainFor_of_name pn_14) hisR ?_
 intro p e s m args below meth c s₁ Bd hml0 hP hK
 obtain ⟨rfl, hZ, hh⟩ := hP
 have hx := Bd.exec
 have hby := Bd.bytes
 have hml : c.maxLocals = 2 := hml0
 have hown : s.vm.findClass "java/lang/StringLatin1" = some m.cls := findClass_of_methodNamed Bd.named
 have hnm := (name_of_methodNamed Bd.named Bd.method).1
 have hlocks : meth.locks = false := BodyLoose.notSynchronized Bd
 have X0 : Stand p l e (⟨2, 0, 0, 27⟩ : Room) s m #[(.ref a1), (.int p2)] below meth c s₁ [] 0 0 := Stand.of_body Bd
 have e0 : s₁.heap = h0 := by rw [← hh, Bd.state]; rfl
 have N0 := Fr.nil n0
 show Goes p e below (s₁.setTop (entryFrame m #[(.ref a1), (.int p2)] 2)) (Fin s (Q49 Z a1 p2 kb z us fm h0 n0) (⟨2, 0, 0, 27⟩ : Room).cells (⟨2, 0, 0, 27⟩ : Room).slots)
 refine Goes.of (fun t k => castTop (ef_49 m a1 p2) k) ?_
 refine gO (fun t k => XS.iloadN X0.here hx rfl (hb hby d49_0) rfl k) ?_
 refine gO (fun t k => XS.aloadN X0.here hx rfl (hb hby d49_1) rfl rfl k) ?_
 have Vc100 := A
 obtain ⟨clc100, Arc100, qc100, Sc100, Nc100, Hc100, Gc100⟩ := Vc100
 refine Goes.of (X0.arraylength hx (by rw [e0]; exact Arc100.1) (State.isArrayOf_alike hZ.alike Arc100.2.1) (g := (mkF m 2 #[.val (.ref a1), .val (.int p2)] [(.ref a1), (.int p2)])) rfl rfl (hb hby d49_2)) ?_
 rw [len_of Sc100 Nc100]
 obtain ⟨_, _, ⟨T101, L101, k101, n101⟩, -, X101, ⟨Lc101, hQ101, l101, y101, z101⟩, st101⟩ := Jvm.LawKit.callS X0 hx (y := mn44) hown (mvT hZ (wd hw 281 rfl)) (mvT hZ (wd hw 282 rfl)) (mvT hZ (wd hw 61 rfl)) (mvT hZ (wd hw 283 rfl)) (by decide) (backOf (W := 0) (rm50 l Z a0 hw [] p2 z fm h0 n0 Z0 O0 SF hfm i0 i1) hZ (wd hw 283 rfl) (wd hw 61 rfl) (by decide) (by decide)) (g := (mkF m 3 #[.val (.ref a1), .val (.int p2)] [(.int z), (.int p2)])) rfl (by rw [hml]; rfl) (argsL := [(.int p2), (.int z)]) (rest := []) (lenOf pd_31 rfl) rfl (wr0 rfl rfl) (hb hby d49_3) (fun _ _ => ⟨rfl, e0, (by decide : 0 + 0 ≤ _), (by decide : 0 + 0 ≤ _)⟩)
 dsimp only [Pt.U, Pt.locs, Pt.cells, Pt.slots] at X101 l101 y101 z101 st101 hQ101
 subst l101 y101 z101
 obtain ⟨rfl, N101q, e101⟩ := hQ101
 have N101 := Fr.app N0 N101q
 refine Goes.of st101 ?_
 refine gO (fun t k => XS.aloadN X101.here hx rfl (hb hby d49_6) rfl rfl k) ?_
 refine gO (fun t k => XS.iloadN X101.here hx rfl (hb hby d49_7) rfl k) ?_
 show Goes p e below (T101.setTop (mkF m 8 #[.val (.ref a1), .val (.int p2)] [(.int p2), (.ref a1)])) _
 have Vc102 := A
 obtain ⟨clc102, Arc102, qc102, Sc102, Nc102, Hc102, Gc102⟩ := Vc102
 have hin103 : ¬ (p2 < 0 ∨ clc102.slots.size ≤ (p2).toNatClampNeg) := inb_of Sc102 ⟨i0, i1⟩
 have hat104 : clc102.slots[(p2).toNatClampNeg]? = some (.int ((us.getD p2.toNatClampNeg 0).toInt8.toInt32)) := Hc102.at hin103 (own_gb _ _)
 refine gO (fun t k => X101.baloadBytes hx (j := p2) (v := (.int ((us.getD p2.toNatClampNeg 0).toInt8.toInt32))) (by rw [e101]; exact Arc102.1) (State.isArrayOf_alike hZ.alike Arc102.2.1) Arc102.2.2 hin103 hat104 (g := (mkF m 8 #[.val (.ref a1), .val (.int p2)] [(.int p2), (.ref a1)])) rfl rfl (hb hby d49_8) _ k) ?_
 refine gO (fun t k => XS.sipush X101.here hx rfl (hb hby d49_9) k) ?_
 refine gO (fun t k => XS.iand X101.here hx rfl (hb hby d49_12) rfl k) ?_
 refine gO (fun t k => XS.i2c X101.here hx rfl (hb hby d49_13) rfl k) ?_
 show Goes p e below (T101.setTop (mkF m 14 #[.val (.ref a1), .val (.int p2)] [(.int ((((us.getD p2.toNatClampNeg 0).toInt8.toInt32) &&& (255 : Int32)).toUInt32.toUInt16.toUInt32.toInt32))])) _
 exact Goes.retN (t := .char) X101 hx Bd.returns (by simp) hlocks (hb hby d49_14) (⟨congrArg (fun q => some (Value.int q)) (own_ch _ (own_latD lt _).1 (own_latD lt _).2), N101, e101⟩) (by decide) (by decide)
theorem ef_47 (m : MethodId) (x0 : Addr) (x1 : Int32) : entryFrame m #[(.ref x0), (.int x1)] 2 = mkF m 0 #[.val (.ref x0), .val (.int x1)] [] := by first | (simp [entryFrame, mkF, argsToLocals, Value.category]; done) | rfl
def Q47 (Z : State) (a1 : Addr) (p2 cmS : Int32) (b : Addr) (kb : ClassId) (z : Int32) (us : List Int32) (fm : Value) (h0 : Heap) (n0 : Nat) (v : Option Value) (h : Heap) (L : List Loc) : Prop := v = some (.int (us.getD p2.toNatClampNeg 0)) ∧ Fr n0 L ∧ h = h0
theorem rm47 (l : Launch) (Z : State) (a0 : Array Value) (hw : ∀ d ∈ tables_1, d.before a0 Z = true) (ws : List Jvm.Cond) (a1 : Addr) (p2 cmS : Int32) (b : Addr) (kb : ClassId) (z : Int32) (us : List Int32) (fm : Value) (h0 : Heap) (n0 : Nat) (Z0 : n0 ≤ h0.size) (O0 : Old Z n0 h0) (SC : Sta Z Z.heap "java/lang/String" "COMPACT_STRINGS" "Z" (.int cmS)) (cs0 : cmS ≠ 0) (SF : Sta Z Z.heap "jdk/internal/util/Preconditions" "SIOOBE_FORMATTER" "Ljava/util/function/BiFunction;" fm) (hfm : fm = .null ∨ ∃ f : Addr, fm = .ref f) (E_a1 : Exa Z h0 a1 "java/lang/String") (F_c_a1 : Fl5 Z h0 a1 (.int 0)) (F_w_a1 : Fl6 Z h0 a1 (.ref b)) (V_b : Arv Z h0 b kb .byte z (own_vb (us)) (.int (0 : Int32))) (i0 : ¬ (p2 < 0)) (i1 : p2 < z) (lt : own_lat us) :
 CT l Z mn46 jdk_42_method_56_code 2 (some .char) ws (⟨3, 0, 0, 40⟩ : Room) #[(.ref a1), (.int p2)] h0 (Q47 Z a1 p2 cmS b kb z us fm h0 n0) := by
 refine MetFree.of_bodySF (plainFor_of_name pn_15) hisR ?_
 intro p e s m args below meth c s₁ Bd hml0 hP hK
 obtain ⟨rfl, hZ, hh⟩ := hP
 have hx := Bd.exec
 have hby := Bd.bytes
 have hml : c.maxLocals = 2 := hml0
 have hown : s.vm.findClass "java/lang/String" = some m.cls := findClass_of_methodNamed Bd.named
 have hnm := (name_of_methodNamed Bd.named Bd.method).1
 have hlocks : meth.locks = false := BodyLoose.notSynchronized Bd
 have X0 : Stand p l e (⟨3, 0, 0, 40⟩ : Room) s m #[(.ref a1), (.int p2)] below meth c s₁ [] 0 0 := Stand.of_body Bd
 have e0 : s₁.heap = h0 := by rw [← hh, Bd.state]; rfl
 have N0 := Fr.nil n0
 show Goes p e below (s₁.setTop (entryFrame m #[(.ref a1), (.int p2)] 2)) (Fin s (Q47 Z a1 p2 cmS b kb z us fm h0 n0) (⟨3, 0, 0, 40⟩ : Room).cells (⟨3, 0, 0, 40⟩ : Room).slots)
 refine Goes.of (fun t k => castTop (ef_47 m a1 p2) k) ?_
 refine gO (fun t k => XS.aloadN X0.here hx rfl (hb hby d47_0) rfl rfl k) ?_
 obtain ⟨cq100, kq100, q100a, q100b, q100c⟩ := isOf hZ e0 E_a1
 obtain ⟨_, _, ⟨T100, L100, k100, n100⟩, -, X100, ⟨Lc100, hQ100, l100, y100, z100⟩, st100⟩ := X0.virtualBack hx (y := mn43) (z := mn43) hown (mvT hZ (wd hw 273 rfl)) (mvT hZ (wd hw 274 rfl)) (notFace_of_selects (args := #[]) (mvT hZ (wd hw 276 rfl))) (mvT hZ (wd hw 276 rfl)) (mvT hZ (wd hw 275 rfl)) (by decide) (backOf (W := 0) (rm48 l Z a0 hw [] a1 cmS b kb z us h0 n0 Z0 O0 SC cs0 E_a1 F_c_a1 F_w_a1 V_b) hZ (wd hw 277 rfl) (wd hw 61 rfl) (by decide) (by decide)) q100a q100c (g := (mkF m 1 #[.val (.ref a1), .val (.int p2)] [(.ref a1)])) rfl (by rw [hml]; rfl) (Steps.refl _) (argsL := []) (rest := []) (lenOf pd_28 rfl) rfl (wr0 rfl rfl) (hb hby d47_1) (fun _ _ => ⟨rfl, e0, (by decide : 0 + 0 ≤ _), (by decide : 0 + 0 ≤ _)⟩)
 dsimp only [Pt.U, Pt.locs, Pt.cells, Pt.slots] at X100 l100 y100 z100 st100 hQ100
 subst l100 y100 z100
 obtain ⟨rfl, N100q, e100⟩ := hQ100
 have N100 := Fr.app N0 N100q
 refine Goes.of (fun t k => st100.trans k) ?_
 refine gO (fun t k => XS.ifNo X100.here hx rfl (hb hby d47_4) rfl ((if0 _ _).trans (feq (by decide)).1) k) ?_
 refine gO (fun t k => XS.aloadN X100.here hx rfl (hb hby d47_7) rfl rfl k) ?_
 show Goes p e below (T100.setTop (mkF m 8 #[.val (.ref a1), .val (.int p2)] [(.ref a1)])) _
 obtain ⟨T101, X101, e101, st101⟩ := getF X100 hx hZ hown (host := "") (Or.inl (wd hw 134 rfl)) Via.refl e100 F_w_a1 (g := (mkF m 8 #[.val (.ref a1), .val (.int p2)] [(.ref a1)])) rfl rfl (hb hby d47_8)
 refine Goes.of st101 ?_
 refine gO (fun t k => XS.iloadN X101.here hx rfl (hb hby d47_11) rfl k) ?_
 obtain ⟨_, _, ⟨T102, L102, k102, n102⟩, -, X102, ⟨Lc102, hQ102, l102, y102, z102⟩, st102⟩ := Jvm.LawKit.callS X101 hx (y := mn45) hown (mvT hZ (wd hw 278 rfl)) (mvT hZ (wd hw 279 rfl)) (mvT hZ (wd hw 155 rfl)) (mvT hZ (wd hw 280 rfl)) (by decide) (backOf (W := 0) (rm49 l Z a0 hw [] b p2 kb z us fm h0 n0 Z0 O0 SF hfm V_b i0 i1 lt) hZ (wd hw 280 rfl) (wd hw 155 rfl) (by decide) (by decide)) (g := (mkF m 12 #[.val (.ref a1), .val (.int p2)] [(.int p2), (.ref b)])) rfl (by rw [hml]; rfl) (argsL := [(.ref b), (.int p2)]) (rest := []) (lenOf pd_36 rfl) rfl (wr0 rfl rfl) (hb hby d47_12) (fun _ _ => ⟨rfl, e101, (by decide : 0 + 0 ≤ _), (by decide : 0 + 0 ≤ _)⟩)
 dsimp only [Pt.U, Pt.locs, Pt.cells, Pt.slots] at X102 l102 y102 z102 st102 hQ102
 subst l102 y102 z102
 obtain ⟨rfl, N102q, e102⟩ := hQ102
 have N102 := Fr.app N100 N102q
 refine Goes.of st102 ?_
 show Goes p e below (T102.setTop (mkF m 15 #[.val (.ref a1), .val (.int p2)] [(.int (us.getD p2.toNatClampNeg 0))])) _
 exact Goes.retN (t := .char) X102 hx Bd.returns (by simp) hlocks (hb hby d47_15) (⟨congrArg (fun q => some (Value.int q)) (own_nch _ (own_latD lt _).1 (own_latD lt _).2), N102, e102⟩) (by decide) (by decide)
theorem ef_22 (m : MethodId) (x0 x1 : Addr) (x2 : Int32) : entryFrame m #[(.ref x0), (.ref x1), (.int x2)] 3 = mkF m 0 #[.val (.ref x0), .val (.ref x1), .val (.int x2)] [] := by first | (simp [entryFrame, mkF, argsToLocals, Value.category]; done) | rfl
def Q22 (Z : State) (a1 a2 : Addr) (p3 cmS : Int32) (b : Addr) (kb : ClassId) (z : Int32) (us : List Int32) (k2 : ClassId) (fm : Value) (h0 : Heap) (n0 : Nat) (v : Option Value) (h : Heap) (L : List Loc) : Prop := v = some (.int 1) ∧ Fr n0 L ∧ h = h0
theorem rm22 (l : Launch) (Z : State) (a0 : Array Value) (hw : ∀ d ∈ tables_1, d.before a0 Z = true) (ws : List Jvm.Cond) (a1 a2 : Addr) (p3 cmS : Int32) (b : Addr) (kb : ClassId) (z : Int32) (us : List Int32) (k2 : ClassId) (fm : Value) (h0 : Heap) (n0 : Nat) (Z0 : n0 ≤ h0.size) (O0 : Old Z n0 h0) (SC : Sta Z Z.heap "java/lang/String" "COMPACT_STRINGS" "Z" (.int cmS)) (cs0 : cmS ≠ 0) (SF : Sta Z Z.heap "jdk/internal/util/Preconditions" "SIOOBE_FORMATTER" "Ljava/util/function/BiFunction;" fm) (hfm : fm = .null ∨ ∃ f : Addr, fm = .ref f) (E_a1 : Exa Z h0 a1 "java/lang/String") (F_c_a1 : Fl5 Z h0 a1 (.int 0)) (F_w_a1 : Fl6 Z h0 a1 (.ref b)) (V_b : Arv Z h0 b kb .byte z (own_vb (us)) (.int (0 : Int32))) (V_a2 : Arv Z h0 a2 k2 .char (12 : Int32) (own_vc (us)) (.int (0 : Int32))) (hz : z.toInt = us.length) (hp : p3.toInt = us.length) (lt : own_lat us) :
 CT l Z mn47 method_4_code 3 (some .boolean) ws (⟨4, 0, 0, 53⟩ : Room) #[(.ref a1), (.ref a2), (.int p3)] h0 (Q22 Z a1 a2 p3 cmS b kb z us k2 fm h0 n0) := by
 refine MetFree.of_bodySF (plainFor_of_name pn_37) hisR ?_
 intro p e s m args below meth c s₁ Bd hml0 hP hK
 obtain ⟨rfl, hZ, hh⟩ := hP
 have hx := Bd.exec
 have hby := Bd.bytes
 have hml : c.maxLocals = 3 := hml0
 have hown : s.vm.findClass "com/example/hinta/hinta/StatementTextPinLaw" = some m.cls := findClass_of_methodNamed Bd.named
 have hnm := (name_of_methodNamed Bd.named Bd.method).1
 have hlocks : meth.locks = false := BodyLoose.notSynchronized Bd
 have X0 : Stand p l e (⟨4, 0, 0, 53⟩ : Room) s m #[(.ref a1), (.ref a2), (.int p3)] below meth c s₁ [] 0 0 := Stand.of_body Bd
 have e0 : s₁.heap = h0 := by rw [← hh, Bd.state]; rfl
 have N0 := Fr.nil n0
 show Goes p e below (s₁.setTop (entryFrame m #[(.ref a1), (.ref a2), (.int p3)] 3)) (Fin s (Q22 Z a1 a2 p3 cmS b kb z us k2 fm h0 n0) (⟨4, 0, 0, 53⟩ : Room).cells (⟨4, 0, 0, 53⟩ : Room).slots)
 refine Goes.of (fun t k => castTop (ef_22 m a1 a2 p3) k) ?_
 refine gO (fun t k => XS.aloadN X0.here hx rfl (hb hby d22_0) rfl rfl k) ?_
 obtain ⟨cq100, kq100, q100a, q100b, q100c⟩ := isOf hZ e0 E_a1
 obtain ⟨_, _, ⟨T100, L100, k100, n100⟩, -, X100, ⟨Lc100, hQ100, l100, y100, z100⟩, st100⟩ := X0.virtualBack hx (y := mn21) (z := mn21) hown (mvT hZ (wd hw 139 rfl)) (mvT hZ (wd hw 140 rfl)) (notFace_of_selects (args := #[]) (mvT hZ (wd hw 142 rfl))) (mvT hZ (wd hw 142 rfl)) (mvT hZ (wd hw 141 rfl)) (by decide) (backOf (W := 0) (rm23 l Z a0 hw [] a1 cmS b kb z us h0 n0 Z0 O0 SC cs0 E_a1 F_c_a1 F_w_a1 V_b) hZ (wd hw 143 rfl) (wd hw 61 rfl) (by decide) (by decide)) q100a q100c (g := (mkF m 1 #[.val (.ref a1), .val (.ref a2), .val (.int p3)] [(.ref a1)])) rfl (by rw [hml]; rfl) (Steps.refl _) (argsL := []) (rest := []) (lenOf pd_23 rfl) rfl (wr0 rfl rfl) (hb hby d22_1) (fun _ _ => ⟨rfl, e0, (by decide : 0 + 0 ≤ _), (by decide : 0 + 0 ≤ _)⟩)
 dsimp only [Pt.U, Pt.locs, Pt.cells, Pt.slots] at X100 l100 y100 z100 st100 hQ100
 subst l100 y100 z100
 obtain ⟨rfl, N100q, e100⟩ := hQ100
 have N100 := Fr.app N0 N100q
 refine Goes.of (fun t k => st100.trans k) ?_
 refine gO (fun t k => XS.iloadN X100.here hx rfl (hb hby d22_4) rfl k) ?_
 have hzp : z = p3 := Int32.toInt_inj.mp (hz.trans hp.symm)
 have hd5_101 : z = p3 := hzp
 refine gO (fun t k => XS.icmpYes X100.here hx rfl (pc0 := 5) (pc' := 10) rfl (hb hby d22_5) rfl (teq hd5_101).1 (by decide) (by decide) k) ?_
 refine gO (fun t k => XS.iloadN X100.here hx rfl (hb hby d22_10) rfl k) ?_
 show Goes p e below (T100.setTop (mkF m 11 #[.val (.ref a1), .val (.ref a2), .val (.int p3)] [(.int p3)])) _
 have J110 : ∀ (T110 : State) (L110 : List Loc) (X110 : Stand p l e (⟨4, 0, 0, 53⟩ : Room) s m #[(.ref a1), (.ref a2), (.int p3)] below meth c T110 L110 0 0) (e110 : T110.heap = h0) (N110 : Fr n0 L110), Goes p e below (T110.setTop (mkF m 27 #[.val (.ref a1), .val (.ref a2), .val (.int p3)] [])) (Fin s (Q22 Z a1 a2 p3 cmS b kb z us k2 fm h0 n0) (⟨4, 0, 0, 53⟩ : Room).cells (⟨4, 0, 0, 53⟩ : Room).slots) := by
  intro T110 L110 X110 e110 N110
  refine gO (fun t k => XS.iloadN X110.here hx rfl (hb hby d22_27) rfl k) ?_
  refine gO (fun t k => XS.iconst X110.here hx rfl (hb hby d22_28) k) ?_
  have J119 : ∀ (T119 : State) (L119 : List Loc) (X119 : Stand p l e (⟨4, 0, 0, 53⟩ : Room) s m #[(.ref a1), (.ref a2), (.int p3)] below meth c T119 L119 0 0) (e119 : T119.heap = h0) (N119 : Fr n0 L119), Goes p e below (T119.setTop (mkF m 45 #[.val (.ref a1), .val (.ref a2), .val (.int p3)] [])) (Fin s (Q22 Z a1 a2 p3 cmS b kb z us k2 fm h0 n0) (⟨4, 0, 0, 53⟩ : Room).cells (⟨4, 0, 0, 53⟩ : Room).slots) := by
   intro T119 L119 X119 e119 N119
   refine gO (fun t k => XS.iloadN X119.here hx rfl (hb hby d22_45) rfl k) ?_
   refine gO (fun t k => XS.iconst X119.here hx rfl (hb hby d22_46) k) ?_
   have J128 : ∀ (T128 : State) (L128 : List Loc) (X128 : Stand p l e (⟨4, 0, 0, 53⟩ : Room) s m #[(.ref a1), (.ref a2), (.int p3)] below meth c T128 L128 0 0) (e128 : T128.heap = h0) (N128 : Fr n0 L128), Goes p e below (T128.setTop (mkF m 63 #[.val (.ref a1), .val (.ref a2), .val (.int p3)] [])) (Fin s (Q22 Z a1 a2 p3 cmS b kb z us k2 fm h0 n0) (⟨4, 0, 0, 53⟩ : Room).cells (⟨4, 0, 0, 53⟩ : Room).slots) := by
    intro T128 L128 X128 e128 N128
    refine gO (fun t k => XS.iloadN X128.here hx rfl (hb hby d22_63) rfl k) ?_
    refine gO (fun t k => XS.iconst X128.here hx rfl (hb hby d22_64) k) ?_
    have J137 : ∀ (T137 : State) (L137 : List Loc) (X137 : Stand p l e (⟨4, 0, 0, 53⟩ : Room) s m #[(.ref a1), (.ref a2), (.int p3)] below meth c T137 L137 0 0) (e137 : T137.heap = h0) (N137 : Fr n0 L137), Goes p e below (T137.setTop (mkF m 81 #[.val (.ref a1), .val (.ref a2), .val (.int p3)] [])) (Fin s (Q22 Z a1 a2 p3 cmS b kb z us k2 fm h0 n0) (⟨4, 0, 0, 53⟩ : Room).cells (⟨4, 0, 0, 53⟩ : Room).slots) := by
     intro T137 L137 X137 e137 N137
     refine gO (fun t k => XS.iloadN X137.here hx rfl (hb hby d22_81) rfl k) ?_
     refine gO (fun t k => XS.iconst X137.here hx rfl (hb hby d22_82) k) ?_
     have J146 : ∀ (T146 : State) (L146 : List Loc) (X146 : Stand p l e (⟨4, 0, 0, 53⟩ : Room) s m #[(.ref a1), (.ref a2), (.int p3)] below meth c T146 L146 0 0) (e146 : T146.heap = h0) (N146 : Fr n0 L146), Goes p e below (T146.setTop (mkF m 99 #[.val (.ref a1), .val (.ref a2), .val (.int p3)] [])) (Fin s (Q22 Z a1 a2 p3 cmS b kb z us k2 fm h0 n0) (⟨4, 0, 0, 53⟩ : Room).cells (⟨4, 0, 0, 53⟩ : Room).slots) := by
      intro T146 L146 X146 e146 N146
      refine gO (fun t k => XS.iloadN X146.here hx rfl (hb hby d22_99) rfl k) ?_
      refine gO (fun t k => XS.iconst X146.here hx rfl (hb hby d22_100) k) ?_
      have J155 : ∀ (T155 : State) (L155 : List Loc) (X155 : Stand p l e (⟨4, 0, 0, 53⟩ : Room) s m #[(.ref a1), (.ref a2), (.int p3)] below meth c T155 L155 0 0) (e155 : T155.heap = h0) (N155 : Fr n0 L155), Goes p e below (T155.setTop (mkF m 117 #[.val (.ref a1), .val (.ref a2), .val (.int p3)] [])) (Fin s (Q22 Z a1 a2 p3 cmS b kb z us k2 fm h0 n0) (⟨4, 0, 0, 53⟩ : Room).cells (⟨4, 0, 0, 53⟩ : Room).slots) := by
       intro T155 L155 X155 e155 N155
       refine gO (fun t k => XS.iloadN X155.here hx rfl (hb hby d22_117) rfl k) ?_
       refine gO (fun t k => XS.bipush X155.here hx rfl (hb hby d22_118) k) ?_
       have J164 : ∀ (T164 : State) (L164 : List Loc) (X164 : Stand p l e (⟨4, 0, 0, 53⟩ : Room) s m #[(.ref a1), (.ref a2), (.int p3)] below meth c T164 L164 0 0) (e164 : T164.heap = h0) (N164 : Fr n0 L164), Goes p e below (T164.setTop (mkF m 138 #[.val (.ref a1), .val (.ref a2), .val (.int p3)] [])) (Fin s (Q22 Z a1 a2 p3 cmS b kb z us k2 fm h0 n0) (⟨4, 0, 0, 53⟩ : Room).cells (⟨4, 0, 0, 53⟩ : Room).slots) := by
        intro T164 L164 X164 e164 N164
        refine gO (fun t k => XS.iloadN X164.here hx rfl (hb hby d22_138) rfl k) ?_
        refine gO (fun t k => XS.bipush X164.here hx rfl (hb hby d22_139) k) ?_
        have J173 : ∀ (T173 : State) (L173 : List Loc) (X173 : Stand p l e (⟨4, 0, 0, 53⟩ : Room) s m #[(.ref a1), (.ref a2), (.int p3)] below meth c T173 L173 0 0) (e173 : T173.heap = h0) (N173 : Fr n0 L173), Goes p e below (T173.setTop (mkF m 159 #[.val (.ref a1), .val (.ref a2), .val (.int p3)] [])) (Fin s (Q22 Z a1 a2 p3 cmS b kb z us k2 fm h0 n0) (⟨4, 0, 0, 53⟩ : Room).cells (⟨4, 0, 0, 53⟩ : Room).slots) := by
         intro T173 L173 X173 e173 N173
         refine gO (fun t k => XS.iloadN X173.here hx rfl (hb hby d22_159) rfl k) ?_
         refine gO (fun t k => XS.bipush X173.here hx rfl (hb hby d22_160) k) ?_
         have J182 : ∀ (T182 : State) (L182 : List Loc) (X182 : Stand p l e (⟨4, 0, 0, 53⟩ : Room) s m #[(.ref a1), (.ref a2), (.int p3)] below meth c T182 L182 0 0) (e182 : T182.heap = h0) (N182 : Fr n0 L182), Goes p e below (T182.setTop (mkF m 180 #[.val (.ref a1), .val (.ref a2), .val (.int p3)] [])) (Fin s (Q22 Z a1 a2 p3 cmS b kb z us k2 fm h0 n0) (⟨4, 0, 0, 53⟩ : Room).cells (⟨4, 0, 0, 53⟩ : Room).slots) := by
          intro T182 L182 X182 e182 N182
          refine gO (fun t k => XS.iloadN X182.here hx rfl (hb hby d22_180) rfl k) ?_
          refine gO (fun t k => XS.bipush X182.here hx rfl (hb hby d22_181) k) ?_
          have J191 : ∀ (T191 : State) (L191 : List Loc) (X191 : Stand p l e (⟨4, 0, 0, 53⟩ : Room) s m #[(.ref a1), (.ref a2), (.int p3)] below meth c T191 L191 0 0) (e191 : T191.heap = h0) (N191 : Fr n0 L191), Goes p e below (T191.setTop (mkF m 201 #[.val (.ref a1), .val (.ref a2), .val (.int p3)] [])) (Fin s (Q22 Z a1 a2 p3 cmS b kb z us k2 fm h0 n0) (⟨4, 0, 0, 53⟩ : Room).cells (⟨4, 0, 0, 53⟩ : Room).slots) := by
           intro T191 L191 X191 e191 N191
           refine gO (fun t k => XS.iloadN X191.here hx rfl (hb hby d22_201) rfl k) ?_
           refine gO (fun t k => XS.bipush X191.here hx rfl (hb hby d22_202) k) ?_
           have J200 : ∀ (T200 : State) (L200 : List Loc) (X200 : Stand p l e (⟨4, 0, 0, 53⟩ : Room) s m #[(.ref a1), (.ref a2), (.int p3)] below meth c T200 L200 0 0) (e200 : T200.heap = h0) (N200 : Fr n0 L200), Goes p e below (T200.setTop (mkF m 222 #[.val (.ref a1), .val (.ref a2), .val (.int p3)] [])) (Fin s (Q22 Z a1 a2 p3 cmS b kb z us k2 fm h0 n0) (⟨4, 0, 0, 53⟩ : Room).cells (⟨4, 0, 0, 53⟩ : Room).slots) := by
            intro T200 L200 X200 e200 N200
            refine gO (fun t k => XS.iloadN X200.here hx rfl (hb hby d22_222) rfl k) ?_
            refine gO (fun t k => XS.bipush X200.here hx rfl (hb hby d22_223) k) ?_
            have J209 : ∀ (T209 : State) (L209 : List Loc) (X209 : Stand p l e (⟨4, 0, 0, 53⟩ : Room) s m #[(.ref a1), (.ref a2), (.int p3)] below meth c T209 L209 0 0) (e209 : T209.heap = h0) (N209 : Fr n0 L209), Goes p e below (T209.setTop (mkF m 243 #[.val (.ref a1), .val (.ref a2), .val (.int p3)] [])) (Fin s (Q22 Z a1 a2 p3 cmS b kb z us k2 fm h0 n0) (⟨4, 0, 0, 53⟩ : Room).cells (⟨4, 0, 0, 53⟩ : Room).slots) := by
             intro T209 L209 X209 e209 N209
             refine gO (fun t k => XS.iconst X209.here hx rfl (hb hby d22_243) k) ?_
             show Goes p e below (T209.setTop (mkF m 244 #[.val (.ref a1), .val (.ref a2), .val (.int p3)] [(.int 1)])) _
             exact Goes.retN (t := .boolean) X209 hx Bd.returns (by simp) hlocks (hb hby d22_244) (⟨rfl, N209, e209⟩) (by decide) (by decide)
            by_cases hc225_201 : (11 : Int32) < p3
            ·refine gO (fun t k => XS.icmpNo X200.here hx rfl (hb hby d22_225) rfl (tlt hc225_201).2.2.2 k) ?_
             refine gO (fun t k => XS.aloadN X200.here hx rfl (hb hby d22_228) rfl rfl k) ?_
             refine gO (fun t k => XS.bipush X200.here hx rfl (hb hby d22_229) k) ?_
             show Goes p e below (T200.setTop (mkF m 231 #[.val (.ref a1), .val (.ref a2), .val (.int p3)] [(.int 11), (.ref a1)])) _
             obtain ⟨cq202, kq202, q202a, q202b, q202c⟩ := isOf hZ e200 E_a1
             obtain ⟨_, _, ⟨T202, L202, k202, n202⟩, -, X202, ⟨Lc202, hQ202, l202, y202, z202⟩, st202⟩ := X200.virtualBack hx (y := mn46) (z := mn46) hown (mvT hZ (wd hw 268 rfl)) (mvT hZ (wd hw 269 rfl)) (notFace_of_selects (args := #[]) (mvT hZ (wd hw 271 rfl))) (mvT hZ (wd hw 271 rfl)) (mvT hZ (wd hw 270 rfl)) (by decide) (backOf (W := 0) (rm47 l Z a0 hw [] a1 (11 : Int32) cmS b kb z us fm h0 n0 Z0 O0 SC cs0 SF hfm E_a1 F_c_a1 F_w_a1 V_b (by decide) (by rw [hzp]; exact hc225_201) lt) hZ (wd hw 272 rfl) (wd hw 61 rfl) (by decide) (by decide)) q202a q202c (g := (mkF m 231 #[.val (.ref a1), .val (.ref a2), .val (.int p3)] [(.int 11), (.ref a1)])) rfl (by rw [hml]; rfl) (Steps.refl _) (argsL := [(.int 11)]) (rest := []) (lenOf pd_38 rfl) rfl (wr0 rfl rfl) (hb hby d22_231) (fun _ _ => ⟨rfl, e200, (by decide : 0 + 0 ≤ _), (by decide : 0 + 0 ≤ _)⟩)
             dsimp only [Pt.U, Pt.locs, Pt.cells, Pt.slots] at X202 l202 y202 z202 st202 hQ202
             subst l202 y202 z202
             obtain ⟨rfl, N202q, e202⟩ := hQ202
             have N202 := Fr.app N200 N202q
             refine Goes.of (fun t k => st202.trans k) ?_
             refine gO (fun t k => XS.aloadN X202.here hx rfl (hb hby d22_234) rfl rfl k) ?_
             refine gO (fun t k => XS.bipush X202.here hx rfl (hb hby d22_235) k) ?_
             have Vc203 := V_a2
             obtain ⟨clc203, Arc203, qc203, Sc203, Nc203, Hc203, Gc203⟩ := Vc203
             have hin204 : ¬ ((11 : Int32) < 0 ∨ clc203.slots.size ≤ ((11 : Int32)).toNatClampNeg) := inb_of Sc203 ⟨by decide, by decide⟩
             have hat205 : clc203.slots[((11 : Int32)).toNatClampNeg]? = some (.int (us.getD ((11 : Int32)).toNatClampNeg 0)) := Hc203.at hin204 (own_gc _ _)
             refine gO (fun t k => X202.caload hx (j := (11 : Int32)) (v := (.int (us.getD ((11 : Int32)).toNatClampNeg 0))) (by rw [e202]; exact Arc203.1) (State.isArrayOf_alike hZ.alike Arc203.2.1) Arc203.2.2 hin204 hat205 (g := (mkF m 237 #[.val (.ref a1), .val (.ref a2), .val (.int p3)] [(.int 11), (.ref a2), (.int (us.getD ((11 : Int32)).toNatClampNeg 0))])) rfl rfl (hb hby d22_237) _ k) ?_
             have hd238_206 : (us.getD ((11 : Int32)).toNatClampNeg 0) = (us.getD ((11 : Int32)).toNatClampNeg 0) := rfl
             refine gO (fun t k => XS.icmpYes X202.here hx rfl (pc0 := 238) (pc' := 243) rfl (hb hby d22_238) rfl (teq hd238_206).1 (by decide) (by decide) k) ?_
             show Goes p e below (T202.setTop (mkF m 243 #[.val (.ref a1), .val (.ref a2), .val (.int p3)] [])) _
             show Goes p e below (T202.setTop (mkF m 243 #[.val (.ref a1), .val (.ref a2), .val (.int p3)] [])) _
             exact J209 _ _ X202 e202 N202
            ·refine gO (fun t k => XS.icmpYes X200.here hx rfl (pc0 := 225) (pc' := 243) rfl (hb hby d22_225) rfl (flt hc225_201).2.2.2 (by decide) (by decide) k) ?_
             show Goes p e below (T200.setTop (mkF m 243 #[.val (.ref a1), .val (.ref a2), .val (.int p3)] [])) _
             exact J209 _ _ X200 e200 N200
           by_cases hc204_192 : (10 : Int32) < p3
           ·refine gO (fun t k => XS.icmpNo X191.here hx rfl (hb hby d22_204) rfl (tlt hc204_192).2.2.2 k) ?_
            refine gO (fun t k => XS.aloadN X191.here hx rfl (hb hby d22_207) rfl rfl k) ?_
            refine gO (fun t k => XS.bipush X191.here hx rfl (hb hby d22_208) k) ?_
            show Goes p e below (T191.setTop (mkF m 210 #[.val (.ref a1), .val (.ref a2), .val (.int p3)] [(.int 10), (.ref a1)])) _
            obtain ⟨cq193, kq193, q193a, q193b, q193c⟩ := isOf hZ e191 E_a1
            obtain ⟨_, _, ⟨T193, L193, k193, n193⟩, -, X193, ⟨Lc193, hQ193, l193, y193, z193⟩, st193⟩ := X191.virtualBack hx (y := mn46) (z := mn46) hown (mvT hZ (wd hw 268 rfl)) (mvT hZ (wd hw 269 rfl)) (notFace_of_selects (args := #[]) (mvT hZ (wd hw 271 rfl))) (mvT hZ (wd hw 271 rfl)) (mvT hZ (wd hw 270 rfl)) (by decide) (backOf (W := 0) (rm47 l Z a0 hw [] a1 (10 : Int32) cmS b kb z us fm h0 n0 Z0 O0 SC cs0 SF hfm E_a1 F_c_a1 F_w_a1 V_b (by decide) (by rw [hzp]; exact hc204_192) lt) hZ (wd hw 272 rfl) (wd hw 61 rfl) (by decide) (by decide)) q193a q193c (g := (mkF m 210 #[.val (.ref a1), .val (.ref a2), .val (.int p3)] [(.int 10), (.ref a1)])) rfl (by rw [hml]; rfl) (Steps.refl _) (argsL := [(.int 10)]) (rest := []) (lenOf pd_38 rfl) rfl (wr0 rfl rfl) (hb hby d22_210) (fun _ _ => ⟨rfl, e191, (by decide : 0 + 0 ≤ _), (by decide : 0 + 0 ≤ _)⟩)
            dsimp only [Pt.U, Pt.locs, Pt.cells, Pt.slots] at X193 l193 y193 z193 st193 hQ193
            subst l193 y193 z193
            obtain ⟨rfl, N193q, e193⟩ := hQ193
            have N193 := Fr.app N191 N193q
            refine Goes.of (fun t k => st193.trans k) ?_
            refine gO (fun t k => XS.aloadN X193.here hx rfl (hb hby d22_213) rfl rfl k) ?_
            refine gO (fun t k => XS.bipush X193.here hx rfl (hb hby d22_214) k) ?_
            have Vc194 := V_a2
            obtain ⟨clc194, Arc194, qc194, Sc194, Nc194, Hc194, Gc194⟩ := Vc194
            have hin195 : ¬ ((10 : Int32) < 0 ∨ clc194.slots.size ≤ ((10 : Int32)).toNatClampNeg) := inb_of Sc194 ⟨by decide, by decide⟩
            have hat196 : clc194.slots[((10 : Int32)).toNatClampNeg]? = some (.int (us.getD ((10 : Int32)).toNatClampNeg 0)) := Hc194.at hin195 (own_gc _ _)
            refine gO (fun t k => X193.caload hx (j := (10 : Int32)) (v := (.int (us.getD ((10 : Int32)).toNatClampNeg 0))) (by rw [e193]; exact Arc194.1) (State.isArrayOf_alike hZ.alike Arc194.2.1) Arc194.2.2 hin195 hat196 (g := (mkF m 216 #[.val (.ref a1), .val (.ref a2), .val (.int p3)] [(.int 10), (.ref a2), (.int (us.getD ((10 : Int32)).toNatClampNeg 0))])) rfl rfl (hb hby d22_216) _ k) ?_
            have hd217_197 : (us.getD ((10 : Int32)).toNatClampNeg 0) = (us.getD ((10 : Int32)).toNatClampNeg 0) := rfl
            refine gO (fun t k => XS.icmpYes X193.here hx rfl (pc0 := 217) (pc' := 222) rfl (hb hby d22_217) rfl (teq hd217_197).1 (by decide) (by decide) k) ?_
            show Goes p e below (T193.setTop (mkF m 222 #[.val (.ref a1), .val (.ref a2), .val (.int p3)] [])) _
            show Goes p e below (T193.setTop (mkF m 222 #[.val (.ref a1), .val (.ref a2), .val (.int p3)] [])) _
            exact J200 _ _ X193 e193 N193
           ·refine gO (fun t k => XS.icmpYes X191.here hx rfl (pc0 := 204) (pc' := 222) rfl (hb hby d22_204) rfl (flt hc204_192).2.2.2 (by decide) (by decide) k) ?_
            show Goes p e below (T191.setTop (mkF m 222 #[.val (.ref a1), .val (.ref a2), .val (.int p3)] [])) _
            exact J200 _ _ X191 e191 N191
          by_cases hc183_183 : (9 : Int32) < p3
          ·refine gO (fun t k => XS.icmpNo X182.here hx rfl (hb hby d22_183) rfl (tlt hc183_183).2.2.2 k) ?_
           refine gO (fun t k => XS.aloadN X182.here hx rfl (hb hby d22_186) rfl rfl k) ?_
           refine gO (fun t k => XS.bipush X182.here hx rfl (hb hby d22_187) k) ?_
           show Goes p e below (T182.setTop (mkF m 189 #[.val (.ref a1), .val (.ref a2), .val (.int p3)] [(.int 9), (.ref a1)])) _
           obtain ⟨cq184, kq184, q184a, q184b, q184c⟩ := isOf hZ e182 E_a1
           obtain ⟨_, _, ⟨T184, L184, k184, n184⟩, -, X184, ⟨Lc184, hQ184, l184, y184, z184⟩, st184⟩ := X182.virtualBack hx (y := mn46) (z := mn46) hown (mvT hZ (wd hw 268 rfl)) (mvT hZ (wd hw 269 rfl)) (notFace_of_selects (args := #[]) (mvT hZ (wd hw 271 rfl))) (mvT hZ (wd hw 271 rfl)) (mvT hZ (wd hw 270 rfl)) (by decide) (backOf (W := 0) (rm47 l Z a0 hw [] a1 (9 : Int32) cmS b kb z us fm h0 n0 Z0 O0 SC cs0 SF hfm E_a1 F_c_a1 F_w_a1 V_b (by decide) (by rw [hzp]; exact hc183_183) lt) hZ (wd hw 272 rfl) (wd hw 61 rfl) (by decide) (by decide)) q184a q184c (g := (mkF m 189 #[.val (.ref a1), .val (.ref a2), .val (.int p3)] [(.int 9), (.ref a1)])) rfl (by rw [hml]; rfl) (Steps.refl _) (argsL := [(.int 9)]) (rest := []) (lenOf pd_38 rfl) rfl (wr0 rfl rfl) (hb hby d22_189) (fun _ _ => ⟨rfl, e182, (by decide : 0 + 0 ≤ _), (by decide : 0 + 0 ≤ _)⟩)
           dsimp only [Pt.U, Pt.locs, Pt.cells, Pt.slots] at X184 l184 y184 z184 st184 hQ184
           subst l184 y184 z184
           obtain ⟨rfl, N184q, e184⟩ := hQ184
           have N184 := Fr.app N182 N184q
           refine Goes.of (fun t k => st184.trans k) ?_
           refine gO (fun t k => XS.aloadN X184.here hx rfl (hb hby d22_192) rfl rfl k) ?_
           refine gO (fun t k => XS.bipush X184.here hx rfl (hb hby d22_193) k) ?_
           have Vc185 := V_a2
           obtain ⟨clc185, Arc185, qc185, Sc185, Nc185, Hc185, Gc185⟩ := Vc185
           have hin186 : ¬ ((9 : Int32) < 0 ∨ clc185.slots.size ≤ ((9 : Int32)).toNatClampNeg) := inb_of Sc185 ⟨by decide, by decide⟩
           have hat187 : clc185.slots[((9 : Int32)).toNatClampNeg]? = some (.int (us.getD ((9 : Int32)).toNatClampNeg 0)) := Hc185.at hin186 (own_gc _ _)
           refine gO (fun t k => X184.caload hx (j := (9 : Int32)) (v := (.int (us.getD ((9 : Int32)).toNatClampNeg 0))) (by rw [e184]; exact Arc185.1) (State.isArrayOf_alike hZ.alike Arc185.2.1) Arc185.2.2 hin186 hat187 (g := (mkF m 195 #[.val (.ref a1), .val (.ref a2), .val (.int p3)] [(.int 9), (.ref a2), (.int (us.getD ((9 : Int32)).toNatClampNeg 0))])) rfl rfl (hb hby d22_195) _ k) ?_
           have hd196_188 : (us.getD ((9 : Int32)).toNatClampNeg 0) = (us.getD ((9 : Int32)).toNatClampNeg 0) := rfl
           refine gO (fun t k => XS.icmpYes X184.here hx rfl (pc0 := 196) (pc' := 201) rfl (hb hby d22_196) rfl (teq hd196_188).1 (by decide) (by decide) k) ?_
           show Goes p e below (T184.setTop (mkF m 201 #[.val (.ref a1), .val (.ref a2), .val (.int p3)] [])) _
           show Goes p e below (T184.setTop (mkF m 201 #[.val (.ref a1), .val (.ref a2), .val (.int p3)] [])) _
           exact J191 _ _ X184 e184 N184
          ·refine gO (fun t k => XS.icmpYes X182.here hx rfl (pc0 := 183) (pc' := 201) rfl (hb hby d22_183) rfl (flt hc183_183).2.2.2 (by decide) (by decide) k) ?_
           show Goes p e below (T182.setTop (mkF m 201 #[.val (.ref a1), .val (.ref a2), .val (.int p3)] [])) _
           exact J191 _ _ X182 e182 N182
         by_cases hc162_174 : (8 : Int32) < p3
         ·refine gO (fun t k => XS.icmpNo X173.here hx rfl (hb hby d22_162) rfl (tlt hc162_174).2.2.2 k) ?_
          refine gO (fun t k => XS.aloadN X173.here hx rfl (hb hby d22_165) rfl rfl k) ?_
          refine gO (fun t k => XS.bipush X173.here hx rfl (hb hby d22_166) k) ?_
          show Goes p e below (T173.setTop (mkF m 168 #[.val (.ref a1), .val (.ref a2), .val (.int p3)] [(.int 8), (.ref a1)])) _
          obtain ⟨cq175, kq175, q175a, q175b, q175c⟩ := isOf hZ e173 E_a1
          obtain ⟨_, _, ⟨T175, L175, k175, n175⟩, -, X175, ⟨Lc175, hQ175, l175, y175, z175⟩, st175⟩ := X173.virtualBack hx (y := mn46) (z := mn46) hown (mvT hZ (wd hw 268 rfl)) (mvT hZ (wd hw 269 rfl)) (notFace_of_selects (args := #[]) (mvT hZ (wd hw 271 rfl))) (mvT hZ (wd hw 271 rfl)) (mvT hZ (wd hw 270 rfl)) (by decide) (backOf (W := 0) (rm47 l Z a0 hw [] a1 (8 : Int32) cmS b kb z us fm h0 n0 Z0 O0 SC cs0 SF hfm E_a1 F_c_a1 F_w_a1 V_b (by decide) (by rw [hzp]; exact hc162_174) lt) hZ (wd hw 272 rfl) (wd hw 61 rfl) (by decide) (by decide)) q175a q175c (g := (mkF m 168 #[.val (.ref a1), .val (.ref a2), .val (.int p3)] [(.int 8), (.ref a1)])) rfl (by rw [hml]; rfl) (Steps.refl _) (argsL := [(.int 8)]) (rest := []) (lenOf pd_38 rfl) rfl (wr0 rfl rfl) (hb hby d22_168) (fun _ _ => ⟨rfl, e173, (by decide : 0 + 0 ≤ _), (by decide : 0 + 0 ≤ _)⟩)
          dsimp only [Pt.U, Pt.locs, Pt.cells, Pt.slots] at X175 l175 y175 z175 st175 hQ175
          subst l175 y175 z175
          obtain ⟨rfl, N175q, e175⟩ := hQ175
          have N175 := Fr.app N173 N175q
          refine Goes.of (fun t k => st175.trans k) ?_
          refine gO (fun t k => XS.aloadN X175.here hx rfl (hb hby d22_171) rfl rfl k) ?_
          refine gO (fun t k => XS.bipush X175.here hx rfl (hb hby d22_172) k) ?_
          have Vc176 := V_a2
          obtain ⟨clc176, Arc176, qc176, Sc176, Nc176, Hc176, Gc176⟩ := Vc176
          have hin177 : ¬ ((8 : Int32) < 0 ∨ clc176.slots.size ≤ ((8 : Int32)).toNatClampNeg) := inb_of Sc176 ⟨by decide, by decide⟩
          have hat178 : clc176.slots[((8 : Int32)).toNatClampNeg]? = some (.int (us.getD ((8 : Int32)).toNatClampNeg 0)) := Hc176.at hin177 (own_gc _ _)
          refine gO (fun t k => X175.caload hx (j := (8 : Int32)) (v := (.int (us.getD ((8 : Int32)).toNatClampNeg 0))) (by rw [e175]; exact Arc176.1) (State.isArrayOf_alike hZ.alike Arc176.2.1) Arc176.2.2 hin177 hat178 (g := (mkF m 174 #[.val (.ref a1), .val (.ref a2), .val (.int p3)] [(.int 8), (.ref a2), (.int (us.getD ((8 : Int32)).toNatClampNeg 0))])) rfl rfl (hb hby d22_174) _ k) ?_
          have hd175_179 : (us.getD ((8 : Int32)).toNatClampNeg 0) = (us.getD ((8 : Int32)).toNatClampNeg 0) := rfl
          refine gO (fun t k => XS.icmpYes X175.here hx rfl (pc0 := 175) (pc' := 180) rfl (hb hby d22_175) rfl (teq hd175_179).1 (by decide) (by decide) k) ?_
          show Goes p e below (T175.setTop (mkF m 180 #[.val (.ref a1), .val (.ref a2), .val (.int p3)] [])) _
          show Goes p e below (T175.setTop (mkF m 180 #[.val (.ref a1), .val (.ref a2), .val (.int p3)] [])) _
          exact J182 _ _ X175 e175 N175
         ·refine gO (fun t k => XS.icmpYes X173.here hx rfl (pc0 := 162) (pc' := 180) rfl (hb hby d22_162) rfl (flt hc162_174).2.2.2 (by decide) (by decide) k) ?_
          show Goes p e below (T173.setTop (mkF m 180 #[.val (.ref a1), .val (.ref a2), .val (.int p3)] [])) _
          exact J182 _ _ X173 e173 N173
        by_cases hc141_165 : (7 : Int32) < p3
        ·refine gO (fun t k => XS.icmpNo X164.here hx rfl (hb hby d22_141) rfl (tlt hc141_165).2.2.2 k) ?_
         refine gO (fun t k => XS.aloadN X164.here hx rfl (hb hby d22_144) rfl rfl k) ?_
         refine gO (fun t k => XS.bipush X164.here hx rfl (hb hby d22_145) k) ?_
         show Goes p e below (T164.setTop (mkF m 147 #[.val (.ref a1), .val (.ref a2), .val (.int p3)] [(.int 7), (.ref a1)])) _
         obtain ⟨cq166, kq166, q166a, q166b, q166c⟩ := isOf hZ e164 E_a1
         obtain ⟨_, _, ⟨T166, L166, k166, n166⟩, -, X166, ⟨Lc166, hQ166, l166, y166, z166⟩, st166⟩ := X164.virtualBack hx (y := mn46) (z := mn46) hown (mvT hZ (wd hw 268 rfl)) (mvT hZ (wd hw 269 rfl)) (notFace_of_selects (args := #[]) (mvT hZ (wd hw 271 rfl))) (mvT hZ (wd hw 271 rfl)) (mvT hZ (wd hw 270 rfl)) (by decide) (backOf (W := 0) (rm47 l Z a0 hw [] a1 (7 : Int32) cmS b kb z us fm h0 n0 Z0 O0 SC cs0 SF hfm E_a1 F_c_a1 F_w_a1 V_b (by decide) (by rw [hzp]; exact hc141_165) lt) hZ (wd hw 272 rfl) (wd hw 61 rfl) (by decide) (by decide)) q166a q166c (g := (mkF m 147 #[.val (.ref a1), .val (.ref a2), .val (.int p3)] [(.int 7), (.ref a1)])) rfl (by rw [hml]; rfl) (Steps.refl _) (argsL := [(.int 7)]) (rest := []) (lenOf pd_38 rfl) rfl (wr0 rfl rfl) (hb hby d22_147) (fun _ _ => ⟨rfl, e164, (by decide : 0 + 0 ≤ _), (by decide : 0 + 0 ≤ _)⟩)
         dsimp only [Pt.U, Pt.locs, Pt.cells, Pt.slots] at X166 l166 y166 z166 st166 hQ166
         subst l166 y166 z166
         obtain ⟨rfl, N166q, e166⟩ := hQ166
         have N166 := Fr.app N164 N166q
         refine Goes.of (fun t k => st166.trans k) ?_
         refine gO (fun t k => XS.aloadN X166.here hx rfl (hb hby d22_150) rfl rfl k) ?_
         refine gO (fun t k => XS.bipush X166.here hx rfl (hb hby d22_151) k) ?_
         have Vc167 := V_a2
         obtain ⟨clc167, Arc167, qc167, Sc167, Nc167, Hc167, Gc167⟩ := Vc167
         have hin168 : ¬ ((7 : Int32) < 0 ∨ clc167.slots.size ≤ ((7 : Int32)).toNatClampNeg) := inb_of Sc167 ⟨by decide, by decide⟩
         have hat169 : clc167.slots[((7 : Int32)).toNatClampNeg]? = some (.int (us.getD ((7 : Int32)).toNatClampNeg 0)) := Hc167.at hin168 (own_gc _ _)
         refine gO (fun t k => X166.caload hx (j := (7 : Int32)) (v := (.int (us.getD ((7 : Int32)).toNatClampNeg 0))) (by rw [e166]; exact Arc167.1) (State.isArrayOf_alike hZ.alike Arc167.2.1) Arc167.2.2 hin168 hat169 (g := (mkF m 153 #[.val (.ref a1), .val (.ref a2), .val (.int p3)] [(.int 7), (.ref a2), (.int (us.getD ((7 : Int32)).toNatClampNeg 0))])) rfl rfl (hb hby d22_153) _ k) ?_
         have hd154_170 : (us.getD ((7 : Int32)).toNatClampNeg 0) = (us.getD ((7 : Int32)).toNatClampNeg 0) := rfl
         refine gO (fun t k => XS.icmpYes X166.here hx rfl (pc0 := 154) (pc' := 159) rfl (hb hby d22_154) rfl (teq hd154_170).1 (by decide) (by decide) k) ?_
         show Goes p e below (T166.setTop (mkF m 159 #[.val (.ref a1), .val (.ref a2), .val (.int p3)] [])) _
         show Goes p e below (T166.setTop (mkF m 159 #[.val (.ref a1), .val (.ref a2), .val (.int p3)] [])) _
         exact J173 _ _ X166 e166 N166
        ·refine gO (fun t k => XS.icmpYes X164.here hx rfl (pc0 := 141) (pc' := 159) rfl (hb hby d22_141) rfl (flt hc141_165).2.2.2 (by decide) (by decide) k) ?_
         show Goes p e below (T164.setTop (mkF m 159 #[.val (.ref a1), .val (.ref a2), .val (.int p3)] [])) _
         exact J173 _ _ X164 e164 N164
       by_cases hc120_156 : (6 : Int32) < p3
       ·refine gO (fun t k => XS.icmpNo X155.here hx rfl (hb hby d22_120) rfl (tlt hc120_156).2.2.2 k) ?_
        refine gO (fun t k => XS.aloadN X155.here hx rfl (hb hby d22_123) rfl rfl k) ?_
        refine gO (fun t k => XS.bipush X155.here hx rfl (hb hby d22_124) k) ?_
        show Goes p e below (T155.setTop (mkF m 126 #[.val (.ref a1), .val (.ref a2), .val (.int p3)] [(.int 6), (.ref a1)])) _
        obtain ⟨cq157, kq157, q157a, q157b, q157c⟩ := isOf hZ e155 E_a1
        obtain ⟨_, _, ⟨T157, L157, k157, n157⟩, -, X157, ⟨Lc157, hQ157, l157, y157, z157⟩, st157⟩ := X155.virtualBack hx (y := mn46) (z := mn46) hown (mvT hZ (wd hw 268 rfl)) (mvT hZ (wd hw 269 rfl)) (notFace_of_selects (args := #[]) (mvT hZ (wd hw 271 rfl))) (mvT hZ (wd hw 271 rfl)) (mvT hZ (wd hw 270 rfl)) (by decide) (backOf (W := 0) (rm47 l Z a0 hw [] a1 (6 : Int32) cmS b kb z us fm h0 n0 Z0 O0 SC cs0 SF hfm E_a1 F_c_a1 F_w_a1 V_b (by decide) (by rw [hzp]; exact hc120_156) lt) hZ (wd hw 272 rfl) (wd hw 61 rfl) (by decide) (by decide)) q157a q157c (g := (mkF m 126 #[.val (.ref a1), .val (.ref a2), .val (.int p3)] [(.int 6), (.ref a1)])) rfl (by rw [hml]; rfl) (Steps.refl _) (argsL := [(.int 6)]) (rest := []) (lenOf pd_38 rfl) rfl (wr0 rfl rfl) (hb hby d22_126) (fun _ _ => ⟨rfl, e155, (by decide : 0 + 0 ≤ _), (by decide : 0 + 0 ≤ _)⟩)
        dsimp only [Pt.U, Pt.locs, Pt.cells, Pt.slots] at X157 l157 y157 z157 st157 hQ157
        subst l157 y157 z157
        obtain ⟨rfl, N157q, e157⟩ := hQ157
        have N157 := Fr.app N155 N157q
        refine Goes.of (fun t k => st157.trans k) ?_
        refine gO (fun t k => XS.aloadN X157.here hx rfl (hb hby d22_129) rfl rfl k) ?_
        refine gO (fun t k => XS.bipush X157.here hx rfl (hb hby d22_130) k) ?_
        have Vc158 := V_a2
        obtain ⟨clc158, Arc158, qc158, Sc158, Nc158, Hc158, Gc158⟩ := Vc158
        have hin159 : ¬ ((6 : Int32) < 0 ∨ clc158.slots.size ≤ ((6 : Int32)).toNatClampNeg) := inb_of Sc158 ⟨by decide, by decide⟩
        have hat160 : clc158.slots[((6 : Int32)).toNatClampNeg]? = some (.int (us.getD ((6 : Int32)).toNatClampNeg 0)) := Hc158.at hin159 (own_gc _ _)
        refine gO (fun t k => X157.caload hx (j := (6 : Int32)) (v := (.int (us.getD ((6 : Int32)).toNatClampNeg 0))) (by rw [e157]; exact Arc158.1) (State.isArrayOf_alike hZ.alike Arc158.2.1) Arc158.2.2 hin159 hat160 (g := (mkF m 132 #[.val (.ref a1), .val (.ref a2), .val (.int p3)] [(.int 6), (.ref a2), (.int (us.getD ((6 : Int32)).toNatClampNeg 0))])) rfl rfl (hb hby d22_132) _ k) ?_
        have hd133_161 : (us.getD ((6 : Int32)).toNatClampNeg 0) = (us.getD ((6 : Int32)).toNatClampNeg 0) := rfl
        refine gO (fun t k => XS.icmpYes X157.here hx rfl (pc0 := 133) (pc' := 138) rfl (hb hby d22_133) rfl (teq hd133_161).1 (by decide) (by decide) k) ?_
        show Goes p e below (T157.setTop (mkF m 138 #[.val (.ref a1), .val (.ref a2), .val (.int p3)] [])) _
        show Goes p e below (T157.setTop (mkF m 138 #[.val (.ref a1), .val (.ref a2), .val (.int p3)] [])) _
        exact J164 _ _ X157 e157 N157
       ·refine gO (fun t k => XS.icmpYes X155.here hx rfl (pc0 := 120) (pc' := 138) rfl (hb hby d22_120) rfl (flt hc120_156).2.2.2 (by decide) (by decide) k) ?_
        show Goes p e below (T155.setTop (mkF m 138 #[.val (.ref a1), .val (.ref a2), .val (.int p3)] [])) _
        exact J164 _ _ X155 e155 N155
      by_cases hc101_147 : (5 : Int32) < p3
      ·refine gO (fun t k => XS.icmpNo X146.here hx rfl (hb hby d22_101) rfl (tlt hc101_147).2.2.2 k) ?_
       refine gO (fun t k => XS.aloadN X146.here hx rfl (hb hby d22_104) rfl rfl k) ?_
       refine gO (fun t k => XS.iconst X146.here hx rfl (hb hby d22_105) k) ?_
       show Goes p e below (T146.setTop (mkF m 106 #[.val (.ref a1), .val (.ref a2), .val (.int p3)] [(.int 5), (.ref a1)])) _
       obtain ⟨cq148, kq148, q148a, q148b, q148c⟩ := isOf hZ e146 E_a1
       obtain ⟨_, _, ⟨T148, L148, k148, n148⟩, -, X148, ⟨Lc148, hQ148, l148, y148, z148⟩, st148⟩ := X146.virtualBack hx (y := mn46) (z := mn46) hown (mvT hZ (wd hw 268 rfl)) (mvT hZ (wd hw 269 rfl)) (notFace_of_selects (args := #[]) (mvT hZ (wd hw 271 rfl))) (mvT hZ (wd hw 271 rfl)) (mvT hZ (wd hw 270 rfl)) (by decide) (backOf (W := 0) (rm47 l Z a0 hw [] a1 (5 : Int32) cmS b kb z us fm h0 n0 Z0 O0 SC cs0 SF hfm E_a1 F_c_a1 F_w_a1 V_b (by decide) (by rw [hzp]; exact hc101_147) lt) hZ (wd hw 272 rfl) (wd hw 61 rfl) (by decide) (by decide)) q148a q148c (g := (mkF m 106 #[.val (.ref a1), .val (.ref a2), .val (.int p3)] [(.int 5), (.ref a1)])) rfl (by rw [hml]; rfl) (Steps.refl _) (argsL := [(.int 5)]) (rest := []) (lenOf pd_38 rfl) rfl (wr0 rfl rfl) (hb hby d22_106) (fun _ _ => ⟨rfl, e146, (by decide : 0 + 0 ≤ _), (by decide : 0 + 0 ≤ _)⟩)
       dsimp only [Pt.U, Pt.locs, Pt.cells, Pt.slots] at X148 l148 y148 z148 st148 hQ148
       subst l148 y148 z148
       obtain ⟨rfl, N148q, e148⟩ := hQ148
       have N148 := Fr.app N146 N148q
       refine Goes.of (fun t k => st148.trans k) ?_
       refine gO (fun t k => XS.aloadN X148.here hx rfl (hb hby d22_109) rfl rfl k) ?_
       refine gO (fun t k => XS.iconst X148.here hx rfl (hb hby d22_110) k) ?_
       have Vc149 := V_a2
       obtain ⟨clc149, Arc149, qc149, Sc149, Nc149, Hc149, Gc149⟩ := Vc149
       have hin150 : ¬ ((5 : Int32) < 0 ∨ clc149.slots.size ≤ ((5 : Int32)).toNatClampNeg) := inb_of Sc149 ⟨by decide, by decide⟩
       have hat151 : clc149.slots[((5 : Int32)).toNatClampNeg]? = some (.int (us.getD ((5 : Int32)).toNatClampNeg 0)) := Hc149.at hin150 (own_gc _ _)
       refine gO (fun t k => X148.caload hx (j := (5 : Int32)) (v := (.int (us.getD ((5 : Int32)).toNatClampNeg 0))) (by rw [e148]; exact Arc149.1) (State.isArrayOf_alike hZ.alike Arc149.2.1) Arc149.2.2 hin150 hat151 (g := (mkF m 111 #[.val (.ref a1), .val (.ref a2), .val (.int p3)] [(.int 5), (.ref a2), (.int (us.getD ((5 : Int32)).toNatClampNeg 0))])) rfl rfl (hb hby d22_111) _ k) ?_
       have hd112_152 : (us.getD ((5 : Int32)).toNatClampNeg 0) = (us.getD ((5 : Int32)).toNatClampNeg 0) := rfl
       refine gO (fun t k => XS.icmpYes X148.here hx rfl (pc0 := 112) (pc' := 117) rfl (hb hby d22_112) rfl (teq hd112_152).1 (by decide) (by decide) k) ?_
       show Goes p e below (T148.setTop (mkF m 117 #[.val (.ref a1), .val (.ref a2), .val (.int p3)] [])) _
       show Goes p e below (T148.setTop (mkF m 117 #[.val (.ref a1), .val (.ref a2), .val (.int p3)] [])) _
       exact J155 _ _ X148 e148 N148
      ·refine gO (fun t k => XS.icmpYes X146.here hx rfl (pc0 := 101) (pc' := 117) rfl (hb hby d22_101) rfl (flt hc101_147).2.2.2 (by decide) (by decide) k) ?_
       show Goes p e below (T146.setTop (mkF m 117 #[.val (.ref a1), .val (.ref a2), .val (.int p3)] [])) _
       exact J155 _ _ X146 e146 N146
     by_cases hc83_138 : (4 : Int32) < p3
     ·refine gO (fun t k => XS.icmpNo X137.here hx rfl (hb hby d22_83) rfl (tlt hc83_138).2.2.2 k) ?_
      refine gO (fun t k => XS.aloadN X137.here hx rfl (hb hby d22_86) rfl rfl k) ?_
      refine gO (fun t k => XS.iconst X137.here hx rfl (hb hby d22_87) k) ?_
      show Goes p e below (T137.setTop (mkF m 88 #[.val (.ref a1), .val (.ref a2), .val (.int p3)] [(.int 4), (.ref a1)])) _
      obtain ⟨cq139, kq139, q139a, q139b, q139c⟩ := isOf hZ e137 E_a1
      obtain ⟨_, _, ⟨T139, L139, k139, n139⟩, -, X139, ⟨Lc139, hQ139, l139, y139, z139⟩, st139⟩ := X137.virtualBack hx (y := mn46) (z := mn46) hown (mvT hZ (wd hw 268 rfl)) (mvT hZ (wd hw 269 rfl)) (notFace_of_selects (args := #[]) (mvT hZ (wd hw 271 rfl))) (mvT hZ (wd hw 271 rfl)) (mvT hZ (wd hw 270 rfl)) (by decide) (backOf (W := 0) (rm47 l Z a0 hw [] a1 (4 : Int32) cmS b kb z us fm h0 n0 Z0 O0 SC cs0 SF hfm E_a1 F_c_a1 F_w_a1 V_b (by decide) (by rw [hzp]; exact hc83_138) lt) hZ (wd hw 272 rfl) (wd hw 61 rfl) (by decide) (by decide)) q139a q139c (g := (mkF m 88 #[.val (.ref a1), .val (.ref a2), .val (.int p3)] [(.int 4), (.ref a1)])) rfl (by rw [hml]; rfl) (Steps.refl _) (argsL := [(.int 4)]) (rest := []) (lenOf pd_38 rfl) rfl (wr0 rfl rfl) (hb hby d22_88) (fun _ _ => ⟨rfl, e137, (by decide : 0 + 0 ≤ _), (by decide : 0 + 0 ≤ _)⟩)
      dsimp only [Pt.U, Pt.locs, Pt.cells, Pt.slots] at X139 l139 y139 z139 st139 hQ139
      subst l139 y139 z139
      obtain ⟨rfl, N139q, e139⟩ := hQ139
      have N139 := Fr.app N137 N139q
      refine Goes.of (fun t k => st139.trans k) ?_
      refine gO (fun t k => XS.aloadN X139.here hx rfl (hb hby d22_91) rfl rfl k) ?_
      refine gO (fun t k => XS.iconst X139.here hx rfl (hb hby d22_92) k) ?_
      have Vc140 := V_a2
      obtain ⟨clc140, Arc140, qc140, Sc140, Nc140, Hc140, Gc140⟩ := Vc140
      have hin141 : ¬ ((4 : Int32) < 0 ∨ clc140.slots.size ≤ ((4 : Int32)).toNatClampNeg) := inb_of Sc140 ⟨by decide, by decide⟩
      have hat142 : clc140.slots[((4 : Int32)).toNatClampNeg]? = some (.int (us.getD ((4 : Int32)).toNatClampNeg 0)) := Hc140.at hin141 (own_gc _ _)
      refine gO (fun t k => X139.caload hx (j := (4 : Int32)) (v := (.int (us.getD ((4 : Int32)).toNatClampNeg 0))) (by rw [e139]; exact Arc140.1) (State.isArrayOf_alike hZ.alike Arc140.2.1) Arc140.2.2 hin141 hat142 (g := (mkF m 93 #[.val (.ref a1), .val (.ref a2), .val (.int p3)] [(.int 4), (.ref a2), (.int (us.getD ((4 : Int32)).toNatClampNeg 0))])) rfl rfl (hb hby d22_93) _ k) ?_
      have hd94_143 : (us.getD ((4 : Int32)).toNatClampNeg 0) = (us.getD ((4 : Int32)).toNatClampNeg 0) := rfl
      refine gO (fun t k => XS.icmpYes X139.here hx rfl (pc0 := 94) (pc' := 99) rfl (hb hby d22_94) rfl (teq hd94_143).1 (by decide) (by decide) k) ?_
      show Goes p e below (T139.setTop (mkF m 99 #[.val (.ref a1), .val (.ref a2), .val (.int p3)] [])) _
      show Goes p e below (T139.setTop (mkF m 99 #[.val (.ref a1), .val (.ref a2), .val (.int p3)] [])) _
      exact J146 _ _ X139 e139 N139
     ·refine gO (fun t k => XS.icmpYes X137.here hx rfl (pc0 := 83) (pc' := 99) rfl (hb hby d22_83) rfl (flt hc83_138).2.2.2 (by decide) (by decide) k) ?_
      show Goes p e below (T137.setTop (mkF m 99 #[.val (.ref a1), .val (.ref a2), .val (.int p3)] [])) _
      exact J146 _ _ X137 e137 N137
    by_cases hc65_129 : (3 : Int32) < p3
    ·refine gO (fun t k => XS.icmpNo X128.here hx rfl (hb hby d22_65) rfl (tlt hc65_129).2.2.2 k) ?_
     refine gO (fun t k => XS.aloadN X128.here hx rfl (hb hby d22_68) rfl rfl k) ?_
     refine gO (fun t k => XS.iconst X128.here hx rfl (hb hby d22_69) k) ?_
     show Goes p e below (T128.setTop (mkF m 70 #[.val (.ref a1), .val (.ref a2), .val (.int p3)] [(.int 3), (.ref a1)])) _
     obtain ⟨cq130, kq130, q130a, q130b, q130c⟩ := isOf hZ e128 E_a1
     obtain ⟨_, _, ⟨T130, L130, k130, n130⟩, -, X130, ⟨Lc130, hQ130, l130, y130, z130⟩, st130⟩ := X128.virtualBack hx (y := mn46) (z := mn46) hown (mvT hZ (wd hw 268 rfl)) (mvT hZ (wd hw 269 rfl)) (notFace_of_selects (args := #[]) (mvT hZ (wd hw 271 rfl))) (mvT hZ (wd hw 271 rfl)) (mvT hZ (wd hw 270 rfl)) (by decide) (backOf (W := 0) (rm47 l Z a0 hw [] a1 (3 : Int32) cmS b kb z us fm h0 n0 Z0 O0 SC cs0 SF hfm E_a1 F_c_a1 F_w_a1 V_b (by decide) (by rw [hzp]; exact hc65_129) lt) hZ (wd hw 272 rfl) (wd hw 61 rfl) (by decide) (by decide)) q130a q130c (g := (mkF m 70 #[.val (.ref a1), .val (.ref a2), .val (.int p3)] [(.int 3), (.ref a1)])) rfl (by rw [hml]; rfl) (Steps.refl _) (argsL := [(.int 3)]) (rest := []) (lenOf pd_38 rfl) rfl (wr0 rfl rfl) (hb hby d22_70) (fun _ _ => ⟨rfl, e128, (by decide : 0 + 0 ≤ _), (by decide : 0 + 0 ≤ _)⟩)
     dsimp only [Pt.U, Pt.locs, Pt.cells, Pt.slots] at X130 l130 y130 z130 st130 hQ130
     subst l130 y130 z130
     obtain ⟨rfl, N130q, e130⟩ := hQ130
     have N130 := Fr.app N128 N130q
     refine Goes.of (fun t k => st130.trans k) ?_
     refine gO (fun t k => XS.aloadN X130.here hx rfl (hb hby d22_73) rfl rfl k) ?_
     refine gO (fun t k => XS.iconst X130.here hx rfl (hb hby d22_74) k) ?_
     have Vc131 := V_a2
     obtain ⟨clc131, Arc131, qc131, Sc131, Nc131, Hc131, Gc131⟩ := Vc131
     have hin132 : ¬ ((3 : Int32) < 0 ∨ clc131.slots.size ≤ ((3 : Int32)).toNatClampNeg) := inb_of Sc131 ⟨by decide, by decide⟩
     have hat133 : clc131.slots[((3 : Int32)).toNatClampNeg]? = some (.int (us.getD ((3 : Int32)).toNatClampNeg 0)) := Hc131.at hin132 (own_gc _ _)
     refine gO (fun t k => X130.caload hx (j := (3 : Int32)) (v := (.int (us.getD ((3 : Int32)).toNatClampNeg 0))) (by rw [e130]; exact Arc131.1) (State.isArrayOf_alike hZ.alike Arc131.2.1) Arc131.2.2 hin132 hat133 (g := (mkF m 75 #[.val (.ref a1), .val (.ref a2), .val (.int p3)] [(.int 3), (.ref a2), (.int (us.getD ((3 : Int32)).toNatClampNeg 0))])) rfl rfl (hb hby d22_75) _ k) ?_
     have hd76_134 : (us.getD ((3 : Int32)).toNatClampNeg 0) = (us.getD ((3 : Int32)).toNatClampNeg 0) := rfl
     refine gO (fun t k => XS.icmpYes X130.here hx rfl (pc0 := 76) (pc' := 81) rfl (hb hby d22_76) rfl (teq hd76_134).1 (by decide) (by decide) k) ?_
     show Goes p e below (T130.setTop (mkF m 81 #[.val (.ref a1), .val (.ref a2), .val (.int p3)] [])) _
     show Goes p e below (T130.setTop (mkF m 81 #[.val (.ref a1), .val (.ref a2), .val (.int p3)] [])) _
     exact J137 _ _ X130 e130 N130
    ·refine gO (fun t k => XS.icmpYes X128.here hx rfl (pc0 := 65) (pc' := 81) rfl (hb hby d22_65) rfl (flt hc65_129).2.2.2 (by decide) (by decide) k) ?_
     show Goes p e below (T128.setTop (mkF m 81 #[.val (.ref a1), .val (.ref a2), .val (.int p3)] [])) _
     exact J137 _ _ X128 e128 N128
   by_cases hc47_120 : (2 : Int32) < p3
   ·refine gO (fun t k => XS.icmpNo X119.here hx rfl (hb hby d22_47) rfl (tlt hc47_120).2.2.2 k) ?_
    refine gO (fun t k => XS.aloadN X119.here hx rfl (hb hby d22_50) rfl rfl k) ?_
    refine gO (fun t k => XS.iconst X119.here hx rfl (hb hby d22_51) k) ?_
    show Goes p e below (T119.setTop (mkF m 52 #[.val (.ref a1), .val (.ref a2), .val (.int p3)] [(.int 2), (.ref a1)])) _
    obtain ⟨cq121, kq121, q121a, q121b, q121c⟩ := isOf hZ e119 E_a1
    obtain ⟨_, _, ⟨T121, L121, k121, n121⟩, -, X121, ⟨Lc121, hQ121, l121, y121, z121⟩, st121⟩ := X119.virtualBack hx (y := mn46) (z := mn46) hown (mvT hZ (wd hw 268 rfl)) (mvT hZ (wd hw 269 rfl)) (notFace_of_selects (args := #[]) (mvT hZ (wd hw 271 rfl))) (mvT hZ (wd hw 271 rfl)) (mvT hZ (wd hw 270 rfl)) (by decide) (backOf (W := 0) (rm47 l Z a0 hw [] a1 (2 : Int32) cmS b kb z us fm h0 n0 Z0 O0 SC cs0 SF hfm E_a1 F_c_a1 F_w_a1 V_b (by decide) (by rw [hzp]; exact hc47_120) lt) hZ (wd hw 272 rfl) (wd hw 61 rfl) (by decide) (by decide)) q121a q121c (g := (mkF m 52 #[.val (.ref a1), .val (.ref a2), .val (.int p3)] [(.int 2), (.ref a1)])) rfl (by rw [hml]; rfl) (Steps.refl _) (argsL := [(.int 2)]) (rest := []) (lenOf pd_38 rfl) rfl (wr0 rfl rfl) (hb hby d22_52) (fun _ _ => ⟨rfl, e119, (by decide : 0 + 0 ≤ _), (by decide : 0 + 0 ≤ _)⟩)
    dsimp only [Pt.U, Pt.locs, Pt.cells, Pt.slots] at X121 l121 y121 z121 st121 hQ121
    subst l121 y121 z121
    obtain ⟨rfl, N121q, e121⟩ := hQ121
    have N121 := Fr.app N119 N121q
    refine Goes.of (fun t k => st121.trans k) ?_
    refine gO (fun t k => XS.aloadN X121.here hx rfl (hb hby d22_55) rfl rfl k) ?_
    refine gO (fun t k => XS.iconst X121.here hx rfl (hb hby d22_56) k) ?_
    have Vc122 := V_a2
    obtain ⟨clc122, Arc122, qc122, Sc122, Nc122, Hc122, Gc122⟩ := Vc122
    have hin123 : ¬ ((2 : Int32) < 0 ∨ clc122.slots.size ≤ ((2 : Int32)).toNatClampNeg) := inb_of Sc122 ⟨by decide, by decide⟩
    have hat124 : clc122.slots[((2 : Int32)).toNatClampNeg]? = some (.int (us.getD ((2 : Int32)).toNatClampNeg 0)) := Hc122.at hin123 (own_gc _ _)
    refine gO (fun t k => X121.caload hx (j := (2 : Int32)) (v := (.int (us.getD ((2 : Int32)).toNatClampNeg 0))) (by rw [e121]; exact Arc122.1) (State.isArrayOf_alike hZ.alike Arc122.2.1) Arc122.2.2 hin123 hat124 (g := (mkF m 57 #[.val (.ref a1), .val (.ref a2), .val (.int p3)] [(.int 2), (.ref a2), (.int (us.getD ((2 : Int32)).toNatClampNeg 0))])) rfl rfl (hb hby d22_57) _ k) ?_
    have hd58_125 : (us.getD ((2 : Int32)).toNatClampNeg 0) = (us.getD ((2 : Int32)).toNatClampNeg 0) := rfl
    refine gO (fun t k => XS.icmpYes X121.here hx rfl (pc0 := 58) (pc' := 63) rfl (hb hby d22_58) rfl (teq hd58_125).1 (by decide) (by decide) k) ?_
    show Goes p e below (T121.setTop (mkF m 63 #[.val (.ref a1), .val (.ref a2), .val (.int p3)] [])) _
    show Goes p e below (T121.setTop (mkF m 63 #[.val (.ref a1), .val (.ref a2), .val (.int p3)] [])) _
    exact J128 _ _ X121 e121 N121
   ·refine gO (fun t k => XS.icmpYes X119.here hx rfl (pc0 := 47) (pc' := 63) rfl (hb hby d22_47) rfl (flt hc47_120).2.2.2 (by decide) (by decide) k) ?_
    show Goes p e below (T119.setTop (mkF m 63 #[.val (.ref a1), .val (.ref a2), .val (.int p3)] [])) _
    exact J128 _ _ X119 e119 N119
  by_cases hc29_111 : (1 : Int32) < p3
  ·refine gO (fun t k => XS.icmpNo X110.here hx rfl (hb hby d22_29) rfl (tlt hc29_111).2.2.2 k) ?_
   refine gO (fun t k => XS.aloadN X110.here hx rfl (hb hby d22_32) rfl rfl k) ?_
   refine gO (fun t k => XS.iconst X110.here hx rfl (hb hby d22_33) k) ?_
   show Goes p e below (T110.setTop (mkF m 34 #[.val (.ref a1), .val (.ref a2), .val (.int p3)] [(.int 1), (.ref a1)])) _
   obtain ⟨cq112, kq112, q112a, q112b, q112c⟩ := isOf hZ e110 E_a1
   obtain ⟨_, _, ⟨T112, L112, k112, n112⟩, -, X112, ⟨Lc112, hQ112, l112, y112, z112⟩, st112⟩ := X110.virtualBack hx (y := mn46) (z := mn46) hown (mvT hZ (wd hw 268 rfl)) (mvT hZ (wd hw 269 rfl)) (notFace_of_selects (args := #[]) (mvT hZ (wd hw 271 rfl))) (mvT hZ (wd hw 271 rfl)) (mvT hZ (wd hw 270 rfl)) (by decide) (backOf (W := 0) (rm47 l Z a0 hw [] a1 (1 : Int32) cmS b kb z us fm h0 n0 Z0 O0 SC cs0 SF hfm E_a1 F_c_a1 F_w_a1 V_b (by decide) (by rw [hzp]; exact hc29_111) lt) hZ (wd hw 272 rfl) (wd hw 61 rfl) (by decide) (by decide)) q112a q112c (g := (mkF m 34 #[.val (.ref a1), .val (.ref a2), .val (.int p3)] [(.int 1), (.ref a1)])) rfl (by rw [hml]; rfl) (Steps.refl _) (argsL := [(.int 1)]) (rest := []) (lenOf pd_38 rfl) rfl (wr0 rfl rfl) (hb hby d22_34) (fun _ _ => ⟨rfl, e110, (by decide : 0 + 0 ≤ _), (by decide : 0 + 0 ≤ _)⟩)
   dsimp only [Pt.U, Pt.locs, Pt.cells, Pt.slots] at X112 l112 y112 z112 st112 hQ112
   subst l112 y112 z112
   obtain ⟨rfl, N112q, e112⟩ := hQ112
   have N112 := Fr.app N110 N112q
   refine Goes.of (fun t k => st112.trans k) ?_
   refine gO (fun t k => XS.aloadN X112.here hx rfl (hb hby d22_37) rfl rfl k) ?_
   refine gO (fun t k => XS.iconst X112.here hx rfl (hb hby d22_38) k) ?_
   have Vc113 := V_a2
   obtain ⟨clc113, Arc113, qc113, Sc113, Nc113, Hc113, Gc113⟩ := Vc113
   have hin114 : ¬ ((1 : Int32) < 0 ∨ clc113.slots.size ≤ ((1 : Int32)).toNatClampNeg) := inb_of Sc113 ⟨by decide, by decide⟩
   have hat115 : clc113.slots[((1 : Int32)).toNatClampNeg]? = some (.int (us.getD ((1 : Int32)).toNatClampNeg 0)) := Hc113.at hin114 (own_gc _ _)
   refine gO (fun t k => X112.caload hx (j := (1 : Int32)) (v := (.int (us.getD ((1 : Int32)).toNatClampNeg 0))) (by rw [e112]; exact Arc113.1) (State.isArrayOf_alike hZ.alike Arc113.2.1) Arc113.2.2 hin114 hat115 (g := (mkF m 39 #[.val (.ref a1), .val (.ref a2), .val (.int p3)] [(.int 1), (.ref a2), (.int (us.getD ((1 : Int32)).toNatClampNeg 0))])) rfl rfl (hb hby d22_39) _ k) ?_
   have hd40_116 : (us.getD ((1 : Int32)).toNatClampNeg 0) = (us.getD ((1 : Int32)).toNatClampNeg 0) := rfl
   refine gO (fun t k => XS.icmpYes X112.here hx rfl (pc0 := 40) (pc' := 45) rfl (hb hby d22_40) rfl (teq hd40_116).1 (by decide) (by decide) k) ?_
   show Goes p e below (T112.setTop (mkF m 45 #[.val (.ref a1), .val (.ref a2), .val (.int p3)] [])) _
   show Goes p e below (T112.setTop (mkF m 45 #[.val (.ref a1), .val (.ref a2), .val (.int p3)] [])) _
   exact J119 _ _ X112 e112 N112
  ·refine gO (fun t k => XS.icmpYes X110.here hx rfl (pc0 := 29) (pc' := 45) rfl (hb hby d22_29) rfl (flt hc29_111).2.2.2 (by decide) (by decide) k) ?_
   show Goes p e below (T110.setTop (mkF m 45 #[.val (.ref a1), .val (.ref a2), .val (.int p3)] [])) _
   exact J119 _ _ X110 e110 N110
 by_cases hc11_102 : (0 : Int32) < p3
 ·refine gO (fun t k => XS.ifNo X100.here hx rfl (hb hby d22_11) rfl ((if0 _ _).trans (tlt hc11_102).2.2.2) k) ?_
  refine gO (fun t k => XS.aloadN X100.here hx rfl (hb hby d22_14) rfl rfl k) ?_
  refine gO (fun t k => XS.iconst X100.here hx rfl (hb hby d22_15) k) ?_
  obtain ⟨cq103, kq103, q103a, q103b, q103c⟩ := isOf hZ e100 E_a1
  obtain ⟨_, _, ⟨T103, L103, k103, n103⟩, -, X103, ⟨Lc103, hQ103, l103, y103, z103⟩, st103⟩ := X100.virtualBack hx (y := mn46) (z := mn46) hown (mvT hZ (wd hw 268 rfl)) (mvT hZ (wd hw 269 rfl)) (notFace_of_selects (args := #[]) (mvT hZ (wd hw 271 rfl))) (mvT hZ (wd hw 271 rfl)) (mvT hZ (wd hw 270 rfl)) (by decide) (backOf (W := 0) (rm47 l Z a0 hw [] a1 (0 : Int32) cmS b kb z us fm h0 n0 Z0 O0 SC cs0 SF hfm E_a1 F_c_a1 F_w_a1 V_b (by decide) (by rw [hzp]; exact hc11_102) lt) hZ (wd hw 272 rfl) (wd hw 61 rfl) (by decide) (by decide)) q103a q103c (g := (mkF m 16 #[.val (.ref a1), .val (.ref a2), .val (.int p3)] [(.int 0), (.ref a1)])) rfl (by rw [hml]; rfl) (Steps.refl _) (argsL := [(.int 0)]) (rest := []) (lenOf pd_38 rfl) rfl (wr0 rfl rfl) (hb hby d22_16) (fun _ _ => ⟨rfl, e100, (by decide : 0 + 0 ≤ _), (by decide : 0 + 0 ≤ _)⟩)
  dsimp only [Pt.U, Pt.locs, Pt.cells, Pt.slots] at X103 l103 y103 z103 st103 hQ103
  subst l103 y103 z103
  obtain ⟨rfl, N103q, e103⟩ := hQ103
  have N103 := Fr.app N100 N103q
  refine Goes.of (fun t k => st103.trans k) ?_
  refine gO (fun t k => XS.aloadN X103.here hx rfl (hb hby d22_19) rfl rfl k) ?_
  refine gO (fun t k => XS.iconst X103.here hx rfl (hb hby d22_20) k) ?_
  show Goes p e below (T103.setTop (mkF m 21 #[.val (.ref a1), .val (.ref a2), .val (.int p3)] [(.int 0), (.ref a2), (.int (us.getD ((0 : Int32)).toNatClampNeg 0))])) _
  have Vc104 := V_a2
  obtain ⟨clc104, Arc104, qc104, Sc104, Nc104, Hc104, Gc104⟩ := Vc104
  have hin105 : ¬ ((0 : Int32) < 0 ∨ clc104.slots.size ≤ ((0 : Int32)).toNatClampNeg) := inb_of Sc104 ⟨by decide, by decide⟩
  have hat106 : clc104.slots[((0 : Int32)).toNatClampNeg]? = some (.int (us.getD ((0 : Int32)).toNatClampNeg 0)) := Hc104.at hin105 (own_gc _ _)
  refine gO (fun t k => X103.caload hx (j := (0 : Int32)) (v := (.int (us.getD ((0 : Int32)).toNatClampNeg 0))) (by rw [e103]; exact Arc104.1) (State.isArrayOf_alike hZ.alike Arc104.2.1) Arc104.2.2 hin105 hat106 (g := (mkF m 21 #[.val (.ref a1), .val (.ref a2), .val (.int p3)] [(.int 0), (.ref a2), (.int (us.getD ((0 : Int32)).toNatClampNeg 0))])) rfl rfl (hb hby d22_21) _ k) ?_
  have hd22_107 : (us.getD ((0 : Int32)).toNatClampNeg 0) = (us.getD ((0 : Int32)).toNatClampNeg 0) := rfl
  refine gO (fun t k => XS.icmpYes X103.here hx rfl (pc0 := 22) (pc' := 27) rfl (hb hby d22_22) rfl (teq hd22_107).1 (by decide) (by decide) k) ?_
  show Goes p e below (T103.setTop (mkF m 27 #[.val (.ref a1), .val (.ref a2), .val (.int p3)] [])) _
  exact J110 _ _ X103 e103 N103
 ·refine gO (fun t k => XS.ifYes X100.here hx rfl (pc0 := 11) (pc' := 27) rfl (hb hby d22_11) rfl ((if0 _ _).trans (flt hc11_102).2.2.2) (by decide) (by decide) k) ?_
  show Goes p e below (T100.setTop (mkF m 27 #[.val (.ref a1), .val (.ref a2), .val (.int p3)] [])) _
  exact J110 _ _ X100 e100 N100
theorem ef_7 (m : MethodId) (x0 : Addr) : entryFrame m #[(.ref x0)] 3 = mkF m 0 #[.val (.ref x0), .unset, .unset] [] := by first | (simp [entryFrame, mkF, argsToLocals, Value.category]; done) | rfl
def Q7 (Z : State) (a1 : Addr) (cmS : Int32) (aE l1 l2 : Addr) (h0 : Heap) (n0 : Nat) (v : Option Value) (h : Heap) (L : List Loc) : Prop := ∃ (s t : Addr) (kt : ClassId) (zt : Int32), v = some (.ref s) ∧ Fr n0 L ∧ Keep h0 h [] ∧ zt.toInt = ([] : List Int32).length ∧ Exa Z h s "java/lang/String" ∧ Fl5 Z h s (.int 0) ∧ Fl6 Z h s (.ref t) ∧ Arv Z h t kt .byte zt (own_vb ([])) (.int (0 : Int32))
theorem rm7 (l : Launch) (Z : State) (a0 : Array Value) (hw : ∀ d ∈ tables_1, d.before a0 Z = true) (ws : List Jvm.Cond) (a1 : Addr) (cmS : Int32) (aE l1 l2 : Addr) (h0 : Heap) (n0 : Nat) (Z0 : n0 ≤ h0.size) (O0 : Old Z n0 h0) (SC : Sta Z Z.heap "java/lang/String" "COMPACT_STRINGS" "Z" (.int cmS)) (cs0 : cmS ≠ 0) (E_a1 : Exa Z h0 a1 "com/example/hinta/hinta/Statement") (F_k_a1 : Fl3 Z h0 a1 (.ref l1)) (F_v_a1 : Fl4 Z h0 a1 (.ref l2)) (E_l1 : Exa Z h0 l1 "java/util/ArrayList") (F_e_l1 : Fl0 Z h0 l1 (.ref aE)) (F_s_l1 : Fl1 Z h0 l1 (.int 0)) (F_m_l1 : Fl2 Z h0 l1 (.int 0)) (E_l2 : Exa Z h0 l2 "java/util/ArrayList") (F_e_l2 : Fl0 Z h0 l2 (.ref aE)) (F_s_l2 : Fl1 Z h0 l2 (.int 0)) (F_m_l2 : Fl2 Z h0 l2 (.int 0)) :
 CT l Z mn48 prog_26_method_4_code 3 (some (.object "java/lang/String")) ws (⟨6, 4, 36, 115⟩ : Room) #[(.ref a1)] h0 (Q7 Z a1 cmS aE l1 l2 h0 n0) := by
 refine MetFree.of_bodySF (plainFor_of_name pn_4) hisR ?_
 intro p e s m args below meth c s₁ Bd hml0 hP hK
 obtain ⟨rfl, hZ, hh⟩ := hP
 have hx := Bd.exec
 have hby := Bd.bytes
 have hml : c.maxLocals = 3 := hml0
 have hown : s.vm.findClass "com/example/hinta/hinta/Statement" = some m.cls := findClass_of_methodNamed Bd.named
 have hnm := (name_of_methodNamed Bd.named Bd.method).1
 have hlocks : meth.locks = false := BodyLoose.notSynchronized Bd
 have X0 : Stand p l e (⟨6, 4, 36, 115⟩ : Room) s m #[(.ref a1)] below meth c s₁ [] 0 0 := Stand.of_body Bd
 have e0 : s₁.heap = h0 := by rw [← hh, Bd.state]; rfl
 have N0 := Fr.nil n0
 show Goes p e below (s₁.setTop (entryFrame m #[(.ref a1)] 3)) (Fin s (Q7 Z a1 cmS aE l1 l2 h0 n0) (⟨6, 4, 36, 115⟩ : Room).cells (⟨6, 4, 36, 115⟩ : Room).slots)
 refine Goes.of (fun t k => castTop (ef_7 m a1) k) ?_
 have K0 : Keep h0 h0 [] := Keep.refl _ _
 obtain ⟨T100, h100, X100, e100, E100, A100, D100, -, st100⟩ := newO X0 hx hZ hown (wd hw 47 rfl) (wd hw 48 rfl) (wd hw 49 rfl) e0 (g := (mkF m 0 #[.val (.ref a1), .unset, .unset] [])) rfl (hb hby d7_0) (by decide) (by decide)
 obtain ⟨b100, g100⟩ : ∃ z, z = h0.size := ⟨_, rfl⟩
 rw [← g100] at A100 D100 st100
 have g101 : n0 ≤ b100 := Nat.le_trans Z0 (Nat.le_of_eq g100.symm)
 have z102 := Nat.le_trans Z0 E100.1
 have z103 : h0.size ≤ b100 := Nat.le_trans K0.1 (Nat.le_of_eq g100.symm)
 have q104 : a1 ≠ b100 := Nat.ne_of_lt (Nat.lt_of_lt_of_le E_a1.lt (Nat.le_of_eq g100.symm))
 have q105 : l1 ≠ b100 := Nat.ne_of_lt (Nat.lt_of_lt_of_le E_l1.lt (Nat.le_of_eq g100.symm))
 have f107 := O0.ext E100
 have f109 := F_k_a1.ext E100
 have f111 := E_l1.ext E100
 have f113 := F_s_l1.ext E100
 have K117 : Keep h0 h100 [] := K0.ext E100
 have f118 : Fld Z h100 b100 "java/lang/AbstractStringBuilder" "value" "[B" .null := D100 (Or.inl (wd hw 64 rfl)) (ty := (.array .byte)) (by decide)
 have f119 : Fld Z h100 b100 "java/lang/AbstractStringBuilder" "coder" "B" (.int 0) := D100 (Or.inl (wd hw 66 rfl)) (ty := .byte) (by decide)
 have f120 : Fld Z h100 b100 "java/lang/AbstractStringBuilder" "count" "I" (.int 0) := D100 (Or.inl (wd hw 108 rfl)) (ty := .int) (by decide)
 refine Goes.of st100 ?_
 refine gO (fun t k => XS.dup X100.here hx rfl (hb hby d7_3) rfl rfl k) ?_
 obtain ⟨_, _, ⟨T121, L121, k121, n121⟩, -, X121, ⟨Lc121, hQ121, l121, y121, z121⟩, st121⟩ := X100.specialBack hx (y := mn23) rfl hown (mvT hZ (wd hw 50 rfl)) (mvT hZ (wd hw 51 rfl)) (mvT hZ (wd hw 52 rfl)) (by decide) (backOf (W := 1) (rm8 l Z a0 hw [] b100 cmS h100 n0 z102 f107 SC cs0 A100 f118 f119 f120 g101) hZ (wd hw 52 rfl) (wd hw 49 rfl) (by decide) (by decide)) (g := (mkF m 4 #[.val (.ref a1), .unset, .unset] [(.ref b100), (.ref b100)])) rfl (by rw [hml]; rfl) (Steps.refl _) (a := b100) (argsL := []) (rest := [(.ref b100)]) (lenOf pd_2 rfl) rfl (wr0 rfl rfl) (hb hby d7_4) (fun _ _ => ⟨rfl, e100, (by decide : 1 + 1 ≤ _), (by decide : 4 + 16 ≤ _)⟩)
 dsimp only [Pt.U, Pt.locs, Pt.cells, Pt.slots] at X121 l121 y121 z121 st121 hQ121
 subst l121 y121 z121
 obtain ⟨b121, k121b, rfl, N121q, K121, z121b, E121, F121_w, F121_c, F121_n, V121⟩ := hQ121
 have N121 := Fr.app N0 N121q
 have K128 : Keep h0 T121.heap [] := K117.trans K121 (allS (Or.inr z103) all0)
 have z129 := Nat.le_trans z102 K121.1
 have f130 := f107.keep K121 (allS g101 all0)
 have f132 := f109.keep K121 (ninS q104 nin0)
 have f134 := f111.keep K121
 have f136 := f113.keep K121 (ninS q105 nin0)
 refine Goes.of (fun t k => st121.trans k) ?_
 refine gO (fun t k => XS.astoreN X121.here hx rfl (hb hby d7_7) rfl rfl (l' := #[.val (.ref a1), .val (.ref b100), .unset]) rfl k) ?_
 refine gO (fun t k => XS.iconst X121.here hx rfl (hb hby d7_8) k) ?_
 refine gO (fun t k => XS.istoreN X121.here hx rfl (hb hby d7_9) rfl (l' := #[.val (.ref a1), .val (.ref b100), .val (.int 0)]) rfl k) ?_
 show Goes p e below (T121.setTop (mkF m 10 #[.val (.ref a1), .val (.ref b100), .val (.int 0)] [])) _
 refine gO (fun t k => XS.iloadN X121.here hx rfl (hb hby d7_10) rfl k) ?_
 refine gO (fun t k => XS.aloadN X121.here hx rfl (hb hby d7_11) rfl rfl k) ?_
 obtain ⟨T144, X144, e144, st144⟩ := getF X121 hx hZ hown (host := "") (Or.inl (wd hw 34 rfl)) Via.refl rfl f132 (g := (mkF m 12 #[.val (.ref a1), .val (.ref b100), .val (.int 0)] [(.ref a1), (.int 0)])) rfl rfl (hb hby d7_12)
 refine Goes.of st144 ?_
 obtain ⟨cq145, kq145, q145a, q145b, q145c⟩ := isOf hZ e144 f134
 obtain ⟨_, _, ⟨T145, L145, k145, n145⟩, -, X145, ⟨Lc145, hQ145, l145, y145, z145⟩, st145⟩ := X144.interfaceBack hx (xi := mn49) (y := mn11) hown (mvT hZ (wd hw 67 rfl)) (mvT hZ (wd hw 68 rfl)) (mvT hZ (wd hw 69 rfl)) (mvT hZ (wd hw 70 rfl)) (mvT hZ (wd hw 71 rfl)) (mvT hZ (wd hw 72 rfl)) (mvT hZ (wd hw 73 rfl)) (mvT hZ (wd hw 74 rfl)) (by decide) (backOf (W := 1) (rm10 l Z a0 hw [] l1  T121.heap n0 z129 f136) hZ (wd hw 75 rfl) (wd hw 12 rfl) (by decide) (by decide)) q145a q145b q145c (g := (mkF m 15 #[.val (.ref a1), .val (.ref b100), .val (.int 0)] [(.ref l1), (.int 0)])) rfl (by rw [hml]; rfl) (Steps.refl _) (argsL := []) (rest := [(.int 0)]) (lenOf pd_23 rfl) rfl (wr0 rfl rfl) (hb hby d7_15) (fun _ _ => ⟨rfl, e144, (by decide : 2 + 0 ≤ _), (by decide : 20 + 0 ≤ _)⟩)
 dsimp only [Pt.U, Pt.locs, Pt.cells, Pt.slots] at X145 l145 y145 z145 st145 hQ145
 subst l145 y145 z145
 obtain ⟨rfl, N145q, e145⟩ := hQ145
 have N145 := Fr.app N121 N145q
 refine Goes.of (fun t k => st145.trans k) ?_
 refine gO (fun t k => XS.icmpYes X145.here hx rfl (pc0 := 20) (pc' := 73) rfl (hb hby d7_20) rfl (flt (by decide)).2.1 (by decide) (by decide) k) ?_
 refine gO (fun t k => XS.aloadN X145.here hx rfl (hb hby d7_73) rfl rfl k) ?_
 show Goes p e below (T145.setTop (mkF m 74 #[.val (.ref a1), .val (.ref b100), .val (.int 0)] [(.ref b100)])) _
 obtain ⟨cq146, kq146, q146a, q146b, q146c⟩ := isOf hZ e145 E121
 obtain ⟨_, _, ⟨T146, L146, k146, n146⟩, -, X146, ⟨Lc146, hQ146, l146, y146, z146⟩, st146⟩ := X145.virtualBack hx (y := mn42) (z := mn42) hown (mvT hZ (wd hw 78 rfl)) (mvT hZ (wd hw 79 rfl)) (notFace_of_selects (args := #[]) (mvT hZ (wd hw 81 rfl))) (mvT hZ (wd hw 81 rfl)) (mvT hZ (wd hw 80 rfl)) (by decide) (backOf (W := 0) (rm11 l Z a0 hw [] b100 cmS b121 k121b (0 : Int32) [] T121.heap n0 z129 f130 SC cs0 E121 F121_w F121_c F121_n V121 (by decide) (by simp only [List.length_append, List.length_nil, List.length_cons]; omega)) hZ (wd hw 82 rfl) (wd hw 49 rfl) (by decide) (by decide)) q146a q146c (g := (mkF m 74 #[.val (.ref a1), .val (.ref b100), .val (.int 0)] [(.ref b100)])) rfl (by rw [hml]; rfl) (Steps.refl _) (argsL := []) (rest := []) (lenOf pd_39 rfl) rfl (wr0 rfl rfl) (hb hby d7_74) (fun _ _ => ⟨rfl, e145, (by decide : 2 + 2 ≤ _), (by decide : 20 + 16 ≤ _)⟩)
 dsimp only [Pt.U, Pt.locs, Pt.cells, Pt.slots] at X146 l146 y146 z146 st146 hQ146
 subst l146 y146 z146
 obtain ⟨s146, t146, k146t, rfl, N146q, K146, E146, F146_c, F146_w, V146⟩ := hQ146
 have N146 := Fr.app N145 N146q
 have K147 : Keep h0 T146.heap [] := K128.trans K146 all0
 refine Goes.of (fun t k => st146.trans k) ?_
 show Goes p e below (T146.setTop (mkF m 77 #[.val (.ref a1), .val (.ref b100), .val (.int 0)] [(.ref s146)])) _
 have eh : T146.heap = T146.heap := rfl
 exact Goes.retA X146 hx (by rfl) Bd.returns (by rfl) hlocks (hb hby d7_77) (⟨s146, t146, _, (0 : Int32), rfl, N146, by rw [eh]; exact K147, (by decide), by rw [eh]; exact E146, by rw [eh]; exact F146_c, by rw [eh]; exact F146_w, by rw [eh]; exact V146⟩) (by decide) (by decide)
theorem ef_7_69 (m : MethodId) (x0 : Addr) : entryFrame m #[(.ref x0)] 3 = mkF m 0 #[.val (.ref x0), .unset, .unset] [] := by first | (simp [entryFrame, mkF, argsToLocals, Value.category]; done) | rfl
def Q7_69 (Z : State) (a1 : Addr) (cmS : Int32) (l1 l2 d1 : Addr) (k1 : ClassId) (d2 : Addr) (k2 : ClassId) (x0 y0 bx0 : Addr) (kx0 : ClassId) (zx0 : Int32) (ux0 : List Int32) (by0 : Addr) (ky0 : ClassId) (zy0 : Int32) (uy0 : List Int32) (h0 : Heap) (n0 : Nat) (v : Option Value) (h : Heap) (L : List Loc) : Prop := ∃ (s t : Addr) (kt : ClassId) (zt : Int32), v = some (.ref s) ∧ Fr n0 L ∧ Keep h0 h [] ∧ zt.toInt = ((((([] ++ ux0) ++ [32]) ++ uy0) ++ [10]) : List Int32).length ∧ Exa Z h s "java/lang/String" ∧ Fl5 Z h s (.int 0) ∧ Fl6 Z h s (.ref t) ∧ Arv Z h t kt .byte zt (own_vb ((((([] ++ ux0) ++ [32]) ++ uy0) ++ [10]))) (.int (0 : Int32))
theorem rm7_69 (l : Launch) (Z : State) (a0 : Array Value) (hw : ∀ d ∈ tables_1, d.before a0 Z = true) (ws : List Jvm.Cond) (a1 : Addr) (cmS : Int32) (l1 l2 d1 : Addr) (k1 : ClassId) (d2 : Addr) (k2 : ClassId) (x0 y0 bx0 : Addr) (kx0 : ClassId) (zx0 : Int32) (ux0 : List Int32) (by0 : Addr) (ky0 : ClassId) (zy0 : Int32) (uy0 : List Int32) (h0 : Heap) (n0 : Nat) (Z0 : n0 ≤ h0.size) (O0 : Old Z n0 h0) (SC : Sta Z Z.heap "java/lang/String" "COMPACT_STRINGS" "Z" (.int cmS)) (cs0 : cmS ≠ 0) (E_a1 : Exa Z h0 a1 "com/example/hinta/hinta/Statement") (F_k_a1 : Fl3 Z h0 a1 (.ref l1)) (F_v_a1 : Fl4 Z h0 a1 (.ref l2)) (E_l1 : Exa Z h0 l1 "java/util/ArrayList") (F_e_l1 : Fl0 Z h0 l1 (.ref d1)) (F_s_l1 : Fl1 Z h0 l1 (.int 1)) (F_m_l1 : Fl2 Z h0 l1 (.int 1)) (E_l2 : Exa Z h0 l2 "java/util/ArrayList") (F_e_l2 : Fl0 Z h0 l2 (.ref d2)) (F_s_l2 : Fl1 Z h0 l2 (.int 1)) (F_m_l2 : Fl2 Z h0 l2 (.int 1)) (A1 : Arv Z h0 d1 k1 (.object "java/lang/Object") (10 : Int32) [(.ref x0), .null, .null, .null, .null, .null, .null, .null, .null, .null] .null) (A2 : Arv Z h0 d2 k2 (.object "java/lang/Object") (10 : Int32) [(.ref y0), .null, .null, .null, .null, .null, .null, .null, .null, .null] .null) (E_x0 : Exa Z h0 x0 "java/lang/String") (F_c_x0 : Fl5 Z h0 x0 (.int 0)) (F_w_x0 : Fl6 Z h0 x0 (.ref bx0)) (V_bx0 : Arv Z h0 bx0 kx0 .byte zx0 (own_vb (ux0)) (.int (0 : Int32))) (E_y0 : Exa Z h0 y0 "java/lang/String") (F_c_y0 : Fl5 Z h0 y0 (.int 0)) (F_w_y0 : Fl6 Z h0 y0 (.ref by0)) (V_by0 : Arv Z h0 by0 ky0 .byte zy0 (own_vb (uy0)) (.int (0 : Int32))) (hzx0 : zx0.toInt = ux0.length) (hlx0 : ux0.length ≤ 1) (hzy0 : zy0.toInt = uy0.length) (hly0 : uy0.length ≤ 1) :
 CT l Z mn48 prog_26_method_4_code 3 (some (.object "java/lang/String")) ws (⟨6, 4, 36, 115⟩ : Room) #[(.ref a1)] h0 (Q7_69 Z a1 cmS l1 l2 d1 k1 d2 k2 x0 y0 bx0 kx0 zx0 ux0 by0 ky0 zy0 uy0 h0 n0) := by
 refine MetFree.of_bodySF (plainFor_of_name pn_4) hisR ?_
 intro p e s m args below meth c s₁ Bd hml0 hP hK
 obtain ⟨rfl, hZ, hh⟩ := hP
 have hx := Bd.exec
 have hby := Bd.bytes
 have hml : c.maxLocals = 3 := hml0
 have hown : s.vm.findClass "com/example/hinta/hinta/Statement" = some m.cls := findClass_of_methodNamed Bd.named
 have hnm := (name_of_methodNamed Bd.named Bd.method).1
 have hlocks : meth.locks = false := BodyLoose.notSynchronized Bd
 have X0 : Stand p l e (⟨6, 4, 36, 115⟩ : Room) s m #[(.ref a1)] below meth c s₁ [] 0 0 := Stand.of_body Bd
 have e0 : s₁.heap = h0 := by rw [← hh, Bd.state]; rfl
 have N0 := Fr.nil n0
 show Goes p e below (s₁.setTop (entryFrame m #[(.ref a1)] 3)) (Fin s (Q7_69 Z a1 cmS l1 l2 d1 k1 d2 k2 x0 y0 bx0 kx0 zx0 ux0 by0 ky0 zy0 uy0 h0 n0) (⟨6, 4, 36, 115⟩ : Room).cells (⟨6, 4, 36, 115⟩ : Room).slots)
 refine Goes.of (fun t k => castTop (ef_7_69 m a1) k) ?_
 have K0 : Keep h0 h0 [] := Keep.refl _ _
 obtain ⟨T100, h100, X100, e100, E100, A100, D100, -, st100⟩ := newO X0 hx hZ hown (wd hw 47 rfl) (wd hw 48 rfl) (wd hw 49 rfl) e0 (g := (mkF m 0 #[.val (.ref a1), .unset, .unset] [])) rfl (hb hby d7_0) (by decide) (by decide)
 obtain ⟨b100, g100⟩ : ∃ z, z = h0.size := ⟨_, rfl⟩
 rw [← g100] at A100 D100 st100
 have g101 : n0 ≤ b100 := Nat.le_trans Z0 (Nat.le_of_eq g100.symm)
 have z102 := Nat.le_trans Z0 E100.1
 have z103 : h0.size ≤ b100 := Nat.le_trans K0.1 (Nat.le_of_eq g100.symm)
 have q104 : a1 ≠ b100 := Nat.ne_of_lt (Nat.lt_of_lt_of_le E_a1.lt (Nat.le_of_eq g100.symm))
 have q105 : l1 ≠ b100 := Nat.ne_of_lt (Nat.lt_of_lt_of_le E_l1.lt (Nat.le_of_eq g100.symm))
 have q106 : d1 ≠ b100 := Nat.ne_of_lt (Nat.lt_of_lt_of_le A1.lt (Nat.le_of_eq g100.symm))
 have q107 : l2 ≠ b100 := Nat.ne_of_lt (Nat.lt_of_lt_of_le E_l2.lt (Nat.le_of_eq g100.symm))
 have q108 : d2 ≠ b100 := Nat.ne_of_lt (Nat.lt_of_lt_of_le A2.lt (Nat.le_of_eq g100.symm))
 have q109 : x0 ≠ b100 := Nat.ne_of_lt (Nat.lt_of_lt_of_le E_x0.lt (Nat.le_of_eq g100.symm))
 have q110 : bx0 ≠ b100 := Nat.ne_of_lt (Nat.lt_of_lt_of_le V_bx0.lt (Nat.le_of_eq g100.symm))
 have q111 : y0 ≠ b100 := Nat.ne_of_lt (Nat.lt_of_lt_of_le E_y0.lt (Nat.le_of_eq g100.symm))
 have q112 : by0 ≠ b100 := Nat.ne_of_lt (Nat.lt_of_lt_of_le V_by0.lt (Nat.le_of_eq g100.symm))
 have f113 := O0.ext E100
 have f114 := E_a1.ext E100
 have f115 := F_k_a1.ext E100
 have f116 := F_v_a1.ext E100
 have f117 := E_l1.ext E100
 have f118 := F_e_l1.ext E100
 have f119 := F_s_l1.ext E100
 have f120 := A1.ext E100
 have f121 := E_l2.ext E100
 have f122 := F_e_l2.ext E100
 have f123 := F_s_l2.ext E100
 have f124 := A2.ext E100
 have f125 := E_x0.ext E100
 have f126 := F_c_x0.ext E100
 have f127 := F_w_x0.ext E100
 have f128 := V_bx0.ext E100
 have f129 := E_y0.ext E100
 have f130 := F_c_y0.ext E100
 have f131 := F_w_y0.ext E100
 have f132 := V_by0.ext E100
 have K133 : Keep h0 h100 [] := K0.ext E100
 have f134 : Fld Z h100 b100 "java/lang/AbstractStringBuilder" "value" "[B" .null := D100 (Or.inl (wd hw 64 rfl)) (ty := (.array .byte)) (by decide)
 have f135 : Fld Z h100 b100 "java/lang/AbstractStringBuilder" "coder" "B" (.int 0) := D100 (Or.inl (wd hw 66 rfl)) (ty := .byte) (by decide)
 have f136 : Fld Z h100 b100 "java/lang/AbstractStringBuilder" "count" "I" (.int 0) := D100 (Or.inl (wd hw 108 rfl)) (ty := .int) (by decide)
 refine Goes.of st100 ?_
 refine gO (fun t k => XS.dup X100.here hx rfl (hb hby d7_3) rfl rfl k) ?_
 obtain ⟨_, _, ⟨T137, L137, k137, n137⟩, -, X137, ⟨Lc137, hQ137, l137, y137, z137⟩, st137⟩ := X100.specialBack hx (y := mn23) rfl hown (mvT hZ (wd hw 50 rfl)) (mvT hZ (wd hw 51 rfl)) (mvT hZ (wd hw 52 rfl)) (by decide) (backOf (W := 1) (rm8 l Z a0 hw [] b100 cmS h100 n0 z102 f113 SC cs0 A100 f134 f135 f136 g101) hZ (wd hw 52 rfl) (wd hw 49 rfl) (by decide) (by decide)) (g := (mkF m 4 #[.val (.ref a1), .unset, .unset] [(.ref b100), (.ref b100)])) rfl (by rw [hml]; rfl) (Steps.refl _) (a := b100) (argsL := []) (rest := [(.ref b100)]) (lenOf pd_2 rfl) rfl (wr0 rfl rfl) (hb hby d7_4) (fun _ _ => ⟨rfl, e100, (by decide : 1 + 1 ≤ _), (by decide : 4 + 16 ≤ _)⟩)
 dsimp only [Pt.U, Pt.locs, Pt.cells, Pt.slots] at X137 l137 y137 z137 st137 hQ137
 subst l137 y137 z137
 obtain ⟨b137, k137b, rfl, N137q, K137, z137b, E137, F137_w, F137_c, F137_n, V137⟩ := hQ137
 have N137 := Fr.app N0 N137q
 have q138 : a1 ≠ b137 := Nat.ne_of_lt (Nat.lt_of_lt_of_le f114.lt z137b)
 have q139 : l1 ≠ b137 := Nat.ne_of_lt (Nat.lt_of_lt_of_le f117.lt z137b)
 have q141 : l2 ≠ b137 := Nat.ne_of_lt (Nat.lt_of_lt_of_le f121.lt z137b)
 have q142 : d2 ≠ b137 := Nat.ne_of_lt (Nat.lt_of_lt_of_le f124.lt z137b)
 have q144 : bx0 ≠ b137 := Nat.ne_of_lt (Nat.lt_of_lt_of_le f128.lt z137b)
 have q145 : y0 ≠ b137 := Nat.ne_of_lt (Nat.lt_of_lt_of_le f129.lt z137b)
 have q146 : by0 ≠ b137 := Nat.ne_of_lt (Nat.lt_of_lt_of_le f132.lt z137b)
 have g148 : n0 ≤ b137 := Nat.le_trans z102 z137b
 have z149 : h0.size ≤ b137 := Nat.le_trans K133.1 z137b
 have K150 : Keep h0 T137.heap [] := K133.trans K137 (allS (Or.inr z103) all0)
 have z151 := Nat.le_trans z102 K137.1
 have f152 := f113.keep K137 (allS g101 all0)
 have f154 := f115.keep K137 (ninS q104 nin0)
 have f155 := f116.keep K137 (ninS q104 nin0)
 have f156 := f117.keep K137
 have f157 := f118.keep K137 (ninS q105 nin0)
 have f158 := f119.keep K137 (ninS q105 nin0)
 have f159 := f120.keep K137 (ninS q106 nin0)
 have f160 := f121.keep K137
 have f161 := f122.keep K137 (ninS q107 nin0)
 have f162 := f123.keep K137 (ninS q107 nin0)
 have f163 := f124.keep K137 (ninS q108 nin0)
 have f164 := f125.keep K137
 have f165 := f126.keep K137 (ninS q109 nin0)
 have f166 := f127.keep K137 (ninS q109 nin0)
 have f167 := f128.keep K137 (ninS q110 nin0)
 have f168 := f129.keep K137
 have f169 := f130.keep K137 (ninS q111 nin0)
 have f170 := f131.keep K137 (ninS q111 nin0)
 have f171 := f132.keep K137 (ninS q112 nin0)
 refine Goes.of (fun t k => st137.trans k) ?_
 refine gO (fun t k => XS.astoreN X137.here hx rfl (hb hby d7_7) rfl rfl (l' := #[.val (.ref a1), .val (.ref b100), .unset]) rfl k) ?_
 refine gO (fun t k => XS.iconst X137.here hx rfl (hb hby d7_8) k) ?_
 refine gO (fun t k => XS.istoreN X137.here hx rfl (hb hby d7_9) rfl (l' := #[.val (.ref a1), .val (.ref b100), .val (.int 0)]) rfl k) ?_
 show Goes p e below (T137.setTop (mkF m 10 #[.val (.ref a1), .val (.ref b100), .val (.int 0)] [])) _
 refine gO (fun t k => XS.iloadN X137.here hx rfl (hb hby d7_10) rfl k) ?_
 refine gO (fun t k => XS.aloadN X137.here hx rfl (hb hby d7_11) rfl rfl k) ?_
 obtain ⟨T176, X176, e176, st176⟩ := getF X137 hx hZ hown (host := "") (Or.inl (wd hw 34 rfl)) Via.refl rfl f154 (g := (mkF m 12 #[.val (.ref a1), .val (.ref b100), .val (.int 0)] [(.ref a1), (.int 0)])) rfl rfl (hb hby d7_12)
 refine Goes.of st176 ?_
 obtain ⟨cq177, kq177, q177a, q177b, q177c⟩ := isOf hZ e176 f156
 obtain ⟨_, _, ⟨T177, L177, k177, n177⟩, -, X177, ⟨Lc177, hQ177, l177, y177, z177⟩, st177⟩ := X176.interfaceBack hx (xi := mn49) (y := mn11) hown (mvT hZ (wd hw 67 rfl)) (mvT hZ (wd hw 68 rfl)) (mvT hZ (wd hw 69 rfl)) (mvT hZ (wd hw 70 rfl)) (mvT hZ (wd hw 71 rfl)) (mvT hZ (wd hw 72 rfl)) (mvT hZ (wd hw 73 rfl)) (mvT hZ (wd hw 74 rfl)) (by decide) (backOf (W := 1) (rm10_18 l Z a0 hw [] l1  T137.heap n0 z151 f158) hZ (wd hw 75 rfl) (wd hw 12 rfl) (by decide) (by decide)) q177a q177b q177c (g := (mkF m 15 #[.val (.ref a1), .val (.ref b100), .val (.int 0)] [(.ref l1), (.int 0)])) rfl (by rw [hml]; rfl) (Steps.refl _) (argsL := []) (rest := [(.int 0)]) (lenOf pd_23 rfl) rfl (wr0 rfl rfl) (hb hby d7_15) (fun _ _ => ⟨rfl, e176, (by decide : 2 + 0 ≤ _), (by decide : 20 + 0 ≤ _)⟩)
 dsimp only [Pt.U, Pt.locs, Pt.cells, Pt.slots] at X177 l177 y177 z177 st177 hQ177
 subst l177 y177 z177
 obtain ⟨rfl, N177q, e177⟩ := hQ177
 have N177 := Fr.app N137 N177q
 refine Goes.of (fun t k => st177.trans k) ?_
 refine gO (fun t k => XS.icmpNo X177.here hx rfl (hb hby d7_20) rfl (tlt (by decide)).2.1 k) ?_
 refine gO (fun t k => XS.aloadN X177.here hx rfl (hb hby d7_23) rfl rfl k) ?_
 refine gO (fun t k => XS.aloadN X177.here hx rfl (hb hby d7_24) rfl rfl k) ?_
 show Goes p e below (T177.setTop (mkF m 25 #[.val (.ref a1), .val (.ref b100), .val (.int 0)] [(.ref a1), (.ref b100)])) _
 obtain ⟨T178, X178, e178, st178⟩ := getF X177 hx hZ hown (host := "") (Or.inl (wd hw 34 rfl)) Via.refl e177 f154 (g := (mkF m 25 #[.val (.ref a1), .val (.ref b100), .val (.int 0)] [(.ref a1), (.ref b100)])) rfl rfl (hb hby d7_25)
 refine Goes.of st178 ?_
 refine gO (fun t k => XS.iloadN X178.here hx rfl (hb hby d7_28) rfl k) ?_
 obtain ⟨cq179, kq179, q179a, q179b, q179c⟩ := isOf hZ e178 f156
 obtain ⟨_, _, ⟨T179, L179, k179, n179⟩, -, X179, ⟨Lc179, hQ179, l179, y179, z179⟩, st179⟩ := X178.interfaceBack hx (xi := mn50) (y := mn15) hown (mvT hZ (wd hw 203 rfl)) (mvT hZ (wd hw 204 rfl)) (mvT hZ (wd hw 205 rfl)) (mvT hZ (wd hw 206 rfl)) (mvT hZ (wd hw 207 rfl)) (mvT hZ (wd hw 208 rfl)) (mvT hZ (wd hw 209 rfl)) (mvT hZ (wd hw 74 rfl)) (by decide) (backOf (W := 1) (rm35 l Z a0 hw [] l1 d1 k1 x0 T137.heap n0 z151 f156 f158 f157 f159) hZ (wd hw 210 rfl) (wd hw 12 rfl) (by decide) (by decide)) q179a q179b q179c (g := (mkF m 29 #[.val (.ref a1), .val (.ref b100), .val (.int 0)] [(.int 0), (.ref l1), (.ref b100)])) rfl (by rw [hml]; rfl) (Steps.refl _) (argsL := [(.int 0)]) (rest := [(.ref b100)]) (lenOf pd_13 rfl) rfl (wr0 rfl rfl) (hb hby d7_29) (fun _ _ => ⟨rfl, e178, (by decide : 2 + 0 ≤ _), (by decide : 20 + 0 ≤ _)⟩)
 dsimp only [Pt.U, Pt.locs, Pt.cells, Pt.slots] at X179 l179 y179 z179 st179 hQ179
 subst l179 y179 z179
 obtain ⟨rfl, N179q, e179⟩ := hQ179
 have N179 := Fr.app N177 N179q
 refine Goes.of (fun t k => st179.trans k) ?_
 show Goes p e below (T179.setTop (mkF m 34 #[.val (.ref a1), .val (.ref b100), .val (.int 0)] [(.ref x0), (.ref b100)])) _
 obtain ⟨T180, X180, e180, st180⟩ := castY X179 hx hZ hown (wd hw 224 rfl) e179 (Ins.self f164) (g := (mkF m 34 #[.val (.ref a1), .val (.ref b100), .val (.int 0)] [(.ref x0), (.ref b100)])) rfl rfl (hb hby d7_34)
 refine Goes.of st180 ?_
 obtain ⟨cq181, kq181, q181a, q181b, q181c⟩ := isOf hZ e180 E137
 obtain ⟨_, _, ⟨T181, L181, k181, n181⟩, -, X181, ⟨Lc181, hQ181, l181, y181, z181⟩, st181⟩ := X180.virtualBack hx (y := mn33) (z := mn33) hown (mvT hZ (wd hw 225 rfl)) (mvT hZ (wd hw 226 rfl)) (notFace_of_selects (args := #[]) (mvT hZ (wd hw 228 rfl))) (mvT hZ (wd hw 228 rfl)) (mvT hZ (wd hw 227 rfl)) (by decide) (backOf (W := 0) (rm39 l Z a0 hw [] b100 x0 cmS b137 k137b (0 : Int32) [] bx0 kx0 zx0 ux0 T137.heap n0 z151 f152 SC cs0 E137 F137_w F137_c F137_n V137 g148 g101 (by decide) f164 f165 f166 f167 hzx0 (by simp only [List.length_append, List.length_nil, List.length_cons]; omega) q144) hZ (wd hw 229 rfl) (wd hw 49 rfl) (by decide) (by decide)) q181a q181c (g := (mkF m 37 #[.val (.ref a1), .val (.ref b100), .val (.int 0)] [(.ref x0), (.ref b100)])) rfl (by rw [hml]; rfl) (Steps.refl _) (argsL := [(.ref x0)]) (rest := []) (lenOf pd_40 rfl) rfl (wr0 rfl rfl) (hb hby d7_37) (fun _ _ => ⟨rfl, e180, (by decide : 2 + 0 ≤ _), (by decide : 20 + 0 ≤ _)⟩)
 dsimp only [Pt.U, Pt.locs, Pt.cells, Pt.slots] at X181 l181 y181 z181 st181 hQ181
 subst l181 y181 z181
 obtain ⟨m181, rfl, N181q, K181, hl181, E181, F181_w, F181_c, F181_n, V181⟩ := hQ181
 have N181 := Fr.app N179 N181q
 have K182 : Keep h0 T181.heap [] := K150.trans K181 (allS (Or.inr z103) (allS (Or.inr z149) all0))
 have z183 := Nat.le_trans z151 K181.1
 have f184 := f152.keep K181 (allS g101 (allS g148 all0))
 have f186 := f154.keep K181 (ninS q104 (ninS q138 nin0))
 have f187 := f155.keep K181 (ninS q104 (ninS q138 nin0))
 have f188 := f156.keep K181
 have f190 := f158.keep K181 (ninS q105 (ninS q139 nin0))
 have f192 := f160.keep K181
 have f193 := f161.keep K181 (ninS q107 (ninS q141 nin0))
 have f194 := f162.keep K181 (ninS q107 (ninS q141 nin0))
 have f195 := f163.keep K181 (ninS q108 (ninS q142 nin0))
 have f200 := f168.keep K181
 have f201 := f169.keep K181 (ninS q111 (ninS q145 nin0))
 have f202 := f170.keep K181 (ninS q111 (ninS q145 nin0))
 have f203 := f171.keep K181 (ninS q112 (ninS q146 nin0))
 refine Goes.of (fun t k => st181.trans k) ?_
 obtain ⟨LX209, X209, N209⟩ : ∃ LX, Stand p l e (⟨6, 4, 36, 115⟩ : Room) s m #[(.ref a1)] below meth c T181 LX 2 20 ∧ Fr n0 LX := ⟨_, X181, N181⟩
 refine gO (fun t k => XS.bipush X209.here hx rfl (hb hby d7_40) k) ?_
 obtain ⟨cq210, kq210, q210a, q210b, q210c⟩ := isOf hZ rfl E181
 obtain ⟨_, _, ⟨T210, L210, k210, n210⟩, -, X210, ⟨Lc210, hQ210, l210, y210, z210⟩, st210⟩ := X209.virtualBack hx (y := mn35) (z := mn35) hown (mvT hZ (wd hw 257 rfl)) (mvT hZ (wd hw 258 rfl)) (notFace_of_selects (args := #[]) (mvT hZ (wd hw 260 rfl))) (mvT hZ (wd hw 260 rfl)) (mvT hZ (wd hw 259 rfl)) (by decide) (backOf (W := 0) (rm45 l Z a0 hw [] b100 (32 : Int32) cmS b137 k137b m181 ([] ++ ux0)  T181.heap n0 z183 f184 SC cs0 E181 F181_w F181_c F181_n V181 g148 g101 hl181 (by simp only [List.length_append, List.length_nil, List.length_cons]; omega) (by decide)) hZ (wd hw 261 rfl) (wd hw 49 rfl) (by decide) (by decide)) q210a q210c (g := (mkF m 42 #[.val (.ref a1), .val (.ref b100), .val (.int 0)] [(.int 32), (.ref b100)])) rfl (by rw [hml]; rfl) (Steps.refl _) (argsL := [(.int 32)]) (rest := []) (lenOf pd_41 rfl) rfl (wr0 rfl rfl) (hb hby d7_42) (fun _ _ => ⟨rfl, rfl, (by decide : 2 + 0 ≤ _), (by decide : 20 + 0 ≤ _)⟩)
 dsimp only [Pt.U, Pt.locs, Pt.cells, Pt.slots] at X210 l210 y210 z210 st210 hQ210
 subst l210 y210 z210
 obtain ⟨m210, rfl, N210q, K210, hl210, E210, F210_w, F210_c, F210_n, V210⟩ := hQ210
 have N210 := Fr.app N209 N210q
 have K211 : Keep h0 T210.heap [] := K182.trans K210 (allS (Or.inr z103) (allS (Or.inr z149) all0))
 have z212 := Nat.le_trans z183 K210.1
 have f213 := f184.keep K210 (allS g101 (allS g148 all0))
 have f215 := f186.keep K210 (ninS q104 (ninS q138 nin0))
 have f216 := f187.keep K210 (ninS q104 (ninS q138 nin0))
 have f217 := f188.keep K210
 have f219 := f190.keep K210 (ninS q105 (ninS q139 nin0))
 have f221 := f192.keep K210
 have f222 := f193.keep K210 (ninS q107 (ninS q141 nin0))
 have f223 := f194.keep K210 (ninS q107 (ninS q141 nin0))
 have f224 := f195.keep K210 (ninS q108 (ninS q142 nin0))
 have f229 := f200.keep K210
 have f230 := f201.keep K210 (ninS q111 (ninS q145 nin0))
 have f231 := f202.keep K210 (ninS q111 (ninS q145 nin0))
 have f232 := f203.keep K210 (ninS q112 (ninS q146 nin0))
 refine Goes.of (fun t k => st210.trans k) ?_
 obtain ⟨LX238, X238, N238⟩ : ∃ LX, Stand p l e (⟨6, 4, 36, 115⟩ : Room) s m #[(.ref a1)] below meth c T210 LX 2 20 ∧ Fr n0 LX := ⟨_, X210, N210⟩
 refine gO (fun t k => XS.aloadN X238.here hx rfl (hb hby d7_45) rfl rfl k) ?_
 obtain ⟨T239, X239, e239, st239⟩ := getF X238 hx hZ hown (host := "") (Or.inl (wd hw 36 rfl)) Via.refl rfl f216 (g := (mkF m 46 #[.val (.ref a1), .val (.ref b100), .val (.int 0)] [(.ref a1), (.ref b100)])) rfl rfl (hb hby d7_46)
 refine Goes.of st239 ?_
 refine gO (fun t k => XS.iloadN X239.here hx rfl (hb hby d7_49) rfl k) ?_
 show Goes p e below (T239.setTop (mkF m 50 #[.val (.ref a1), .val (.ref b100), .val (.int 0)] [(.int 0), (.ref l2), (.ref b100)])) _
 obtain ⟨cq240, kq240, q240a, q240b, q240c⟩ := isOf hZ e239 f221
 obtain ⟨_, _, ⟨T240, L240, k240, n240⟩, -, X240, ⟨Lc240, hQ240, l240, y240, z240⟩, st240⟩ := X239.interfaceBack hx (xi := mn50) (y := mn15) hown (mvT hZ (wd hw 203 rfl)) (mvT hZ (wd hw 204 rfl)) (mvT hZ (wd hw 205 rfl)) (mvT hZ (wd hw 206 rfl)) (mvT hZ (wd hw 207 rfl)) (mvT hZ (wd hw 208 rfl)) (mvT hZ (wd hw 209 rfl)) (mvT hZ (wd hw 74 rfl)) (by decide) (backOf (W := 1) (rm35 l Z a0 hw [] l2 d2 k2 y0 T210.heap n0 z212 f221 f223 f222 f224) hZ (wd hw 210 rfl) (wd hw 12 rfl) (by decide) (by decide)) q240a q240b q240c (g := (mkF m 50 #[.val (.ref a1), .val (.ref b100), .val (.int 0)] [(.int 0), (.ref l2), (.ref b100)])) rfl (by rw [hml]; rfl) (Steps.refl _) (argsL := [(.int 0)]) (rest := [(.ref b100)]) (lenOf pd_13 rfl) rfl (wr0 rfl rfl) (hb hby d7_50) (fun _ _ => ⟨rfl, e239, (by decide : 2 + 0 ≤ _), (by decide : 20 + 0 ≤ _)⟩)
 dsimp only [Pt.U, Pt.locs, Pt.cells, Pt.slots] at X240 l240 y240 z240 st240 hQ240
 subst l240 y240 z240
 obtain ⟨rfl, N240q, e240⟩ := hQ240
 have N240 := Fr.app N238 N240q
 refine Goes.of (fun t k => st240.trans k) ?_
 show Goes p e below (T240.setTop (mkF m 55 #[.val (.ref a1), .val (.ref b100), .val (.int 0)] [(.ref y0), (.ref b100)])) _
 obtain ⟨T241, X241, e241, st241⟩ := castY X240 hx hZ hown (wd hw 224 rfl) e240 (Ins.self f229) (g := (mkF m 55 #[.val (.ref a1), .val (.ref b100), .val (.int 0)] [(.ref y0), (.ref b100)])) rfl rfl (hb hby d7_55)
 refine Goes.of st241 ?_
 obtain ⟨cq242, kq242, q242a, q242b, q242c⟩ := isOf hZ e241 E210
 obtain ⟨_, _, ⟨T242, L242, k242, n242⟩, -, X242, ⟨Lc242, hQ242, l242, y242, z242⟩, st242⟩ := X241.virtualBack hx (y := mn33) (z := mn33) hown (mvT hZ (wd hw 225 rfl)) (mvT hZ (wd hw 226 rfl)) (notFace_of_selects (args := #[]) (mvT hZ (wd hw 228 rfl))) (mvT hZ (wd hw 228 rfl)) (mvT hZ (wd hw 227 rfl)) (by decide) (backOf (W := 0) (rm39 l Z a0 hw [] b100 y0 cmS b137 k137b m210 (([] ++ ux0) ++ [32]) by0 ky0 zy0 uy0 T210.heap n0 z212 f213 SC cs0 E210 F210_w F210_c F210_n V210 g148 g101 hl210 f229 f230 f231 f232 hzy0 (by simp only [List.length_append, List.length_nil, List.length_cons]; omega) q146) hZ (wd hw 229 rfl) (wd hw 49 rfl) (by decide) (by decide)) q242a q242c (g := (mkF m 58 #[.val (.ref a1), .val (.ref b100), .val (.int 0)] [(.ref y0), (.ref b100)])) rfl (by rw [hml]; rfl) (Steps.refl _) (argsL := [(.ref y0)]) (rest := []) (lenOf pd_40 rfl) rfl (wr0 rfl rfl) (hb hby d7_58) (fun _ _ => ⟨rfl, e241, (by decide : 2 + 0 ≤ _), (by decide : 20 + 0 ≤ _)⟩)
 dsimp only [Pt.U, Pt.locs, Pt.cells, Pt.slots] at X242 l242 y242 z242 st242 hQ242
 subst l242 y242 z242
 obtain ⟨m242, rfl, N242q, K242, hl242, E242, F242_w, F242_c, F242_n, V242⟩ := hQ242
 have N242 := Fr.app N240 N242q
 have K243 : Keep h0 T242.heap [] := K211.trans K242 (allS (Or.inr z103) (allS (Or.inr z149) all0))
 have z244 := Nat.le_trans z212 K242.1
 have f245 := f213.keep K242 (allS g101 (allS g148 all0))
 have f247 := f215.keep K242 (ninS q104 (ninS q138 nin0))
 have f249 := f217.keep K242
 have f251 := f219.keep K242 (ninS q105 (ninS q139 nin0))
 refine Goes.of (fun t k => st242.trans k) ?_
 obtain ⟨LX270, X270, N270⟩ : ∃ LX, Stand p l e (⟨6, 4, 36, 115⟩ : Room) s m #[(.ref a1)] below meth c T242 LX 2 20 ∧ Fr n0 LX := ⟨_, X242, N242⟩
 refine gO (fun t k => XS.bipush X270.here hx rfl (hb hby d7_61) k) ?_
 obtain ⟨cq271, kq271, q271a, q271b, q271c⟩ := isOf hZ rfl E242
 obtain ⟨_, _, ⟨T271, L271, k271, n271⟩, -, X271, ⟨Lc271, hQ271, l271, y271, z271⟩, st271⟩ := X270.virtualBack hx (y := mn35) (z := mn35) hown (mvT hZ (wd hw 257 rfl)) (mvT hZ (wd hw 258 rfl)) (notFace_of_selects (args := #[]) (mvT hZ (wd hw 260 rfl))) (mvT hZ (wd hw 260 rfl)) (mvT hZ (wd hw 259 rfl)) (by decide) (backOf (W := 0) (rm45 l Z a0 hw [] b100 (10 : Int32) cmS b137 k137b m242 ((([] ++ ux0) ++ [32]) ++ uy0)  T242.heap n0 z244 f245 SC cs0 E242 F242_w F242_c F242_n V242 g148 g101 hl242 (by simp only [List.length_append, List.length_nil, List.length_cons]; omega) (by decide)) hZ (wd hw 261 rfl) (wd hw 49 rfl) (by decide) (by decide)) q271a q271c (g := (mkF m 63 #[.val (.ref a1), .val (.ref b100), .val (.int 0)] [(.int 10), (.ref b100)])) rfl (by rw [hml]; rfl) (Steps.refl _) (argsL := [(.int 10)]) (rest := []) (lenOf pd_41 rfl) rfl (wr0 rfl rfl) (hb hby d7_63) (fun _ _ => ⟨rfl, rfl, (by decide : 2 + 0 ≤ _), (by decide : 20 + 0 ≤ _)⟩)
 dsimp only [Pt.U, Pt.locs, Pt.cells, Pt.slots] at X271 l271 y271 z271 st271 hQ271
 subst l271 y271 z271
 obtain ⟨m271, rfl, N271q, K271, hl271, E271, F271_w, F271_c, F271_n, V271⟩ := hQ271
 have N271 := Fr.app N270 N271q
 have K272 : Keep h0 T271.heap [] := K243.trans K271 (allS (Or.inr z103) (allS (Or.inr z149) all0))
 have z273 := Nat.le_trans z244 K271.1
 have f274 := f245.keep K271 (allS g101 (allS g148 all0))
 have f276 := f247.keep K271 (ninS q104 (ninS q138 nin0))
 have f278 := f249.keep K271
 have f280 := f251.keep K271 (ninS q105 (ninS q139 nin0))
 refine Goes.of (fun t k => st271.trans k) ?_
 obtain ⟨LX299, X299, N299⟩ : ∃ LX, Stand p l e (⟨6, 4, 36, 115⟩ : Room) s m #[(.ref a1)] below meth c T271 LX 2 20 ∧ Fr n0 LX := ⟨_, X271, N271⟩
 refine gO (fun t k => XS.pop X299.here hx rfl (hb hby d7_66) rfl rfl k) ?_
 show Goes p e below (T271.setTop (mkF m 67 #[.val (.ref a1), .val (.ref b100), .val (.int 0)] [])) _
 refine gO (fun t k => XS.iinc X299.here hx rfl (hb hby d7_67) rfl (l' := #[.val (.ref a1), .val (.ref b100), .val (.int 1)]) rfl k) ?_
 refine gO (fun t k => XS.goto X299.here hx rfl (pc0 := 70) (pc' := 10) rfl (hb hby d7_70) (by decide) (by decide) k) ?_
 refine gO (fun t k => XS.iloadN X299.here hx rfl (hb hby d7_10) rfl k) ?_
 refine gO (fun t k => XS.aloadN X299.here hx rfl (hb hby d7_11) rfl rfl k) ?_
 show Goes p e below (T271.setTop (mkF m 12 #[.val (.ref a1), .val (.ref b100), .val (.int 1)] [(.ref a1), (.int 1)])) _
 obtain ⟨T300, X300, e300, st300⟩ := getF X299 hx hZ hown (host := "") (Or.inl (wd hw 34 rfl)) Via.refl rfl f276 (g := (mkF m 12 #[.val (.ref a1), .val (.ref b100), .val (.int 1)] [(.ref a1), (.int 1)])) rfl rfl (hb hby d7_12)
 refine Goes.of st300 ?_
 obtain ⟨cq301, kq301, q301a, q301b, q301c⟩ := isOf hZ e300 f278
 obtain ⟨_, _, ⟨T301, L301, k301, n301⟩, -, X301, ⟨Lc301, hQ301, l301, y301, z301⟩, st301⟩ := X300.interfaceBack hx (xi := mn49) (y := mn11) hown (mvT hZ (wd hw 67 rfl)) (mvT hZ (wd hw 68 rfl)) (mvT hZ (wd hw 69 rfl)) (mvT hZ (wd hw 70 rfl)) (mvT hZ (wd hw 71 rfl)) (mvT hZ (wd hw 72 rfl)) (mvT hZ (wd hw 73 rfl)) (mvT hZ (wd hw 74 rfl)) (by decide) (backOf (W := 1) (rm10_18 l Z a0 hw [] l1  T271.heap n0 z273 f280) hZ (wd hw 75 rfl) (wd hw 12 rfl) (by decide) (by decide)) q301a q301b q301c (g := (mkF m 15 #[.val (.ref a1), .val (.ref b100), .val (.int 1)] [(.ref l1), (.int 1)])) rfl (by rw [hml]; rfl) (Steps.refl _) (argsL := []) (rest := [(.int 1)]) (lenOf pd_23 rfl) rfl (wr0 rfl rfl) (hb hby d7_15) (fun _ _ => ⟨rfl, e300, (by decide : 2 + 0 ≤ _), (by decide : 20 + 0 ≤ _)⟩)
 dsimp only [Pt.U, Pt.locs, Pt.cells, Pt.slots] at X301 l301 y301 z301 st301 hQ301
 subst l301 y301 z301
 obtain ⟨rfl, N301q, e301⟩ := hQ301
 have N301 := Fr.app N299 N301q
 refine Goes.of (fun t k => st301.trans k) ?_
 refine gO (fun t k => XS.icmpYes X301.here hx rfl (pc0 := 20) (pc' := 73) rfl (hb hby d7_20) rfl (flt (by decide)).2.1 (by decide) (by decide) k) ?_
 refine gO (fun t k => XS.aloadN X301.here hx rfl (hb hby d7_73) rfl rfl k) ?_
 obtain ⟨cq302, kq302, q302a, q302b, q302c⟩ := isOf hZ e301 E271
 obtain ⟨_, _, ⟨T302, L302, k302, n302⟩, -, X302, ⟨Lc302, hQ302, l302, y302, z302⟩, st302⟩ := X301.virtualBack hx (y := mn42) (z := mn42) hown (mvT hZ (wd hw 78 rfl)) (mvT hZ (wd hw 79 rfl)) (notFace_of_selects (args := #[]) (mvT hZ (wd hw 81 rfl))) (mvT hZ (wd hw 81 rfl)) (mvT hZ (wd hw 80 rfl)) (by decide) (backOf (W := 0) (rm11 l Z a0 hw [] b100 cmS b137 k137b m271 (((([] ++ ux0) ++ [32]) ++ uy0) ++ [10]) T271.heap n0 z273 f274 SC cs0 E271 F271_w F271_c F271_n V271 hl271 (by simp only [List.length_append, List.length_nil, List.length_cons]; omega)) hZ (wd hw 82 rfl) (wd hw 49 rfl) (by decide) (by decide)) q302a q302c (g := (mkF m 74 #[.val (.ref a1), .val (.ref b100), .val (.int 1)] [(.ref b100)])) rfl (by rw [hml]; rfl) (Steps.refl _) (argsL := []) (rest := []) (lenOf pd_39 rfl) rfl (wr0 rfl rfl) (hb hby d7_74) (fun _ _ => ⟨rfl, e301, (by decide : 2 + 2 ≤ _), (by decide : 20 + 16 ≤ _)⟩)
 dsimp only [Pt.U, Pt.locs, Pt.cells, Pt.slots] at X302 l302 y302 z302 st302 hQ302
 subst l302 y302 z302
 obtain ⟨s302, t302, k302t, rfl, N302q, K302, E302, F302_c, F302_w, V302⟩ := hQ302
 have N302 := Fr.app N301 N302q
 have K303 : Keep h0 T302.heap [] := K272.trans K302 all0
 refine Goes.of (fun t k => st302.trans k) ?_
 show Goes p e below (T302.setTop (mkF m 77 #[.val (.ref a1), .val (.ref b100), .val (.int 1)] [(.ref s302)])) _
 have eh : T302.heap = T302.heap := rfl
 exact Goes.retA X302 hx (by rfl) Bd.returns (by rfl) hlocks (hb hby d7_77) (⟨s302, t302, _, m271, rfl, N302, by rw [eh]; exact K303, hl271, by rw [eh]; exact E302, by rw [eh]; exact F302_c, by rw [eh]; exact F302_w, by rw [eh]; exact V302⟩) (by decide) (by decide)
theorem ef_7_70 (m : MethodId) (x0 : Addr) : entryFrame m #[(.ref x0)] 3 = mkF m 0 #[.val (.ref x0), .unset, .unset] [] := by first | (simp [entryFrame, mkF, argsToLocals, Value.category]; done) | rfl
def Q7_70 (Z : State) (a1 : Addr) (cmS : Int32) (l1 l2 d1 : Addr) (k1 : ClassId) (d2 : Addr) (k2 : ClassId) (x0 x1 y0 y1 bx0 : Addr) (kx0 : ClassId) (zx0 : Int32) (ux0 : List Int32) (by0 : Addr) (ky0 : ClassId) (zy0 : Int32) (uy0 : List Int32) (bx1 : Addr) (kx1 : ClassId) (zx1 : Int32) (ux1 : List Int32) (by1 : Addr) (ky1 : ClassId) (zy1 : Int32) (uy1 : List Int32) (h0 : Heap) (n0 : Nat) (v : Option Value) (h : Heap) (L : List Loc) : Prop := ∃ (s t : Addr) (kt : ClassId) (zt : Int32), v = some (.ref s) ∧ Fr n0 L ∧ Keep h0 h [] ∧ zt.toInt = ((((((((([] ++ ux0) ++ [32]) ++ uy0) ++ [10]) ++ ux1) ++ [32]) ++ uy1) ++ [10]) : List Int32).length ∧ Exa Z h s "java/lang/String" ∧ Fl5 Z h s (.int 0) ∧ Fl6 Z h s (.ref t) ∧ Arv Z h t kt .byte zt (own_vb ((((((((([] ++ ux0) ++ [32]) ++ uy0) ++ [10]) ++ ux1) ++ [32]) ++ uy1) ++ [10]))) (.int (0 : Int32))
theorem rm7_70 (l : Launch) (Z : State) (a0 : Array Value) (hw : ∀ d ∈ tables_1, d.before a0 Z = true) (ws : List Jvm.Cond) (a1 : Addr) (cmS : Int32) (l1 l2 d1 : Addr) (k1 : ClassId) (d2 : Addr) (k2 : ClassId) (x0 x1 y0 y1 bx0 : Addr) (kx0 : ClassId) (zx0 : Int32) (ux0 : List Int32) (by0 : Addr) (ky0 : ClassId) (zy0 : Int32) (uy0 : List Int32) (bx1 : Addr) (kx1 : ClassId) (zx1 : Int32) (ux1 : List Int32) (by1 : Addr) (ky1 : ClassId) (zy1 : Int32) (uy1 : List Int32) (h0 : Heap) (n0 : Nat) (Z0 : n0 ≤ h0.size) (O0 : Old Z n0 h0) (SC : Sta Z Z.heap "java/lang/String" "COMPACT_STRINGS" "Z" (.int cmS)) (cs0 : cmS ≠ 0) (E_a1 : Exa Z h0 a1 "com/example/hinta/hinta/Statement") (F_k_a1 : Fl3 Z h0 a1 (.ref l1)) (F_v_a1 : Fl4 Z h0 a1 (.ref l2)) (E_l1 : Exa Z h0 l1 "java/util/ArrayList") (F_e_l1 : Fl0 Z h0 l1 (.ref d1)) (F_s_l1 : Fl1 Z h0 l1 (.int 2)) (F_m_l1 : Fl2 Z h0 l1 (.int 2)) (E_l2 : Exa Z h0 l2 "java/util/ArrayList") (F_e_l2 : Fl0 Z h0 l2 (.ref d2)) (F_s_l2 : Fl1 Z h0 l2 (.int 2)) (F_m_l2 : Fl2 Z h0 l2 (.int 2)) (A1 : Arv Z h0 d1 k1 (.object "java/lang/Object") (10 : Int32) [(.ref x0), (.ref x1), .null, .null, .null, .null, .null, .null, .null, .null] .null) (A2 : Arv Z h0 d2 k2 (.object "java/lang/Object") (10 : Int32) [(.ref y0), (.ref y1), .null, .null, .null, .null, .null, .null, .null, .null] .null) (E_x0 : Exa Z h0 x0 "java/lang/String") (F_c_x0 : Fl5 Z h0 x0 (.int 0)) (F_w_x0 : Fl6 Z h0 x0 (.ref bx0)) (V_bx0 : Arv Z h0 bx0 kx0 .byte zx0 (own_vb (ux0)) (.int (0 : Int32))) (E_y0 : Exa Z h0 y0 "java/lang/String") (F_c_y0 : Fl5 Z h0 y0 (.int 0)) (F_w_y0 : Fl6 Z h0 y0 (.ref by0)) (V_by0 : Arv Z h0 by0 ky0 .byte zy0 (own_vb (uy0)) (.int (0 : Int32))) (E_x1 : Exa Z h0 x1 "java/lang/String") (F_c_x1 : Fl5 Z h0 x1 (.int 0)) (F_w_x1 : Fl6 Z h0 x1 (.ref bx1)) (V_bx1 : Arv Z h0 bx1 kx1 .byte zx1 (own_vb (ux1)) (.int (0 : Int32))) (E_y1 : Exa Z h0 y1 "java/lang/String") (F_c_y1 : Fl5 Z h0 y1 (.int 0)) (F_w_y1 : Fl6 Z h0 y1 (.ref by1)) (V_by1 : Arv Z h0 by1 ky1 .byte zy1 (own_vb (uy1)) (.int (0 : Int32))) (hzx0 : zx0.toInt = ux0.length) (hlx0 : ux0.length ≤ 1) (hzy0 : zy0.toInt = uy0.length) (hly0 : uy0.length ≤ 1) (hzx1 : zx1.toInt = ux1.length) (hlx1 : ux1.length ≤ 1) (hzy1 : zy1.toInt = uy1.length) (hly1 : uy1.length ≤ 1) :
 CT l Z mn48 prog_26_method_4_code 3 (some (.object "java/lang/String")) ws (⟨6, 4, 36, 115⟩ : Room) #[(.ref a1)] h0 (Q7_70 Z a1 cmS l1 l2 d1 k1 d2 k2 x0 x1 y0 y1 bx0 kx0 zx0 ux0 by0 ky0 zy0 uy0 bx1 kx1 zx1 ux1 by1 ky1 zy1 uy1 h0 n0) := by
 refine MetFree.of_bodySF (plainFor_of_name pn_4) hisR ?_
 intro p e s m args below meth c s₁ Bd hml0 hP hK
 obtain ⟨rfl, hZ, hh⟩ := hP
 have hx := Bd.exec
 have hby := Bd.bytes
 have hml : c.maxLocals = 3 := hml0
 have hown : s.vm.findClass "com/example/hinta/hinta/Statement" = some m.cls := findClass_of_methodNamed Bd.named
 have hnm := (name_of_methodNamed Bd.named Bd.method).1
 have hlocks : meth.locks = false := BodyLoose.notSynchronized Bd
 have X0 : Stand p l e (⟨6, 4, 36, 115⟩ : Room) s m #[(.ref a1)] below meth c s₁ [] 0 0 := Stand.of_body Bd
 have e0 : s₁.heap = h0 := by rw [← hh, Bd.state]; rfl
 have N0 := Fr.nil n0
 show Goes p e below (s₁.setTop (entryFrame m #[(.ref a1)] 3)) (Fin s (Q7_70 Z a1 cmS l1 l2 d1 k1 d2 k2 x0 x1 y0 y1 bx0 kx0 zx0 ux0 by0 ky0 zy0 uy0 bx1 kx1 zx1 ux1 by1 ky1 zy1 uy1 h0 n0) (⟨6, 4, 36, 115⟩ : Room).cells (⟨6, 4, 36, 115⟩ : Room).slots)
 refine Goes.of (fun t k => castTop (ef_7_70 m a1) k) ?_
 have K0 : Keep h0 h0 [] := Keep.refl _ _
 obtain ⟨T100, h100, X100, e100, E100, A100, D100, -, st100⟩ := newO X0 hx hZ hown (wd hw 47 rfl) (wd hw 48 rfl) (wd hw 49 rfl) e0 (g := (mkF m 0 #[.val (.ref a1), .unset, .unset] [])) rfl (hb hby d7_0) (by decide) (by decide)
 obtain ⟨b100, g100⟩ : ∃ z, z = h0.size := ⟨_, rfl⟩
 rw [← g100] at A100 D100 st100
 have g101 : n0 ≤ b100 := Nat.le_trans Z0 (Nat.le_of_eq g100.symm)
 have z102 := Nat.le_trans Z0 E100.1
 have z103 : h0.size ≤ b100 := Nat.le_trans K0.1 (Nat.le_of_eq g100.symm)
 have q104 : a1 ≠ b100 := Nat.ne_of_lt (Nat.lt_of_lt_of_le E_a1.lt (Nat.le_of_eq g100.symm))
 have q105 : l1 ≠ b100 := Nat.ne_of_lt (Nat.lt_of_lt_of_le E_l1.lt (Nat.le_of_eq g100.symm))
 have q106 : d1 ≠ b100 := Nat.ne_of_lt (Nat.lt_of_lt_of_le A1.lt (Nat.le_of_eq g100.symm))
 have q107 : l2 ≠ b100 := Nat.ne_of_lt (Nat.lt_of_lt_of_le E_l2.lt (Nat.le_of_eq g100.symm))
 have q108 : d2 ≠ b100 := Nat.ne_of_lt (Nat.lt_of_lt_of_le A2.lt (Nat.le_of_eq g100.symm))
 have q109 : x0 ≠ b100 := Nat.ne_of_lt (Nat.lt_of_lt_of_le E_x0.lt (Nat.le_of_eq g100.symm))
 have q110 : bx0 ≠ b100 := Nat.ne_of_lt (Nat.lt_of_lt_of_le V_bx0.lt (Nat.le_of_eq g100.symm))
 have q111 : y0 ≠ b100 := Nat.ne_of_lt (Nat.lt_of_lt_of_le E_y0.lt (Nat.le_of_eq g100.symm))
 have q112 : by0 ≠ b100 := Nat.ne_of_lt (Nat.lt_of_lt_of_le V_by0.lt (Nat.le_of_eq g100.symm))
 have q113 : x1 ≠ b100 := Nat.ne_of_lt (Nat.lt_of_lt_of_le E_x1.lt (Nat.le_of_eq g100.symm))
 have q114 : bx1 ≠ b100 := Nat.ne_of_lt (Nat.lt_of_lt_of_le V_bx1.lt (Nat.le_of_eq g100.symm))
 have q115 : y1 ≠ b100 := Nat.ne_of_lt (Nat.lt_of_lt_of_le E_y1.lt (Nat.le_of_eq g100.symm))
 have q116 : by1 ≠ b100 := Nat.ne_of_lt (Nat.lt_of_lt_of_le V_by1.lt (Nat.le_of_eq g100.symm))
 have f117 := O0.ext E100
 have f118 := E_a1.ext E100
 have f119 := F_k_a1.ext E100
 have f120 := F_v_a1.ext E100
 have f121 := E_l1.ext E100
 have f122 := F_e_l1.ext E100
 have f123 := F_s_l1.ext E100
 have f124 := A1.ext E100
 have f125 := E_l2.ext E100
 have f126 := F_e_l2.ext E100
 have f127 := F_s_l2.ext E100
 have f128 := A2.ext E100
 have f129 := E_x0.ext E100
 have f130 := F_c_x0.ext E100
 have f131 := F_w_x0.ext E100
 have f132 := V_bx0.ext E100
 have f133 := E_y0.ext E100
 have f134 := F_c_y0.ext E100
 have f135 := F_w_y0.ext E100
 have f136 := V_by0.ext E100
 have f137 := E_x1.ext E100
 have f138 := F_c_x1.ext E100
 have f139 := F_w_x1.ext E100
 have f140 := V_bx1.ext E100
 have f141 := E_y1.ext E100
 have f142 := F_c_y1.ext E100
 have f143 := F_w_y1.ext E100
 have f144 := V_by1.ext E100
 have K145 : Keep h0 h100 [] := K0.ext E100
 have f146 : Fld Z h100 b100 "java/lang/AbstractStringBuilder" "value" "[B" .null := D100 (Or.inl (wd hw 64 rfl)) (ty := (.array .byte)) (by decide)
 have f147 : Fld Z h100 b100 "java/lang/AbstractStringBuilder" "coder" "B" (.int 0) := D100 (Or.inl (wd hw 66 rfl)) (ty := .byte) (by decide)
 have f148 : Fld Z h100 b100 "java/lang/AbstractStringBuilder" "count" "I" (.int 0) := D100 (Or.inl (wd hw 108 rfl)) (ty := .int) (by decide)
 refine Goes.of st100 ?_
 refine gO (fun t k => XS.dup X100.here hx rfl (hb hby d7_3) rfl rfl k) ?_
 obtain ⟨_, _, ⟨T149, L149, k149, n149⟩, -, X149, ⟨Lc149, hQ149, l149, y149, z149⟩, st149⟩ := X100.specialBack hx (y := mn23) rfl hown (mvT hZ (wd hw 50 rfl)) (mvT hZ (wd hw 51 rfl)) (mvT hZ (wd hw 52 rfl)) (by decide) (backOf (W := 1) (rm8 l Z a0 hw [] b100 cmS h100 n0 z102 f117 SC cs0 A100 f146 f147 f148 g101) hZ (wd hw 52 rfl) (wd hw 49 rfl) (by decide) (by decide)) (g := (mkF m 4 #[.val (.ref a1), .unset, .unset] [(.ref b100), (.ref b100)])) rfl (by rw [hml]; rfl) (Steps.refl _) (a := b100) (argsL := []) (rest := [(.ref b100)]) (lenOf pd_2 rfl) rfl (wr0 rfl rfl) (hb hby d7_4) (fun _ _ => ⟨rfl, e100, (by decide : 1 + 1 ≤ _), (by decide : 4 + 16 ≤ _)⟩)
 dsimp only [Pt.U, Pt.locs, Pt.cells, Pt.slots] at X149 l149 y149 z149 st149 hQ149
 subst l149 y149 z149
 obtain ⟨b149, k149b, rfl, N149q, K149, z149b, E149, F149_w, F149_c, F149_n, V149⟩ := hQ149
 have N149 := Fr.app N0 N149q
 have q150 : a1 ≠ b149 := Nat.ne_of_lt (Nat.lt_of_lt_of_le f118.lt z149b)
 have q151 : l1 ≠ b149 := Nat.ne_of_lt (Nat.lt_of_lt_of_le f121.lt z149b)
 have q152 : d1 ≠ b149 := Nat.ne_of_lt (Nat.lt_of_lt_of_le f124.lt z149b)
 have q153 : l2 ≠ b149 := Nat.ne_of_lt (Nat.lt_of_lt_of_le f125.lt z149b)
 have q154 : d2 ≠ b149 := Nat.ne_of_lt (Nat.lt_of_lt_of_le f128.lt z149b)
 have q156 : bx0 ≠ b149 := Nat.ne_of_lt (Nat.lt_of_lt_of_le f132.lt z149b)
 have q157 : y0 ≠ b149 := Nat.ne_of_lt (Nat.lt_of_lt_of_le f133.lt z149b)
 have q158 : by0 ≠ b149 := Nat.ne_of_lt (Nat.lt_of_lt_of_le f136.lt z149b)
 have q159 : x1 ≠ b149 := Nat.ne_of_lt (Nat.lt_of_lt_of_le f137.lt z149b)
 have q160 : bx1 ≠ b149 := Nat.ne_of_lt (Nat.lt_of_lt_of_le f140.lt z149b)
 have q161 : y1 ≠ b149 := Nat.ne_of_lt (Nat.lt_of_lt_of_le f141.lt z149b)
 have q162 : by1 ≠ b149 := Nat.ne_of_lt (Nat.lt_of_lt_of_le f144.lt z149b)
 have g164 : n0 ≤ b149 := Nat.le_trans z102 z149b
 have z165 : h0.size ≤ b149 := Nat.le_trans K145.1 z149b
 have K166 : Keep h0 T149.heap [] := K145.trans K149 (allS (Or.inr z103) all0)
 have z167 := Nat.le_trans z102 K149.1
 have f168 := f117.keep K149 (allS g101 all0)
 have f170 := f119.keep K149 (ninS q104 nin0)
 have f171 := f120.keep K149 (ninS q104 nin0)
 have f172 := f121.keep K149
 have f173 := f122.keep K149 (ninS q105 nin0)
 have f174 := f123.keep K149 (ninS q105 nin0)
 have f175 := f124.keep K149 (ninS q106 nin0)
 have f176 := f125.keep K149
 have f177 := f126.keep K149 (ninS q107 nin0)
 have f178 := f127.keep K149 (ninS q107 nin0)
 have f179 := f128.keep K149 (ninS q108 nin0)
 have f180 := f129.keep K149
 have f181 := f130.keep K149 (ninS q109 nin0)
 have f182 := f131.keep K149 (ninS q109 nin0)
 have f183 := f132.keep K149 (ninS q110 nin0)
 have f184 := f133.keep K149
 have f185 := f134.keep K149 (ninS q111 nin0)
 have f186 := f135.keep K149 (ninS q111 nin0)
 have f187 := f136.keep K149 (ninS q112 nin0)
 have f188 := f137.keep K149
 have f189 := f138.keep K149 (ninS q113 nin0)
 have f190 := f139.keep K149 (ninS q113 nin0)
 have f191 := f140.keep K149 (ninS q114 nin0)
 have f192 := f141.keep K149
 have f193 := f142.keep K149 (ninS q115 nin0)
 have f194 := f143.keep K149 (ninS q115 nin0)
 have f195 := f144.keep K149 (ninS q116 nin0)
 refine Goes.of (fun t k => st149.trans k) ?_
 refine gO (fun t k => XS.astoreN X149.here hx rfl (hb hby d7_7) rfl rfl (l' := #[.val (.ref a1), .val (.ref b100), .unset]) rfl k) ?_
 refine gO (fun t k => XS.iconst X149.here hx rfl (hb hby d7_8) k) ?_
 refine gO (fun t k => XS.istoreN X149.here hx rfl (hb hby d7_9) rfl (l' := #[.val (.ref a1), .val (.ref b100), .val (.int 0)]) rfl k) ?_
 show Goes p e below (T149.setTop (mkF m 10 #[.val (.ref a1), .val (.ref b100), .val (.int 0)] [])) _
 refine gO (fun t k => XS.iloadN X149.here hx rfl (hb hby d7_10) rfl k) ?_
 refine gO (fun t k => XS.aloadN X149.here hx rfl (hb hby d7_11) rfl rfl k) ?_
 obtain ⟨T200, X200, e200, st200⟩ := getF X149 hx hZ hown (host := "") (Or.inl (wd hw 34 rfl)) Via.refl rfl f170 (g := (mkF m 12 #[.val (.ref a1), .val (.ref b100), .val (.int 0)] [(.ref a1), (.int 0)])) rfl rfl (hb hby d7_12)
 refine Goes.of st200 ?_
 obtain ⟨cq201, kq201, q201a, q201b, q201c⟩ := isOf hZ e200 f172
 obtain ⟨_, _, ⟨T201, L201, k201, n201⟩, -, X201, ⟨Lc201, hQ201, l201, y201, z201⟩, st201⟩ := X200.interfaceBack hx (xi := mn49) (y := mn11) hown (mvT hZ (wd hw 67 rfl)) (mvT hZ (wd hw 68 rfl)) (mvT hZ (wd hw 69 rfl)) (mvT hZ (wd hw 70 rfl)) (mvT hZ (wd hw 71 rfl)) (mvT hZ (wd hw 72 rfl)) (mvT hZ (wd hw 73 rfl)) (mvT hZ (wd hw 74 rfl)) (by decide) (backOf (W := 1) (rm10_19 l Z a0 hw [] l1  T149.heap n0 z167 f174) hZ (wd hw 75 rfl) (wd hw 12 rfl) (by decide) (by decide)) q201a q201b q201c (g := (mkF m 15 #[.val (.ref a1), .val (.ref b100), .val (.int 0)] [(.ref l1), (.int 0)])) rfl (by rw [hml]; rfl) (Steps.refl _) (argsL := []) (rest := [(.int 0)]) (lenOf pd_23 rfl) rfl (wr0 rfl rfl) (hb hby d7_15) (fun _ _ => ⟨rfl, e200, (by decide : 2 + 0 ≤ _), (by decide : 20 + 0 ≤ _)⟩)
 dsimp only [Pt.U, Pt.locs, Pt.cells, Pt.slots] at X201 l201 y201 z201 st201 hQ201
 subst l201 y201 z201
 obtain ⟨rfl, N201q, e201⟩ := hQ201
 have N201 := Fr.app N149 N201q
 refine Goes.of (fun t k => st201.trans k) ?_
 refine gO (fun t k => XS.icmpNo X201.here hx rfl (hb hby d7_20) rfl (tlt (by decide)).2.1 k) ?_
 refine gO (fun t k => XS.aloadN X201.here hx rfl (hb hby d7_23) rfl rfl k) ?_
 refine gO (fun t k => XS.aloadN X201.here hx rfl (hb hby d7_24) rfl rfl k) ?_
 show Goes p e below (T201.setTop (mkF m 25 #[.val (.ref a1), .val (.ref b100), .val (.int 0)] [(.ref a1), (.ref b100)])) _
 obtain ⟨T202, X202, e202, st202⟩ := getF X201 hx hZ hown (host := "") (Or.inl (wd hw 34 rfl)) Via.refl e201 f170 (g := (mkF m 25 #[.val (.ref a1), .val (.ref b100), .val (.int 0)] [(.ref a1), (.ref b100)])) rfl rfl (hb hby d7_25)
 refine Goes.of st202 ?_
 refine gO (fun t k => XS.iloadN X202.here hx rfl (hb hby d7_28) rfl k) ?_
 obtain ⟨cq203, kq203, q203a, q203b, q203c⟩ := isOf hZ e202 f172
 obtain ⟨_, _, ⟨T203, L203, k203, n203⟩, -, X203, ⟨Lc203, hQ203, l203, y203, z203⟩, st203⟩ := X202.interfaceBack hx (xi := mn50) (y := mn15) hown (mvT hZ (wd hw 203 rfl)) (mvT hZ (wd hw 204 rfl)) (mvT hZ (wd hw 205 rfl)) (mvT hZ (wd hw 206 rfl)) (mvT hZ (wd hw 207 rfl)) (mvT hZ (wd hw 208 rfl)) (mvT hZ (wd hw 209 rfl)) (mvT hZ (wd hw 74 rfl)) (by decide) (backOf (W := 1) (rm35_27 l Z a0 hw [] l1 d1 k1 x0 x1 T149.heap n0 z167 f172 f174 f173 f175) hZ (wd hw 210 rfl) (wd hw 12 rfl) (by decide) (by decide)) q203a q203b q203c (g := (mkF m 29 #[.val (.ref a1), .val (.ref b100), .val (.int 0)] [(.int 0), (.ref l1), (.ref b100)])) rfl (by rw [hml]; rfl) (Steps.refl _) (argsL := [(.int 0)]) (rest := [(.ref b100)]) (lenOf pd_13 rfl) rfl (wr0 rfl rfl) (hb hby d7_29) (fun _ _ => ⟨rfl, e202, (by decide : 2 + 0 ≤ _), (by decide : 20 + 0 ≤ _)⟩)
 dsimp only [Pt.U, Pt.locs, Pt.cells, Pt.slots] at X203 l203 y203 z203 st203 hQ203
 subst l203 y203 z203
 obtain ⟨rfl, N203q, e203⟩ := hQ203
 have N203 := Fr.app N201 N203q
 refine Goes.of (fun t k => st203.trans k) ?_
 show Goes p e below (T203.setTop (mkF m 34 #[.val (.ref a1), .val (.ref b100), .val (.int 0)] [(.ref x0), (.ref b100)])) _
 obtain ⟨T204, X204, e204, st204⟩ := castY X203 hx hZ hown (wd hw 224 rfl) e203 (Ins.self f180) (g := (mkF m 34 #[.val (.ref a1), .val (.ref b100), .val (.int 0)] [(.ref x0), (.ref b100)])) rfl rfl (hb hby d7_34)
 refine Goes.of st204 ?_
 obtain ⟨cq205, kq205, q205a, q205b, q205c⟩ := isOf hZ e204 E149
 obtain ⟨_, _, ⟨T205, L205, k205, n205⟩, -, X205, ⟨Lc205, hQ205, l205, y205, z205⟩, st205⟩ := X204.virtualBack hx (y := mn33) (z := mn33) hown (mvT hZ (wd hw 225 rfl)) (mvT hZ (wd hw 226 rfl)) (notFace_of_selects (args := #[]) (mvT hZ (wd hw 228 rfl))) (mvT hZ (wd hw 228 rfl)) (mvT hZ (wd hw 227 rfl)) (by decide) (backOf (W := 0) (rm39 l Z a0 hw [] b100 x0 cmS b149 k149b (0 : Int32) [] bx0 kx0 zx0 ux0 T149.heap n0 z167 f168 SC cs0 E149 F149_w F149_c F149_n V149 g164 g101 (by decide) f180 f181 f182 f183 hzx0 (by simp only [List.length_append, List.length_nil, List.length_cons]; omega) q156) hZ (wd hw 229 rfl) (wd hw 49 rfl) (by decide) (by decide)) q205a q205c (g := (mkF m 37 #[.val (.ref a1), .val (.ref b100), .val (.int 0)] [(.ref x0), (.ref b100)])) rfl (by rw [hml]; rfl) (Steps.refl _) (argsL := [(.ref x0)]) (rest := []) (lenOf pd_40 rfl) rfl (wr0 rfl rfl) (hb hby d7_37) (fun _ _ => ⟨rfl, e204, (by decide : 2 + 0 ≤ _), (by decide : 20 + 0 ≤ _)⟩)
 dsimp only [Pt.U, Pt.locs, Pt.cells, Pt.slots] at X205 l205 y205 z205 st205 hQ205
 subst l205 y205 z205
 obtain ⟨m205, rfl, N205q, K205, hl205, E205, F205_w, F205_c, F205_n, V205⟩ := hQ205
 have N205 := Fr.app N203 N205q
 have K206 : Keep h0 T205.heap [] := K166.trans K205 (allS (Or.inr z103) (allS (Or.inr z165) all0))
 have z207 := Nat.le_trans z167 K205.1
 have f208 := f168.keep K205 (allS g101 (allS g164 all0))
 have f210 := f170.keep K205 (ninS q104 (ninS q150 nin0))
 have f211 := f171.keep K205 (ninS q104 (ninS q150 nin0))
 have f212 := f172.keep K205
 have f213 := f173.keep K205 (ninS q105 (ninS q151 nin0))
 have f214 := f174.keep K205 (ninS q105 (ninS q151 nin0))
 have f215 := f175.keep K205 (ninS q106 (ninS q152 nin0))
 have f216 := f176.keep K205
 have f217 := f177.keep K205 (ninS q107 (ninS q153 nin0))
 have f218 := f178.keep K205 (ninS q107 (ninS q153 nin0))
 have f219 := f179.keep K205 (ninS q108 (ninS q154 nin0))
 have f224 := f184.keep K205
 have f225 := f185.keep K205 (ninS q111 (ninS q157 nin0))
 have f226 := f186.keep K205 (ninS q111 (ninS q157 nin0))
 have f227 := f187.keep K205 (ninS q112 (ninS q158 nin0))
 have f228 := f188.keep K205
 have f229 := f189.keep K205 (ninS q113 (ninS q159 nin0))
 have f230 := f190.keep K205 (ninS q113 (ninS q159 nin0))
 have f231 := f191.keep K205 (ninS q114 (ninS q160 nin0))
 have f232 := f192.keep K205
 have f233 := f193.keep K205 (ninS q115 (ninS q161 nin0))
 have f234 := f194.keep K205 (ninS q115 (ninS q161 nin0))
 have f235 := f195.keep K205 (ninS q116 (ninS q162 nin0))
 refine Goes.of (fun t k => st205.trans k) ?_
 obtain ⟨LX241, X241, N241⟩ : ∃ LX, Stand p l e (⟨6, 4, 36, 115⟩ : Room) s m #[(.ref a1)] below meth c T205 LX 2 20 ∧ Fr n0 LX := ⟨_, X205, N205⟩
 refine gO (fun t k => XS.bipush X241.here hx rfl (hb hby d7_40) k) ?_
 obtain ⟨cq242, kq242, q242a, q242b, q242c⟩ := isOf hZ rfl E205
 obtain ⟨_, _, ⟨T242, L242, k242, n242⟩, -, X242, ⟨Lc242, hQ242, l242, y242, z242⟩, st242⟩ := X241.virtualBack hx (y := mn35) (z := mn35) hown (mvT hZ (wd hw 257 rfl)) (mvT hZ (wd hw 258 rfl)) (notFace_of_selects (args := #[]) (mvT hZ (wd hw 260 rfl))) (mvT hZ (wd hw 260 rfl)) (mvT hZ (wd hw 259 rfl)) (by decide) (backOf (W := 0) (rm45 l Z a0 hw [] b100 (32 : Int32) cmS b149 k149b m205 ([] ++ ux0)  T205.heap n0 z207 f208 SC cs0 E205 F205_w F205_c F205_n V205 g164 g101 hl205 (by simp only [List.length_append, List.length_nil, List.length_cons]; omega) (by decide)) hZ (wd hw 261 rfl) (wd hw 49 rfl) (by decide) (by decide)) q242a q242c (g := (mkF m 42 #[.val (.ref a1), .val (.ref b100), .val (.int 0)] [(.int 32), (.ref b100)])) rfl (by rw [hml]; rfl) (Steps.refl _) (argsL := [(.int 32)]) (rest := []) (lenOf pd_41 rfl) rfl (wr0 rfl rfl) (hb hby d7_42) (fun _ _ => ⟨rfl, rfl, (by decide : 2 + 0 ≤ _), (by decide : 20 + 0 ≤ _)⟩)
 dsimp only [Pt.U, Pt.locs, Pt.cells, Pt.slots] at X242 l242 y242 z242 st242 hQ242
 subst l242 y242 z242
 obtain ⟨m242, rfl, N242q, K242, hl242, E242, F242_w, F242_c, F242_n, V242⟩ := hQ242
 have N242 := Fr.app N241 N242q
 have K243 : Keep h0 T242.heap [] := K206.trans K242 (allS (Or.inr z103) (allS (Or.inr z165) all0))
 have z244 := Nat.le_trans z207 K242.1
 have f245 := f208.keep K242 (allS g101 (allS g164 all0))
 have f247 := f210.keep K242 (ninS q104 (ninS q150 nin0))
 have f248 := f211.keep K242 (ninS q104 (ninS q150 nin0))
 have f249 := f212.keep K242
 have f250 := f213.keep K242 (ninS q105 (ninS q151 nin0))
 have f251 := f214.keep K242 (ninS q105 (ninS q151 nin0))
 have f252 := f215.keep K242 (ninS q106 (ninS q152 nin0))
 have f253 := f216.keep K242
 have f254 := f217.keep K242 (ninS q107 (ninS q153 nin0))
 have f255 := f218.keep K242 (ninS q107 (ninS q153 nin0))
 have f256 := f219.keep K242 (ninS q108 (ninS q154 nin0))
 have f261 := f224.keep K242
 have f262 := f225.keep K242 (ninS q111 (ninS q157 nin0))
 have f263 := f226.keep K242 (ninS q111 (ninS q157 nin0))
 have f264 := f227.keep K242 (ninS q112 (ninS q158 nin0))
 have f265 := f228.keep K242
 have f266 := f229.keep K242 (ninS q113 (ninS q159 nin0))
 have f267 := f230.keep K242 (ninS q113 (ninS q159 nin0))
 have f268 := f231.keep K242 (ninS q114 (ninS q160 nin0))
 have f269 := f232.keep K242
 have f270 := f233.keep K242 (ninS q115 (ninS q161 nin0))
 have f271 := f234.keep K242 (ninS q115 (ninS q161 nin0))
 have f272 := f235.keep K242 (ninS q116 (ninS q162 nin0))
 refine Goes.of (fun t k => st242.trans k) ?_
 obtain ⟨LX278, X278, N278⟩ : ∃ LX, Stand p l e (⟨6, 4, 36, 115⟩ : Room) s m #[(.ref a1)] below meth c T242 LX 2 20 ∧ Fr n0 LX := ⟨_, X242, N242⟩
 refine gO (fun t k => XS.aloadN X278.here hx rfl (hb hby d7_45) rfl rfl k) ?_
 obtain ⟨T279, X279, e279, st279⟩ := getF X278 hx hZ hown (host := "") (Or.inl (wd hw 36 rfl)) Via.refl rfl f248 (g := (mkF m 46 #[.val (.ref a1), .val (.ref b100), .val (.int 0)] [(.ref a1), (.ref b100)])) rfl rfl (hb hby d7_46)
 refine Goes.of st279 ?_
 refine gO (fun t k => XS.iloadN X279.here hx rfl (hb hby d7_49) rfl k) ?_
 show Goes p e below (T279.setTop (mkF m 50 #[.val (.ref a1), .val (.ref b100), .val (.int 0)] [(.int 0), (.ref l2), (.ref b100)])) _
 obtain ⟨cq280, kq280, q280a, q280b, q280c⟩ := isOf hZ e279 f253
 obtain ⟨_, _, ⟨T280, L280, k280, n280⟩, -, X280, ⟨Lc280, hQ280, l280, y280, z280⟩, st280⟩ := X279.interfaceBack hx (xi := mn50) (y := mn15) hown (mvT hZ (wd hw 203 rfl)) (mvT hZ (wd hw 204 rfl)) (mvT hZ (wd hw 205 rfl)) (mvT hZ (wd hw 206 rfl)) (mvT hZ (wd hw 207 rfl)) (mvT hZ (wd hw 208 rfl)) (mvT hZ (wd hw 209 rfl)) (mvT hZ (wd hw 74 rfl)) (by decide) (backOf (W := 1) (rm35_27 l Z a0 hw [] l2 d2 k2 y0 y1 T242.heap n0 z244 f253 f255 f254 f256) hZ (wd hw 210 rfl) (wd hw 12 rfl) (by decide) (by decide)) q280a q280b q280c (g := (mkF m 50 #[.val (.ref a1), .val (.ref b100), .val (.int 0)] [(.int 0), (.ref l2), (.ref b100)])) rfl (by rw [hml]; rfl) (Steps.refl _) (argsL := [(.int 0)]) (rest := [(.ref b100)]) (lenOf pd_13 rfl) rfl (wr0 rfl rfl) (hb hby d7_50) (fun _ _ => ⟨rfl, e279, (by decide : 2 + 0 ≤ _), (by decide : 20 + 0 ≤ _)⟩)
 dsimp only [Pt.U, Pt.locs, Pt.cells, Pt.slots] at X280 l280 y280 z280 st280 hQ280
 subst l280 y280 z280
 obtain ⟨rfl, N280q, e280⟩ := hQ280
 have N280 := Fr.app N278 N280q
 refine Goes.of (fun t k => st280.trans k) ?_
 show Goes p e below (T280.setTop (mkF m 55 #[.val (.ref a1), .val (.ref b100), .val (.int 0)] [(.ref y0), (.ref b100)])) _
 obtain ⟨T281, X281, e281, st281⟩ := castY X280 hx hZ hown (wd hw 224 rfl) e280 (Ins.self f261) (g := (mkF m 55 #[.val (.ref a1), .val (.ref b100), .val (.int 0)] [(.ref y0), (.ref b100)])) rfl rfl (hb hby d7_55)
 refine Goes.of st281 ?_
 obtain ⟨cq282, kq282, q282a, q282b, q282c⟩ := isOf hZ e281 E242
 obtain ⟨_, _, ⟨T282, L282, k282, n282⟩, -, X282, ⟨Lc282, hQ282, l282, y282, z282⟩, st282⟩ := X281.virtualBack hx (y := mn33) (z := mn33) hown (mvT hZ (wd hw 225 rfl)) (mvT hZ (wd hw 226 rfl)) (notFace_of_selects (args := #[]) (mvT hZ (wd hw 228 rfl))) (mvT hZ (wd hw 228 rfl)) (mvT hZ (wd hw 227 rfl)) (by decide) (backOf (W := 0) (rm39 l Z a0 hw [] b100 y0 cmS b149 k149b m242 (([] ++ ux0) ++ [32]) by0 ky0 zy0 uy0 T242.heap n0 z244 f245 SC cs0 E242 F242_w F242_c F242_n V242 g164 g101 hl242 f261 f262 f263 f264 hzy0 (by simp only [List.length_append, List.length_nil, List.length_cons]; omega) q158) hZ (wd hw 229 rfl) (wd hw 49 rfl) (by decide) (by decide)) q282a q282c (g := (mkF m 58 #[.val (.ref a1), .val (.ref b100), .val (.int 0)] [(.ref y0), (.ref b100)])) rfl (by rw [hml]; rfl) (Steps.refl _) (argsL := [(.ref y0)]) (rest := []) (lenOf pd_40 rfl) rfl (wr0 rfl rfl) (hb hby d7_58) (fun _ _ => ⟨rfl, e281, (by decide : 2 + 0 ≤ _), (by decide : 20 + 0 ≤ _)⟩)
 dsimp only [Pt.U, Pt.locs, Pt.cells, Pt.slots] at X282 l282 y282 z282 st282 hQ282
 subst l282 y282 z282
 obtain ⟨m282, rfl, N282q, K282, hl282, E282, F282_w, F282_c, F282_n, V282⟩ := hQ282
 have N282 := Fr.app N280 N282q
 have K283 : Keep h0 T282.heap [] := K243.trans K282 (allS (Or.inr z103) (allS (Or.inr z165) all0))
 have z284 := Nat.le_trans z244 K282.1
 have f285 := f245.keep K282 (allS g101 (allS g164 all0))
 have f287 := f247.keep K282 (ninS q104 (ninS q150 nin0))
 have f288 := f248.keep K282 (ninS q104 (ninS q150 nin0))
 have f289 := f249.keep K282
 have f290 := f250.keep K282 (ninS q105 (ninS q151 nin0))
 have f291 := f251.keep K282 (ninS q105 (ninS q151 nin0))
 have f292 := f252.keep K282 (ninS q106 (ninS q152 nin0))
 have f293 := f253.keep K282
 have f294 := f254.keep K282 (ninS q107 (ninS q153 nin0))
 have f295 := f255.keep K282 (ninS q107 (ninS q153 nin0))
 have f296 := f256.keep K282 (ninS q108 (ninS q154 nin0))
 have f305 := f265.keep K282
 have f306 := f266.keep K282 (ninS q113 (ninS q159 nin0))
 have f307 := f267.keep K282 (ninS q113 (ninS q159 nin0))
 have f308 := f268.keep K282 (ninS q114 (ninS q160 nin0))
 have f309 := f269.keep K282
 have f310 := f270.keep K282 (ninS q115 (ninS q161 nin0))
 have f311 := f271.keep K282 (ninS q115 (ninS q161 nin0))
 have f312 := f272.keep K282 (ninS q116 (ninS q162 nin0))
 refine Goes.of (fun t k => st282.trans k) ?_
 obtain ⟨LX318, X318, N318⟩ : ∃ LX, Stand p l e (⟨6, 4, 36, 115⟩ : Room) s m #[(.ref a1)] below meth c T282 LX 2 20 ∧ Fr n0 LX := ⟨_, X282, N282⟩
 refine gO (fun t k => XS.bipush X318.here hx rfl (hb hby d7_61) k) ?_
 obtain ⟨cq319, kq319, q319a, q319b, q319c⟩ := isOf hZ rfl E282
 obtain ⟨_, _, ⟨T319, L319, k319, n319⟩, -, X319, ⟨Lc319, hQ319, l319, y319, z319⟩, st319⟩ := X318.virtualBack hx (y := mn35) (z := mn35) hown (mvT hZ (wd hw 257 rfl)) (mvT hZ (wd hw 258 rfl)) (notFace_of_selects (args := #[]) (mvT hZ (wd hw 260 rfl))) (mvT hZ (wd hw 260 rfl)) (mvT hZ (wd hw 259 rfl)) (by decide) (backOf (W := 0) (rm45 l Z a0 hw [] b100 (10 : Int32) cmS b149 k149b m282 ((([] ++ ux0) ++ [32]) ++ uy0)  T282.heap n0 z284 f285 SC cs0 E282 F282_w F282_c F282_n V282 g164 g101 hl282 (by simp only [List.length_append, List.length_nil, List.length_cons]; omega) (by decide)) hZ (wd hw 261 rfl) (wd hw 49 rfl) (by decide) (by decide)) q319a q319c (g := (mkF m 63 #[.val (.ref a1), .val (.ref b100), .val (.int 0)] [(.int 10), (.ref b100)])) rfl (by rw [hml]; rfl) (Steps.refl _) (argsL := [(.int 10)]) (rest := []) (lenOf pd_41 rfl) rfl (wr0 rfl rfl) (hb hby d7_63) (fun _ _ => ⟨rfl, rfl, (by decide : 2 + 0 ≤ _), (by decide : 20 + 0 ≤ _)⟩)
 dsimp only [Pt.U, Pt.locs, Pt.cells, Pt.slots] at X319 l319 y319 z319 st319 hQ319
 subst l319 y319 z319
 obtain ⟨m319, rfl, N319q, K319, hl319, E319, F319_w, F319_c, F319_n, V319⟩ := hQ319
 have N319 := Fr.app N318 N319q
 have K320 : Keep h0 T319.heap [] := K283.trans K319 (allS (Or.inr z103) (allS (Or.inr z165) all0))
 have z321 := Nat.le_trans z284 K319.1
 have f322 := f285.keep K319 (allS g101 (allS g164 all0))
 have f324 := f287.keep K319 (ninS q104 (ninS q150 nin0))
 have f325 := f288.keep K319 (ninS q104 (ninS q150 nin0))
 have f326 := f289.keep K319
 have f327 := f290.keep K319 (ninS q105 (ninS q151 nin0))
 have f328 := f291.keep K319 (ninS q105 (ninS q151 nin0))
 have f329 := f292.keep K319 (ninS q106 (ninS q152 nin0))
 have f330 := f293.keep K319
 have f331 := f294.keep K319 (ninS q107 (ninS q153 nin0))
 have f332 := f295.keep K319 (ninS q107 (ninS q153 nin0))
 have f333 := f296.keep K319 (ninS q108 (ninS q154 nin0))
 have f342 := f305.keep K319
 have f343 := f306.keep K319 (ninS q113 (ninS q159 nin0))
 have f344 := f307.keep K319 (ninS q113 (ninS q159 nin0))
 have f345 := f308.keep K319 (ninS q114 (ninS q160 nin0))
 have f346 := f309.keep K319
 have f347 := f310.keep K319 (ninS q115 (ninS q161 nin0))
 have f348 := f311.keep K319 (ninS q115 (ninS q161 nin0))
 have f349 := f312.keep K319 (ninS q116 (ninS q162 nin0))
 refine Goes.of (fun t k => st319.trans k) ?_
 obtain ⟨LX355, X355, N355⟩ : ∃ LX, Stand p l e (⟨6, 4, 36, 115⟩ : Room) s m #[(.ref a1)] below meth c T319 LX 2 20 ∧ Fr n0 LX := ⟨_, X319, N319⟩
 refine gO (fun t k => XS.pop X355.here hx rfl (hb hby d7_66) rfl rfl k) ?_
 show Goes p e below (T319.setTop (mkF m 67 #[.val (.ref a1), .val (.ref b100), .val (.int 0)] [])) _
 refine gO (fun t k => XS.iinc X355.here hx rfl (hb hby d7_67) rfl (l' := #[.val (.ref a1), .val (.ref b100), .val (.int 1)]) rfl k) ?_
 refine gO (fun t k => XS.goto X355.here hx rfl (pc0 := 70) (pc' := 10) rfl (hb hby d7_70) (by decide) (by decide) k) ?_
 refine gO (fun t k => XS.iloadN X355.here hx rfl (hb hby d7_10) rfl k) ?_
 refine gO (fun t k => XS.aloadN X355.here hx rfl (hb hby d7_11) rfl rfl k) ?_
 show Goes p e below (T319.setTop (mkF m 12 #[.val (.ref a1), .val (.ref b100), .val (.int 1)] [(.ref a1), (.int 1)])) _
 obtain ⟨T356, X356, e356, st356⟩ := getF X355 hx hZ hown (host := "") (Or.inl (wd hw 34 rfl)) Via.refl rfl f324 (g := (mkF m 12 #[.val (.ref a1), .val (.ref b100), .val (.int 1)] [(.ref a1), (.int 1)])) rfl rfl (hb hby d7_12)
 refine Goes.of st356 ?_
 obtain ⟨cq357, kq357, q357a, q357b, q357c⟩ := isOf hZ e356 f326
 obtain ⟨_, _, ⟨T357, L357, k357, n357⟩, -, X357, ⟨Lc357, hQ357, l357, y357, z357⟩, st357⟩ := X356.interfaceBack hx (xi := mn49) (y := mn11) hown (mvT hZ (wd hw 67 rfl)) (mvT hZ (wd hw 68 rfl)) (mvT hZ (wd hw 69 rfl)) (mvT hZ (wd hw 70 rfl)) (mvT hZ (wd hw 71 rfl)) (mvT hZ (wd hw 72 rfl)) (mvT hZ (wd hw 73 rfl)) (mvT hZ (wd hw 74 rfl)) (by decide) (backOf (W := 1) (rm10_19 l Z a0 hw [] l1  T319.heap n0 z321 f328) hZ (wd hw 75 rfl) (wd hw 12 rfl) (by decide) (by decide)) q357a q357b q357c (g := (mkF m 15 #[.val (.ref a1), .val (.ref b100), .val (.int 1)] [(.ref l1), (.int 1)])) rfl (by rw [hml]; rfl) (Steps.refl _) (argsL := []) (rest := [(.int 1)]) (lenOf pd_23 rfl) rfl (wr0 rfl rfl) (hb hby d7_15) (fun _ _ => ⟨rfl, e356, (by decide : 2 + 0 ≤ _), (by decide : 20 + 0 ≤ _)⟩)
 dsimp only [Pt.U, Pt.locs, Pt.cells, Pt.slots] at X357 l357 y357 z357 st357 hQ357
 subst l357 y357 z357
 obtain ⟨rfl, N357q, e357⟩ := hQ357
 have N357 := Fr.app N355 N357q
 refine Goes.of (fun t k => st357.trans k) ?_
 refine gO (fun t k => XS.icmpNo X357.here hx rfl (hb hby d7_20) rfl (tlt (by decide)).2.1 k) ?_
 refine gO (fun t k => XS.aloadN X357.here hx rfl (hb hby d7_23) rfl rfl k) ?_
 refine gO (fun t k => XS.aloadN X357.here hx rfl (hb hby d7_24) rfl rfl k) ?_
 show Goes p e below (T357.setTop (mkF m 25 #[.val (.ref a1), .val (.ref b100), .val (.int 1)] [(.ref a1), (.ref b100)])) _
 obtain ⟨T358, X358, e358, st358⟩ := getF X357 hx hZ hown (host := "") (Or.inl (wd hw 34 rfl)) Via.refl e357 f324 (g := (mkF m 25 #[.val (.ref a1), .val (.ref b100), .val (.int 1)] [(.ref a1), (.ref b100)])) rfl rfl (hb hby d7_25)
 refine Goes.of st358 ?_
 refine gO (fun t k => XS.iloadN X358.here hx rfl (hb hby d7_28) rfl k) ?_
 obtain ⟨cq359, kq359, q359a, q359b, q359c⟩ := isOf hZ e358 f326
 obtain ⟨_, _, ⟨T359, L359, k359, n359⟩, -, X359, ⟨Lc359, hQ359, l359, y359, z359⟩, st359⟩ := X358.interfaceBack hx (xi := mn50) (y := mn15) hown (mvT hZ (wd hw 203 rfl)) (mvT hZ (wd hw 204 rfl)) (mvT hZ (wd hw 205 rfl)) (mvT hZ (wd hw 206 rfl)) (mvT hZ (wd hw 207 rfl)) (mvT hZ (wd hw 208 rfl)) (mvT hZ (wd hw 209 rfl)) (mvT hZ (wd hw 74 rfl)) (by decide) (backOf (W := 1) (rm35_29 l Z a0 hw [] l1 d1 k1 x0 x1 T319.heap n0 z321 f326 f328 f327 f329) hZ (wd hw 210 rfl) (wd hw 12 rfl) (by decide) (by decide)) q359a q359b q359c (g := (mkF m 29 #[.val (.ref a1), .val (.ref b100), .val (.int 1)] [(.int 1), (.ref l1), (.ref b100)])) rfl (by rw [hml]; rfl) (Steps.refl _) (argsL := [(.int 1)]) (rest := [(.ref b100)]) (lenOf pd_13 rfl) rfl (wr0 rfl rfl) (hb hby d7_29) (fun _ _ => ⟨rfl, e358, (by decide : 2 + 0 ≤ _), (by decide : 20 + 0 ≤ _)⟩)
 dsimp only [Pt.U, Pt.locs, Pt.cells, Pt.slots] at X359 l359 y359 z359 st359 hQ359
 subst l359 y359 z359
 obtain ⟨rfl, N359q, e359⟩ := hQ359
 have N359 := Fr.app N357 N359q
 refine Goes.of (fun t k => st359.trans k) ?_
 show Goes p e below (T359.setTop (mkF m 34 #[.val (.ref a1), .val (.ref b100), .val (.int 1)] [(.ref x1), (.ref b100)])) _
 obtain ⟨T360, X360, e360, st360⟩ := castY X359 hx hZ hown (wd hw 224 rfl) e359 (Ins.self f342) (g := (mkF m 34 #[.val (.ref a1), .val (.ref b100), .val (.int 1)] [(.ref x1), (.ref b100)])) rfl rfl (hb hby d7_34)
 refine Goes.of st360 ?_
 obtain ⟨cq361, kq361, q361a, q361b, q361c⟩ := isOf hZ e360 E319
 obtain ⟨_, _, ⟨T361, L361, k361, n361⟩, -, X361, ⟨Lc361, hQ361, l361, y361, z361⟩, st361⟩ := X360.virtualBack hx (y := mn33) (z := mn33) hown (mvT hZ (wd hw 225 rfl)) (mvT hZ (wd hw 226 rfl)) (notFace_of_selects (args := #[]) (mvT hZ (wd hw 228 rfl))) (mvT hZ (wd hw 228 rfl)) (mvT hZ (wd hw 227 rfl)) (by decide) (backOf (W := 0) (rm39 l Z a0 hw [] b100 x1 cmS b149 k149b m319 (((([] ++ ux0) ++ [32]) ++ uy0) ++ [10]) bx1 kx1 zx1 ux1 T319.heap n0 z321 f322 SC cs0 E319 F319_w F319_c F319_n V319 g164 g101 hl319 f342 f343 f344 f345 hzx1 (by simp only [List.length_append, List.length_nil, List.length_cons]; omega) q160) hZ (wd hw 229 rfl) (wd hw 49 rfl) (by decide) (by decide)) q361a q361c (g := (mkF m 37 #[.val (.ref a1), .val (.ref b100), .val (.int 1)] [(.ref x1), (.ref b100)])) rfl (by rw [hml]; rfl) (Steps.refl _) (argsL := [(.ref x1)]) (rest := []) (lenOf pd_40 rfl) rfl (wr0 rfl rfl) (hb hby d7_37) (fun _ _ => ⟨rfl, e360, (by decide : 2 + 0 ≤ _), (by decide : 20 + 0 ≤ _)⟩)
 dsimp only [Pt.U, Pt.locs, Pt.cells, Pt.slots] at X361 l361 y361 z361 st361 hQ361
 subst l361 y361 z361
 obtain ⟨m361, rfl, N361q, K361, hl361, E361, F361_w, F361_c, F361_n, V361⟩ := hQ361
 have N361 := Fr.app N359 N361q
 have K362 : Keep h0 T361.heap [] := K320.trans K361 (allS (Or.inr z103) (allS (Or.inr z165) all0))
 have z363 := Nat.le_trans z321 K361.1
 have f364 := f322.keep K361 (allS g101 (allS g164 all0))
 have f366 := f324.keep K361 (ninS q104 (ninS q150 nin0))
 have f367 := f325.keep K361 (ninS q104 (ninS q150 nin0))
 have f368 := f326.keep K361
 have f370 := f328.keep K361 (ninS q105 (ninS q151 nin0))
 have f372 := f330.keep K361
 have f373 := f331.keep K361 (ninS q107 (ninS q153 nin0))
 have f374 := f332.keep K361 (ninS q107 (ninS q153 nin0))
 have f375 := f333.keep K361 (ninS q108 (ninS q154 nin0))
 have f388 := f346.keep K361
 have f389 := f347.keep K361 (ninS q115 (ninS q161 nin0))
 have f390 := f348.keep K361 (ninS q115 (ninS q161 nin0))
 have f391 := f349.keep K361 (ninS q116 (ninS q162 nin0))
 refine Goes.of (fun t k => st361.trans k) ?_
 obtain ⟨LX397, X397, N397⟩ : ∃ LX, Stand p l e (⟨6, 4, 36, 115⟩ : Room) s m #[(.ref a1)] below meth c T361 LX 2 20 ∧ Fr n0 LX := ⟨_, X361, N361⟩
 refine gO (fun t k => XS.bipush X397.here hx rfl (hb hby d7_40) k) ?_
 obtain ⟨cq398, kq398, q398a, q398b, q398c⟩ := isOf hZ rfl E361
 obtain ⟨_, _, ⟨T398, L398, k398, n398⟩, -, X398, ⟨Lc398, hQ398, l398, y398, z398⟩, st398⟩ := X397.virtualBack hx (y := mn35) (z := mn35) hown (mvT hZ (wd hw 257 rfl)) (mvT hZ (wd hw 258 rfl)) (notFace_of_selects (args := #[]) (mvT hZ (wd hw 260 rfl))) (mvT hZ (wd hw 260 rfl)) (mvT hZ (wd hw 259 rfl)) (by decide) (backOf (W := 0) (rm45 l Z a0 hw [] b100 (32 : Int32) cmS b149 k149b m361 ((((([] ++ ux0) ++ [32]) ++ uy0) ++ [10]) ++ ux1)  T361.heap n0 z363 f364 SC cs0 E361 F361_w F361_c F361_n V361 g164 g101 hl361 (by simp only [List.length_append, List.length_nil, List.length_cons]; omega) (by decide)) hZ (wd hw 261 rfl) (wd hw 49 rfl) (by decide) (by decide)) q398a q398c (g := (mkF m 42 #[.val (.ref a1), .val (.ref b100), .val (.int 1)] [(.int 32), (.ref b100)])) rfl (by rw [hml]; rfl) (Steps.refl _) (argsL := [(.int 32)]) (rest := []) (lenOf pd_41 rfl) rfl (wr0 rfl rfl) (hb hby d7_42) (fun _ _ => ⟨rfl, rfl, (by decide : 2 + 0 ≤ _), (by decide : 20 + 0 ≤ _)⟩)
 dsimp only [Pt.U, Pt.locs, Pt.cells, Pt.slots] at X398 l398 y398 z398 st398 hQ398
 subst l398 y398 z398
 obtain ⟨m398, rfl, N398q, K398, hl398, E398, F398_w, F398_c, F398_n, V398⟩ := hQ398
 have N398 := Fr.app N397 N398q
 have K399 : Keep h0 T398.heap [] := K362.trans K398 (allS (Or.inr z103) (allS (Or.inr z165) all0))
 have z400 := Nat.le_trans z363 K398.1
 have f401 := f364.keep K398 (allS g101 (allS g164 all0))
 have f403 := f366.keep K398 (ninS q104 (ninS q150 nin0))
 have f404 := f367.keep K398 (ninS q104 (ninS q150 nin0))
 have f405 := f368.keep K398
 have f407 := f370.keep K398 (ninS q105 (ninS q151 nin0))
 have f409 := f372.keep K398
 have f410 := f373.keep K398 (ninS q107 (ninS q153 nin0))
 have f411 := f374.keep K398 (ninS q107 (ninS q153 nin0))
 have f412 := f375.keep K398 (ninS q108 (ninS q154 nin0))
 have f425 := f388.keep K398
 have f426 := f389.keep K398 (ninS q115 (ninS q161 nin0))
 have f427 := f390.keep K398 (ninS q115 (ninS q161 nin0))
 have f428 := f391.keep K398 (ninS q116 (ninS q162 nin0))
 refine Goes.of (fun t k => st398.trans k) ?_
 obtain ⟨LX434, X434, N434⟩ : ∃ LX, Stand p l e (⟨6, 4, 36, 115⟩ : Room) s m #[(.ref a1)] below meth c T398 LX 2 20 ∧ Fr n0 LX := ⟨_, X398, N398⟩
 refine gO (fun t k => XS.aloadN X434.here hx rfl (hb hby d7_45) rfl rfl k) ?_
 obtain ⟨T435, X435, e435, st435⟩ := getF X434 hx hZ hown (host := "") (Or.inl (wd hw 36 rfl)) Via.refl rfl f404 (g := (mkF m 46 #[.val (.ref a1), .val (.ref b100), .val (.int 1)] [(.ref a1), (.ref b100)])) rfl rfl (hb hby d7_46)
 refine Goes.of st435 ?_
 refine gO (fun t k => XS.iloadN X435.here hx rfl (hb hby d7_49) rfl k) ?_
 show Goes p e below (T435.setTop (mkF m 50 #[.val (.ref a1), .val (.ref b100), .val (.int 1)] [(.int 1), (.ref l2), (.ref b100)])) _
 obtain ⟨cq436, kq436, q436a, q436b, q436c⟩ := isOf hZ e435 f409
 obtain ⟨_, _, ⟨T436, L436, k436, n436⟩, -, X436, ⟨Lc436, hQ436, l436, y436, z436⟩, st436⟩ := X435.interfaceBack hx (xi := mn50) (y := mn15) hown (mvT hZ (wd hw 203 rfl)) (mvT hZ (wd hw 204 rfl)) (mvT hZ (wd hw 205 rfl)) (mvT hZ (wd hw 206 rfl)) (mvT hZ (wd hw 207 rfl)) (mvT hZ (wd hw 208 rfl)) (mvT hZ (wd hw 209 rfl)) (mvT hZ (wd hw 74 rfl)) (by decide) (backOf (W := 1) (rm35_29 l Z a0 hw [] l2 d2 k2 y0 y1 T398.heap n0 z400 f409 f411 f410 f412) hZ (wd hw 210 rfl) (wd hw 12 rfl) (by decide) (by decide)) q436a q436b q436c (g := (mkF m 50 #[.val (.ref a1), .val (.ref b100), .val (.int 1)] [(.int 1), (.ref l2), (.ref b100)])) rfl (by rw [hml]; rfl) (Steps.refl _) (argsL := [(.int 1)]) (rest := [(.ref b100)]) (lenOf pd_13 rfl) rfl (wr0 rfl rfl) (hb hby d7_50) (fun _ _ => ⟨rfl, e435, (by decide : 2 + 0 ≤ _), (by decide : 20 + 0 ≤ _)⟩)
 dsimp only [Pt.U, Pt.locs, Pt.cells, Pt.slots] at X436 l436 y436 z436 st436 hQ436
 subst l436 y436 z436
 obtain ⟨rfl, N436q, e436⟩ := hQ436
 have N436 := Fr.app N434 N436q
 refine Goes.of (fun t k => st436.trans k) ?_
 show Goes p e below (T436.setTop (mkF m 55 #[.val (.ref a1), .val (.ref b100), .val (.int 1)] [(.ref y1), (.ref b100)])) _
 obtain ⟨T437, X437, e437, st437⟩ := castY X436 hx hZ hown (wd hw 224 rfl) e436 (Ins.self f425) (g := (mkF m 55 #[.val (.ref a1), .val (.ref b100), .val (.int 1)] [(.ref y1), (.ref b100)])) rfl rfl (hb hby d7_55)
 refine Goes.of st437 ?_
 obtain ⟨cq438, kq438, q438a, q438b, q438c⟩ := isOf hZ e437 E398
 obtain ⟨_, _, ⟨T438, L438, k438, n438⟩, -, X438, ⟨Lc438, hQ438, l438, y438, z438⟩, st438⟩ := X437.virtualBack hx (y := mn33) (z := mn33) hown (mvT hZ (wd hw 225 rfl)) (mvT hZ (wd hw 226 rfl)) (notFace_of_selects (args := #[]) (mvT hZ (wd hw 228 rfl))) (mvT hZ (wd hw 228 rfl)) (mvT hZ (wd hw 227 rfl)) (by decide) (backOf (W := 0) (rm39 l Z a0 hw [] b100 y1 cmS b149 k149b m398 (((((([] ++ ux0) ++ [32]) ++ uy0) ++ [10]) ++ ux1) ++ [32]) by1 ky1 zy1 uy1 T398.heap n0 z400 f401 SC cs0 E398 F398_w F398_c F398_n V398 g164 g101 hl398 f425 f426 f427 f428 hzy1 (by simp only [List.length_append, List.length_nil, List.length_cons]; omega) q162) hZ (wd hw 229 rfl) (wd hw 49 rfl) (by decide) (by decide)) q438a q438c (g := (mkF m 58 #[.val (.ref a1), .val (.ref b100), .val (.int 1)] [(.ref y1), (.ref b100)])) rfl (by rw [hml]; rfl) (Steps.refl _) (argsL := [(.ref y1)]) (rest := []) (lenOf pd_40 rfl) rfl (wr0 rfl rfl) (hb hby d7_58) (fun _ _ => ⟨rfl, e437, (by decide : 2 + 0 ≤ _), (by decide : 20 + 0 ≤ _)⟩)
 dsimp only [Pt.U, Pt.locs, Pt.cells, Pt.slots] at X438 l438 y438 z438 st438 hQ438
 subst l438 y438 z438
 obtain ⟨m438, rfl, N438q, K438, hl438, E438, F438_w, F438_c, F438_n, V438⟩ := hQ438
 have N438 := Fr.app N436 N438q
 have K439 : Keep h0 T438.heap [] := K399.trans K438 (allS (Or.inr z103) (allS (Or.inr z165) all0))
 have z440 := Nat.le_trans z400 K438.1
 have f441 := f401.keep K438 (allS g101 (allS g164 all0))
 have f443 := f403.keep K438 (ninS q104 (ninS q150 nin0))
 have f445 := f405.keep K438
 have f447 := f407.keep K438 (ninS q105 (ninS q151 nin0))
 refine Goes.of (fun t k => st438.trans k) ?_
 obtain ⟨LX474, X474, N474⟩ : ∃ LX, Stand p l e (⟨6, 4, 36, 115⟩ : Room) s m #[(.ref a1)] below meth c T438 LX 2 20 ∧ Fr n0 LX := ⟨_, X438, N438⟩
 refine gO (fun t k => XS.bipush X474.here hx rfl (hb hby d7_61) k) ?_
 obtain ⟨cq475, kq475, q475a, q475b, q475c⟩ := isOf hZ rfl E438
 obtain ⟨_, _, ⟨T475, L475, k475, n475⟩, -, X475, ⟨Lc475, hQ475, l475, y475, z475⟩, st475⟩ := X474.virtualBack hx (y := mn35) (z := mn35) hown (mvT hZ (wd hw 257 rfl)) (mvT hZ (wd hw 258 rfl)) (notFace_of_selects (args := #[]) (mvT hZ (wd hw 260 rfl))) (mvT hZ (wd hw 260 rfl)) (mvT hZ (wd hw 259 rfl)) (by decide) (backOf (W := 0) (rm45 l Z a0 hw [] b100 (10 : Int32) cmS b149 k149b m438 ((((((([] ++ ux0) ++ [32]) ++ uy0) ++ [10]) ++ ux1) ++ [32]) ++ uy1)  T438.heap n0 z440 f441 SC cs0 E438 F438_w F438_c F438_n V438 g164 g101 hl438 (by simp only [List.length_append, List.length_nil, List.length_cons]; omega) (by decide)) hZ (wd hw 261 rfl) (wd hw 49 rfl) (by decide) (by decide)) q475a q475c (g := (mkF m 63 #[.val (.ref a1), .val (.ref b100), .val (.int 1)] [(.int 10), (.ref b100)])) rfl (by rw [hml]; rfl) (Steps.refl _) (argsL := [(.int 10)]) (rest := []) (lenOf pd_41 rfl) rfl (wr0 rfl rfl) (hb hby d7_63) (fun _ _ => ⟨rfl, rfl, (by decide : 2 + 0 ≤ _), (by decide : 20 + 0 ≤ _)⟩)
 dsimp only [Pt.U, Pt.locs, Pt.cells, Pt.slots] at X475 l475 y475 z475 st475 hQ475
 subst l475 y475 z475
 obtain ⟨m475, rfl, N475q, K475, hl475, E475, F475_w, F475_c, F475_n, V475⟩ := hQ475
 have N475 := Fr.app N474 N475q
 have K476 : Keep h0 T475.heap [] := K439.trans K475 (allS (Or.inr z103) (allS (Or.inr z165) all0))
 have z477 := Nat.le_trans z440 K475.1
 have f478 := f441.keep K475 (allS g101 (allS g164 all0))
 have f480 := f443.keep K475 (ninS q104 (ninS q150 nin0))
 have f482 := f445.keep K475
 have f484 := f447.keep K475 (ninS q105 (ninS q151 nin0))
 refine Goes.of (fun t k => st475.trans k) ?_
 obtain ⟨LX511, X511, N511⟩ : ∃ LX, Stand p l e (⟨6, 4, 36, 115⟩ : Room) s m #[(.ref a1)] below meth c T475 LX 2 20 ∧ Fr n0 LX := ⟨_, X475, N475⟩
 refine gO (fun t k => XS.pop X511.here hx rfl (hb hby d7_66) rfl rfl k) ?_
 show Goes p e below (T475.setTop (mkF m 67 #[.val (.ref a1), .val (.ref b100), .val (.int 1)] [])) _
 refine gO (fun t k => XS.iinc X511.here hx rfl (hb hby d7_67) rfl (l' := #[.val (.ref a1), .val (.ref b100), .val (.int 2)]) rfl k) ?_
 refine gO (fun t k => XS.goto X511.here hx rfl (pc0 := 70) (pc' := 10) rfl (hb hby d7_70) (by decide) (by decide) k) ?_
 refine gO (fun t k => XS.iloadN X511.here hx rfl (hb hby d7_10) rfl k) ?_
 refine gO (fun t k => XS.aloadN X511.here hx rfl (hb hby d7_11) rfl rfl k) ?_
 show Goes p e below (T475.setTop (mkF m 12 #[.val (.ref a1), .val (.ref b100), .val (.int 2)] [(.ref a1), (.int 2)])) _
 obtain ⟨T512, X512, e512, st512⟩ := getF X511 hx hZ hown (host := "") (Or.inl (wd hw 34 rfl)) Via.refl rfl f480 (g := (mkF m 12 #[.val (.ref a1), .val (.ref b100), .val (.int 2)] [(.ref a1), (.int 2)])) rfl rfl (hb hby d7_12)
 refine Goes.of st512 ?_
 obtain ⟨cq513, kq513, q513a, q513b, q513c⟩ := isOf hZ e512 f482
 obtain ⟨_, _, ⟨T513, L513, k513, n513⟩, -, X513, ⟨Lc513, hQ513, l513, y513, z513⟩, st513⟩ := X512.interfaceBack hx (xi := mn49) (y := mn11) hown (mvT hZ (wd hw 67 rfl)) (mvT hZ (wd hw 68 rfl)) (mvT hZ (wd hw 69 rfl)) (mvT hZ (wd hw 70 rfl)) (mvT hZ (wd hw 71 rfl)) (mvT hZ (wd hw 72 rfl)) (mvT hZ (wd hw 73 rfl)) (mvT hZ (wd hw 74 rfl)) (by decide) (backOf (W := 1) (rm10_19 l Z a0 hw [] l1  T475.heap n0 z477 f484) hZ (wd hw 75 rfl) (wd hw 12 rfl) (by decide) (by decide)) q513a q513b q513c (g := (mkF m 15 #[.val (.ref a1), .val (.ref b100), .val (.int 2)] [(.ref l1), (.int 2)])) rfl (by rw [hml]; rfl) (Steps.refl _) (argsL := []) (rest := [(.int 2)]) (lenOf pd_23 rfl) rfl (wr0 rfl rfl) (hb hby d7_15) (fun _ _ => ⟨rfl, e512, (by decide : 2 + 0 ≤ _), (by decide : 20 + 0 ≤ _)⟩)
 dsimp only [Pt.U, Pt.locs, Pt.cells, Pt.slots] at X513 l513 y513 z513 st513 hQ513
 subst l513 y513 z513
 obtain ⟨rfl, N513q, e513⟩ := hQ513
 have N513 := Fr.app N511 N513q
 refine Goes.of (fun t k => st513.trans k) ?_
 refine gO (fun t k => XS.icmpYes X513.here hx rfl (pc0 := 20) (pc' := 73) rfl (hb hby d7_20) rfl (flt (by decide)).2.1 (by decide) (by decide) k) ?_
 refine gO (fun t k => XS.aloadN X513.here hx rfl (hb hby d7_73) rfl rfl k) ?_
 obtain ⟨cq514, kq514, q514a, q514b, q514c⟩ := isOf hZ e513 E475
 obtain ⟨_, _, ⟨T514, L514, k514, n514⟩, -, X514, ⟨Lc514, hQ514, l514, y514, z514⟩, st514⟩ := X513.virtualBack hx (y := mn42) (z := mn42) hown (mvT hZ (wd hw 78 rfl)) (mvT hZ (wd hw 79 rfl)) (notFace_of_selects (args := #[]) (mvT hZ (wd hw 81 rfl))) (mvT hZ (wd hw 81 rfl)) (mvT hZ (wd hw 80 rfl)) (by decide) (backOf (W := 0) (rm11 l Z a0 hw [] b100 cmS b149 k149b m475 (((((((([] ++ ux0) ++ [32]) ++ uy0) ++ [10]) ++ ux1) ++ [32]) ++ uy1) ++ [10]) T475.heap n0 z477 f478 SC cs0 E475 F475_w F475_c F475_n V475 hl475 (by simp only [List.length_append, List.length_nil, List.length_cons]; omega)) hZ (wd hw 82 rfl) (wd hw 49 rfl) (by decide) (by decide)) q514a q514c (g := (mkF m 74 #[.val (.ref a1), .val (.ref b100), .val (.int 2)] [(.ref b100)])) rfl (by rw [hml]; rfl) (Steps.refl _) (argsL := []) (rest := []) (lenOf pd_39 rfl) rfl (wr0 rfl rfl) (hb hby d7_74) (fun _ _ => ⟨rfl, e513, (by decide : 2 + 2 ≤ _), (by decide : 20 + 16 ≤ _)⟩)
 dsimp only [Pt.U, Pt.locs, Pt.cells, Pt.slots] at X514 l514 y514 z514 st514 hQ514
 subst l514 y514 z514
 obtain ⟨s514, t514, k514t, rfl, N514q, K514, E514, F514_c, F514_w, V514⟩ := hQ514
 have N514 := Fr.app N513 N514q
 have K515 : Keep h0 T514.heap [] := K476.trans K514 all0
 refine Goes.of (fun t k => st514.trans k) ?_
 show Goes p e below (T514.setTop (mkF m 77 #[.val (.ref a1), .val (.ref b100), .val (.int 2)] [(.ref s514)])) _
 have eh : T514.heap = T514.heap := rfl
 exact Goes.retA X514 hx (by rfl) Bd.returns (by rfl) hlocks (hb hby d7_77) (⟨s514, t514, _, m475, rfl, N514, by rw [eh]; exact K515, hl475, by rw [eh]; exact E514, by rw [eh]; exact F514_c, by rw [eh]; exact F514_w, by rw [eh]; exact V514⟩) (by decide) (by decide)
theorem ef_7_71 (m : MethodId) (x0 : Addr) : entryFrame m #[(.ref x0)] 3 = mkF m 0 #[.val (.ref x0), .unset, .unset] [] := by first | (simp [entryFrame, mkF, argsToLocals, Value.category]; done) | rfl
def Q7_71 (Z : State) (a1 : Addr) (cmS : Int32) (l1 l2 d1 : Addr) (k1 : ClassId) (d2 : Addr) (k2 : ClassId) (x0 x1 x2 y0 y1 y2 bx0 : Addr) (kx0 : ClassId) (zx0 : Int32) (ux0 : List Int32) (by0 : Addr) (ky0 : ClassId) (zy0 : Int32) (uy0 : List Int32) (bx1 : Addr) (kx1 : ClassId) (zx1 : Int32) (ux1 : List Int32) (by1 : Addr) (ky1 : ClassId) (zy1 : Int32) (uy1 : List Int32) (bx2 : Addr) (kx2 : ClassId) (zx2 : Int32) (ux2 : List Int32) (by2 : Addr) (ky2 : ClassId) (zy2 : Int32) (uy2 : List Int32) (h0 : Heap) (n0 : Nat) (v : Option Value) (h : Heap) (L : List Loc) : Prop := ∃ (s t : Addr) (kt : ClassId) (zt : Int32), v = some (.ref s) ∧ Fr n0 L ∧ Keep h0 h [] ∧ zt.toInt = ((((((((((((([] ++ ux0) ++ [32]) ++ uy0) ++ [10]) ++ ux1) ++ [32]) ++ uy1) ++ [10]) ++ ux2) ++ [32]) ++ uy2) ++ [10]) : List Int32).length ∧ Exa Z h s "java/lang/String" ∧ Fl5 Z h s (.int 0) ∧ Fl6 Z h s (.ref t) ∧ Arv Z h t kt .byte zt (own_vb ((((((((((((([] ++ ux0) ++ [32]) ++ uy0) ++ [10]) ++ ux1) ++ [32]) ++ uy1) ++ [10]) ++ ux2) ++ [32]) ++ uy2) ++ [10]))) (.int (0 : Int32))
theorem rm7_71 (l : Launch) (Z : State) (a0 : Array Value) (hw : ∀ d ∈ tables_1, d.before a0 Z = true) (ws : List Jvm.Cond) (a1 : Addr) (cmS : Int32) (l1 l2 d1 : Addr) (k1 : ClassId) (d2 : Addr) (k2 : ClassId) (x0 x1 x2 y0 y1 y2 bx0 : Addr) (kx0 : ClassId) (zx0 : Int32) (ux0 : List Int32) (by0 : Addr) (ky0 : ClassId) (zy0 : Int32) (uy0 : List Int32) (bx1 : Addr) (kx1 : ClassId) (zx1 : Int32) (ux1 : List Int32) (by1 : Addr) (ky1 : ClassId) (zy1 : Int32) (uy1 : List Int32) (bx2 : Addr) (kx2 : ClassId) (zx2 : Int32) (ux2 : List Int32) (by2 : Addr) (ky2 : ClassId) (zy2 : Int32) (uy2 : List Int32) (h0 : Heap) (n0 : Nat) (Z0 : n0 ≤ h0.size) (O0 : Old Z n0 h0) (SC : Sta Z Z.heap "java/lang/String" "COMPACT_STRINGS" "Z" (.int cmS)) (cs0 : cmS ≠ 0) (E_a1 : Exa Z h0 a1 "com/example/hinta/hinta/Statement") (F_k_a1 : Fl3 Z h0 a1 (.ref l1)) (F_v_a1 : Fl4 Z h0 a1 (.ref l2)) (E_l1 : Exa Z h0 l1 "java/util/ArrayList") (F_e_l1 : Fl0 Z h0 l1 (.ref d1)) (F_s_l1 : Fl1 Z h0 l1 (.int 3)) (F_m_l1 : Fl2 Z h0 l1 (.int 3)) (E_l2 : Exa Z h0 l2 "java/util/ArrayList") (F_e_l2 : Fl0 Z h0 l2 (.ref d2)) (F_s_l2 : Fl1 Z h0 l2 (.int 3)) (F_m_l2 : Fl2 Z h0 l2 (.int 3)) (A1 : Arv Z h0 d1 k1 (.object "java/lang/Object") (10 : Int32) [(.ref x0), (.ref x1), (.ref x2), .null, .null, .null, .null, .null, .null, .null] .null) (A2 : Arv Z h0 d2 k2 (.object "java/lang/Object") (10 : Int32) [(.ref y0), (.ref y1), (.ref y2), .null, .null, .null, .null, .null, .null, .null] .null) (E_x0 : Exa Z h0 x0 "java/lang/String") (F_c_x0 : Fl5 Z h0 x0 (.int 0)) (F_w_x0 : Fl6 Z h0 x0 (.ref bx0)) (V_bx0 : Arv Z h0 bx0 kx0 .byte zx0 (own_vb (ux0)) (.int (0 : Int32))) (E_y0 : Exa Z h0 y0 "java/lang/String") (F_c_y0 : Fl5 Z h0 y0 (.int 0)) (F_w_y0 : Fl6 Z h0 y0 (.ref by0)) (V_by0 : Arv Z h0 by0 ky0 .byte zy0 (own_vb (uy0)) (.int (0 : Int32))) (E_x1 : Exa Z h0 x1 "java/lang/String") (F_c_x1 : Fl5 Z h0 x1 (.int 0)) (F_w_x1 : Fl6 Z h0 x1 (.ref bx1)) (V_bx1 : Arv Z h0 bx1 kx1 .byte zx1 (own_vb (ux1)) (.int (0 : Int32))) (E_y1 : Exa Z h0 y1 "java/lang/String") (F_c_y1 : Fl5 Z h0 y1 (.int 0)) (F_w_y1 : Fl6 Z h0 y1 (.ref by1)) (V_by1 : Arv Z h0 by1 ky1 .byte zy1 (own_vb (uy1)) (.int (0 : Int32))) (E_x2 : Exa Z h0 x2 "java/lang/String") (F_c_x2 : Fl5 Z h0 x2 (.int 0)) (F_w_x2 : Fl6 Z h0 x2 (.ref bx2)) (V_bx2 : Arv Z h0 bx2 kx2 .byte zx2 (own_vb (ux2)) (.int (0 : Int32))) (E_y2 : Exa Z h0 y2 "java/lang/String") (F_c_y2 : Fl5 Z h0 y2 (.int 0)) (F_w_y2 : Fl6 Z h0 y2 (.ref by2)) (V_by2 : Arv Z h0 by2 ky2 .byte zy2 (own_vb (uy2)) (.int (0 : Int32))) (hzx0 : zx0.toInt = ux0.length) (hlx0 : ux0.length ≤ 1) (hzy0 : zy0.toInt = uy0.length) (hly0 : uy0.length ≤ 1) (hzx1 : zx1.toInt = ux1.length) (hlx1 : ux1.length ≤ 1) (hzy1 : zy1.toInt = uy1.length) (hly1 : uy1.length ≤ 1) (hzx2 : zx2.toInt = ux2.length) (hlx2 : ux2.length ≤ 1) (hzy2 : zy2.toInt = uy2.length) (hly2 : uy2.length ≤ 1) :
 CT l Z mn48 prog_26_method_4_code 3 (some (.object "java/lang/String")) ws (⟨6, 4, 36, 115⟩ : Room) #[(.ref a1)] h0 (Q7_71 Z a1 cmS l1 l2 d1 k1 d2 k2 x0 x1 x2 y0 y1 y2 bx0 kx0 zx0 ux0 by0 ky0 zy0 uy0 bx1 kx1 zx1 ux1 by1 ky1 zy1 uy1 bx2 kx2 zx2 ux2 by2 ky2 zy2 uy2 h0 n0) := by
 refine MetFree.of_bodySF (plainFor_of_name pn_4) hisR ?_
 intro p e s m args below meth c s₁ Bd hml0 hP hK
 obtain ⟨rfl, hZ, hh⟩ := hP
 have hx := Bd.exec
 have hby := Bd.bytes
 have hml : c.maxLocals = 3 := hml0
 have hown : s.vm.findClass "com/example/hinta/hinta/Statement" = some m.cls := findClass_of_methodNamed Bd.named
 have hnm := (name_of_methodNamed Bd.named Bd.method).1
 have hlocks : meth.locks = false := BodyLoose.notSynchronized Bd
 have X0 : Stand p l e (⟨6, 4, 36, 115⟩ : Room) s m #[(.ref a1)] below meth c s₁ [] 0 0 := Stand.of_body Bd
 have e0 : s₁.heap = h0 := by rw [← hh, Bd.state]; rfl
 have N0 := Fr.nil n0
 show Goes p e below (s₁.setTop (entryFrame m #[(.ref a1)] 3)) (Fin s (Q7_71 Z a1 cmS l1 l2 d1 k1 d2 k2 x0 x1 x2 y0 y1 y2 bx0 kx0 zx0 ux0 by0 ky0 zy0 uy0 bx1 kx1 zx1 ux1 by1 ky1 zy1 uy1 bx2 kx2 zx2 ux2 by2 ky2 zy2 uy2 h0 n0) (⟨6, 4, 36, 115⟩ : Room).cells (⟨6, 4, 36, 115⟩ : Room).slots)
 refine Goes.of (fun t k => castTop (ef_7_71 m a1) k) ?_
 have K0 : Keep h0 h0 [] := Keep.refl _ _
 obtain ⟨T100, h100, X100, e100, E100, A100, D100, -, st100⟩ := newO X0 hx hZ hown (wd hw 47 rfl) (wd hw 48 rfl) (wd hw 49 rfl) e0 (g := (mkF m 0 #[.val (.ref a1), .unset, .unset] [])) rfl (hb hby d7_0) (by decide) (by decide)
 obtain ⟨b100, g100⟩ : ∃ z, z = h0.size := ⟨_, rfl⟩
 rw [← g100] at A100 D100 st100
 have g101 : n0 ≤ b100 := Nat.le_trans Z0 (Nat.le_of_eq g100.symm)
 have z102 := Nat.le_trans Z0 E100.1
 have z103 : h0.size ≤ b100 := Nat.le_trans K0.1 (Nat.le_of_eq g100.symm)
 have q104 : a1 ≠ b100 := Nat.ne_of_lt (Nat.lt_of_lt_of_le E_a1.lt (Nat.le_of_eq g100.symm))
 have q105 : l1 ≠ b100 := Nat.ne_of_lt (Nat.lt_of_lt_of_le E_l1.lt (Nat.le_of_eq g100.symm))
 have q106 : d1 ≠ b100 := Nat.ne_of_lt (Nat.lt_of_lt_of_le A1.lt (Nat.le_of_eq g100.symm))
 have q107 : l2 ≠ b100 := Nat.ne_of_lt (Nat.lt_of_lt_of_le E_l2.lt (Nat.le_of_eq g100.symm))
 have q108 : d2 ≠ b100 := Nat.ne_of_lt (Nat.lt_of_lt_of_le A2.lt (Nat.le_of_eq g100.symm))
 have q109 : x0 ≠ b100 := Nat.ne_of_lt (Nat.lt_of_lt_of_le E_x0.lt (Nat.le_of_eq g100.symm))
 have q110 : bx0 ≠ b100 := Nat.ne_of_lt (Nat.lt_of_lt_of_le V_bx0.lt (Nat.le_of_eq g100.symm))
 have q111 : y0 ≠ b100 := Nat.ne_of_lt (Nat.lt_of_lt_of_le E_y0.lt (Nat.le_of_eq g100.symm))
 have q112 : by0 ≠ b100 := Nat.ne_of_lt (Nat.lt_of_lt_of_le V_by0.lt (Nat.le_of_eq g100.symm))
 have q113 : x1 ≠ b100 := Nat.ne_of_lt (Nat.lt_of_lt_of_le E_x1.lt (Nat.le_of_eq g100.symm))
 have q114 : bx1 ≠ b100 := Nat.ne_of_lt (Nat.lt_of_lt_of_le V_bx1.lt (Nat.le_of_eq g100.symm))
 have q115 : y1 ≠ b100 := Nat.ne_of_lt (Nat.lt_of_lt_of_le E_y1.lt (Nat.le_of_eq g100.symm))
 have q116 : by1 ≠ b100 := Nat.ne_of_lt (Nat.lt_of_lt_of_le V_by1.lt (Nat.le_of_eq g100.symm))
 have q117 : x2 ≠ b100 := Nat.ne_of_lt (Nat.lt_of_lt_of_le E_x2.lt (Nat.le_of_eq g100.symm))
 have q118 : bx2 ≠ b100 := Nat.ne_of_lt (Nat.lt_of_lt_of_le V_bx2.lt (Nat.le_of_eq g100.symm))
 have q119 : y2 ≠ b100 := Nat.ne_of_lt (Nat.lt_of_lt_of_le E_y2.lt (Nat.le_of_eq g100.symm))
 have q120 : by2 ≠ b100 := Nat.ne_of_lt (Nat.lt_of_lt_of_le V_by2.lt (Nat.le_of_eq g100.symm))
 have f121 := O0.ext E100
 have f122 := E_a1.ext E100
 have f123 := F_k_a1.ext E100
 have f124 := F_v_a1.ext E100
 have f125 := E_l1.ext E100
 have f126 := F_e_l1.ext E100
 have f127 := F_s_l1.ext E100
 have f128 := A1.ext E100
 have f129 := E_l2.ext E100
 have f130 := F_e_l2.ext E100
 have f131 := F_s_l2.ext E100
 have f132 := A2.ext E100
 have f133 := E_x0.ext E100
 have f134 := F_c_x0.ext E100
 have f135 := F_w_x0.ext E100
 have f136 := V_bx0.ext E100
 have f137 := E_y0.ext E100
 have f138 := F_c_y0.ext E100
 have f139 := F_w_y0.ext E100
 have f140 := V_by0.ext E100
 have f141 := E_x1.ext E100
 have f142 := F_c_x1.ext E100
 have f143 := F_w_x1.ext E100
 have f144 := V_bx1.ext E100
 have f145 := E_y1.ext E100
 have f146 := F_c_y1.ext E100
 have f147 := F_w_y1.ext E100
 have f148 := V_by1.ext E100
 have f149 := E_x2.ext E100
 have f150 := F_c_x2.ext E100
 have f151 := F_w_x2.ext E100
 have f152 := V_bx2.ext E100
 have f153 := E_y2.ext E100
 have f154 := F_c_y2.ext E100
 have f155 := F_w_y2.ext E100
 have f156 := V_by2.ext E100
 have K157 : Keep h0 h100 [] := K0.ext E100
 have f158 : Fld Z h100 b100 "java/lang/AbstractStringBuilder" "value" "[B" .null := D100 (Or.inl (wd hw 64 rfl)) (ty := (.array .byte)) (by decide)
 have f159 : Fld Z h100 b100 "java/lang/AbstractStringBuilder" "coder" "B" (.int 0) := D100 (Or.inl (wd hw 66 rfl)) (ty := .byte) (by decide)
 have f160 : Fld Z h100 b100 "java/lang/AbstractStringBuilder" "count" "I" (.int 0) := D100 (Or.inl (wd hw 108 rfl)) (ty := .int) (by decide)
 refine Goes.of st100 ?_
 refine gO (fun t k => XS.dup X100.here hx rfl (hb hby d7_3) rfl rfl k) ?_
 obtain ⟨_, _, ⟨T161, L161, k161, n161⟩, -, X161, ⟨Lc161, hQ161, l161, y161, z161⟩, st161⟩ := X100.specialBack hx (y := mn23) rfl hown (mvT hZ (wd hw 50 rfl)) (mvT hZ (wd hw 51 rfl)) (mvT hZ (wd hw 52 rfl)) (by decide) (backOf (W := 1) (rm8 l Z a0 hw [] b100 cmS h100 n0 z102 f121 SC cs0 A100 f158 f159 f160 g101) hZ (wd hw 52 rfl) (wd hw 49 rfl) (by decide) (by decide)) (g := (mkF m 4 #[.val (.ref a1), .unset, .unset] [(.ref b100), (.ref b100)])) rfl (by rw [hml]; rfl) (Steps.refl _) (a := b100) (argsL := []) (rest := [(.ref b100)]) (lenOf pd_2 rfl) rfl (wr0 rfl rfl) (hb hby d7_4) (fun _ _ => ⟨rfl, e100, (by decide : 1 + 1 ≤ _), (by decide : 4 + 16 ≤ _)⟩)
 dsimp only [Pt.U, Pt.locs, Pt.cells, Pt.slots] at X161 l161 y161 z161 st161 hQ161
 subst l161 y161 z161
 obtain ⟨b161, k161b, rfl, N161q, K161, z161b, E161, F161_w, F161_c, F161_n, V161⟩ := hQ161
 have N161 := Fr.app N0 N161q
 have q162 : a1 ≠ b161 := Nat.ne_of_lt (Nat.lt_of_lt_of_le f122.lt z161b)
 have q163 : l1 ≠ b161 := Nat.ne_of_lt (Nat.lt_of_lt_of_le f125.lt z161b)
 have q164 : d1 ≠ b161 := Nat.ne_of_lt (Nat.lt_of_lt_of_le f128.lt z161b)
 have q165 : l2 ≠ b161 := Nat.ne_of_lt (Nat.lt_of_lt_of_le f129.lt z161b)
 have q166 : d2 ≠ b161 := Nat.ne_of_lt (Nat.lt_of_lt_of_le f132.lt z161b)
 have q168 : bx0 ≠ b161 := Nat.ne_of_lt (Nat.lt_of_lt_of_le f136.lt z161b)
 have q169 : y0 ≠ b161 := Nat.ne_of_lt (Nat.lt_of_lt_of_le f137.lt z161b)
 have q170 : by0 ≠ b161 := Nat.ne_of_lt (Nat.lt_of_lt_of_le f140.lt z161b)
 have q171 : x1 ≠ b161 := Nat.ne_of_lt (Nat.lt_of_lt_of_le f141.lt z161b)
 have q172 : bx1 ≠ b161 := Nat.ne_of_lt (Nat.lt_of_lt_of_le f144.lt z161b)
 have q173 : y1 ≠ b161 := Nat.ne_of_lt (Nat.lt_of_lt_of_le f145.lt z161b)
 have q174 : by1 ≠ b161 := Nat.ne_of_lt (Nat.lt_of_lt_of_le f148.lt z161b)
 have q175 : x2 ≠ b161 := Nat.ne_of_lt (Nat.lt_of_lt_of_le f149.lt z161b)
 have q176 : bx2 ≠ b161 := Nat.ne_of_lt (Nat.lt_of_lt_of_le f152.lt z161b)
 have q177 : y2 ≠ b161 := Nat.ne_of_lt (Nat.lt_of_lt_of_le f153.lt z161b)
 have q178 : by2 ≠ b161 := Nat.ne_of_lt (Nat.lt_of_lt_of_le f156.lt z161b)
 have g180 : n0 ≤ b161 := Nat.le_trans z102 z161b
 have z181 : h0.size ≤ b161 := Nat.le_trans K157.1 z161b
 have K182 : Keep h0 T161.heap [] := K157.trans K161 (allS (Or.inr z103) all0)
 have z183 := Nat.le_trans z102 K161.1
 have f184 := f121.keep K161 (allS g101 all0)
 have f186 := f123.keep K161 (ninS q104 nin0)
 have f187 := f124.keep K161 (ninS q104 nin0)
 have f188 := f125.keep K161
 have f189 := f126.keep K161 (ninS q105 nin0)
 have f190 := f127.keep K161 (ninS q105 nin0)
 have f191 := f128.keep K161 (ninS q106 nin0)
 have f192 := f129.keep K161
 have f193 := f130.keep K161 (ninS q107 nin0)
 have f194 := f131.keep K161 (ninS q107 nin0)
 have f195 := f132.keep K161 (ninS q108 nin0)
 have f196 := f133.keep K161
 have f197 := f134.keep K161 (ninS q109 nin0)
 have f198 := f135.keep K161 (ninS q109 nin0)
 have f199 := f136.keep K161 (ninS q110 nin0)
 have f200 := f137.keep K161
 have f201 := f138.keep K161 (ninS q111 nin0)
 have f202 := f139.keep K161 (ninS q111 nin0)
 have f203 := f140.keep K161 (ninS q112 nin0)
 have f204 := f141.keep K161
 have f205 := f142.keep K161 (ninS q113 nin0)
 have f206 := f143.keep K161 (ninS q113 nin0)
 have f207 := f144.keep K161 (ninS q114 nin0)
 have f208 := f145.keep K161
 have f209 := f146.keep K161 (ninS q115 nin0)
 have f210 := f147.keep K161 (ninS q115 nin0)
 have f211 := f148.keep K161 (ninS q116 nin0)
 have f212 := f149.keep K161
 have f213 := f150.keep K161 (ninS q117 nin0)
 have f214 := f151.keep K161 (ninS q117 nin0)
 have f215 := f152.keep K161 (ninS q118 nin0)
 have f216 := f153.keep K161
 have f217 := f154.keep K161 (ninS q119 nin0)
 have f218 := f155.keep K161 (ninS q119 nin0)
 have f219 := f156.keep K161 (ninS q120 nin0)
 refine Goes.of (fun t k => st161.trans k) ?_
 refine gO (fun t k => XS.astoreN X161.here hx rfl (hb hby d7_7) rfl rfl (l' := #[.val (.ref a1), .val (.ref b100), .unset]) rfl k) ?_
 refine gO (fun t k => XS.iconst X161.here hx rfl (hb hby d7_8) k) ?_
 refine gO (fun t k => XS.istoreN X161.here hx rfl (hb hby d7_9) rfl (l' := #[.val (.ref a1), .val (.ref b100), .val (.int 0)]) rfl k) ?_
 show Goes p e below (T161.setTop (mkF m 10 #[.val (.ref a1), .val (.ref b100), .val (.int 0)] [])) _
 refine gO (fun t k => XS.iloadN X161.here hx rfl (hb hby d7_10) rfl k) ?_
 refine gO (fun t k => XS.aloadN X161.here hx rfl (hb hby d7_11) rfl rfl k) ?_
 obtain ⟨T224, X224, e224, st224⟩ := getF X161 hx hZ hown (host := "") (Or.inl (wd hw 34 rfl)) Via.refl rfl f186 (g := (mkF m 12 #[.val (.ref a1), .val (.ref b100), .val (.int 0)] [(.ref a1), (.int 0)])) rfl rfl (hb hby d7_12)
 refine Goes.of st224 ?_
 obtain ⟨cq225, kq225, q225a, q225b, q225c⟩ := isOf hZ e224 f188
 obtain ⟨_, _, ⟨T225, L225, k225, n225⟩, -, X225, ⟨Lc225, hQ225, l225, y225, z225⟩, st225⟩ := X224.interfaceBack hx (xi := mn49) (y := mn11) hown (mvT hZ (wd hw 67 rfl)) (mvT hZ (wd hw 68 rfl)) (mvT hZ (wd hw 69 rfl)) (mvT hZ (wd hw 70 rfl)) (mvT hZ (wd hw 71 rfl)) (mvT hZ (wd hw 72 rfl)) (mvT hZ (wd hw 73 rfl)) (mvT hZ (wd hw 74 rfl)) (by decide) (backOf (W := 1) (rm10_20 l Z a0 hw [] l1  T161.heap n0 z183 f190) hZ (wd hw 75 rfl) (wd hw 12 rfl) (by decide) (by decide)) q225a q225b q225c (g := (mkF m 15 #[.val (.ref a1), .val (.ref b100), .val (.int 0)] [(.ref l1), (.int 0)])) rfl (by rw [hml]; rfl) (Steps.refl _) (argsL := []) (rest := [(.int 0)]) (lenOf pd_23 rfl) rfl (wr0 rfl rfl) (hb hby d7_15) (fun _ _ => ⟨rfl, e224, (by decide : 2 + 0 ≤ _), (by decide : 20 + 0 ≤ _)⟩)
 dsimp only [Pt.U, Pt.locs, Pt.cells, Pt.slots] at X225 l225 y225 z225 st225 hQ225
 subst l225 y225 z225
 obtain ⟨rfl, N225q, e225⟩ := hQ225
 have N225 := Fr.app N161 N225q
 refine Goes.of (fun t k => st225.trans k) ?_
 refine gO (fun t k => XS.icmpNo X225.here hx rfl (hb hby d7_20) rfl (tlt (by decide)).2.1 k) ?_
 refine gO (fun t k => XS.aloadN X225.here hx rfl (hb hby d7_23) rfl rfl k) ?_
 refine gO (fun t k => XS.aloadN X225.here hx rfl (hb hby d7_24) rfl rfl k) ?_
 show Goes p e below (T225.setTop (mkF m 25 #[.val (.ref a1), .val (.ref b100), .val (.int 0)] [(.ref a1), (.ref b100)])) _
 obtain ⟨T226, X226, e226, st226⟩ := getF X225 hx hZ hown (host := "") (Or.inl (wd hw 34 rfl)) Via.refl e225 f186 (g := (mkF m 25 #[.val (.ref a1), .val (.ref b100), .val (.int 0)] [(.ref a1), (.ref b100)])) rfl rfl (hb hby d7_25)
 refine Goes.of st226 ?_
 refine gO (fun t k => XS.iloadN X226.here hx rfl (hb hby d7_28) rfl k) ?_
 obtain ⟨cq227, kq227, q227a, q227b, q227c⟩ := isOf hZ e226 f188
 obtain ⟨_, _, ⟨T227, L227, k227, n227⟩, -, X227, ⟨Lc227, hQ227, l227, y227, z227⟩, st227⟩ := X226.interfaceBack hx (xi := mn50) (y := mn15) hown (mvT hZ (wd hw 203 rfl)) (mvT hZ (wd hw 204 rfl)) (mvT hZ (wd hw 205 rfl)) (mvT hZ (wd hw 206 rfl)) (mvT hZ (wd hw 207 rfl)) (mvT hZ (wd hw 208 rfl)) (mvT hZ (wd hw 209 rfl)) (mvT hZ (wd hw 74 rfl)) (by decide) (backOf (W := 1) (rm35_31 l Z a0 hw [] l1 d1 k1 x0 x1 x2 T161.heap n0 z183 f188 f190 f189 f191) hZ (wd hw 210 rfl) (wd hw 12 rfl) (by decide) (by decide)) q227a q227b q227c (g := (mkF m 29 #[.val (.ref a1), .val (.ref b100), .val (.int 0)] [(.int 0), (.ref l1), (.ref b100)])) rfl (by rw [hml]; rfl) (Steps.refl _) (argsL := [(.int 0)]) (rest := [(.ref b100)]) (lenOf pd_13 rfl) rfl (wr0 rfl rfl) (hb hby d7_29) (fun _ _ => ⟨rfl, e226, (by decide : 2 + 0 ≤ _), (by decide : 20 + 0 ≤ _)⟩)
 dsimp only [Pt.U, Pt.locs, Pt.cells, Pt.slots] at X227 l227 y227 z227 st227 hQ227
 subst l227 y227 z227
 obtain ⟨rfl, N227q, e227⟩ := hQ227
 have N227 := Fr.app N225 N227q
 refine Goes.of (fun t k => st227.trans k) ?_
 show Goes p e below (T227.setTop (mkF m 34 #[.val (.ref a1), .val (.ref b100), .val (.int 0)] [(.ref x0), (.ref b100)])) _
 obtain ⟨T228, X228, e228, st228⟩ := castY X227 hx hZ hown (wd hw 224 rfl) e227 (Ins.self f196) (g := (mkF m 34 #[.val (.ref a1), .val (.ref b100), .val (.int 0)] [(.ref x0), (.ref b100)])) rfl rfl (hb hby d7_34)
 refine Goes.of st228 ?_
 obtain ⟨cq229, kq229, q229a, q229b, q229c⟩ := isOf hZ e228 E161
 obtain ⟨_, _, ⟨T229, L229, k229, n229⟩, -, X229, ⟨Lc229, hQ229, l229, y229, z229⟩, st229⟩ := X228.virtualBack hx (y := mn33) (z := mn33) hown (mvT hZ (wd hw 225 rfl)) (mvT hZ (wd hw 226 rfl)) (notFace_of_selects (args := #[]) (mvT hZ (wd hw 228 rfl))) (mvT hZ (wd hw 228 rfl)) (mvT hZ (wd hw 227 rfl)) (by decide) (backOf (W := 0) (rm39 l Z a0 hw [] b100 x0 cmS b161 k161b (0 : Int32) [] bx0 kx0 zx0 ux0 T161.heap n0 z183 f184 SC cs0 E161 F161_w F161_c F161_n V161 g180 g101 (by decide) f196 f197 f198 f199 hzx0 (by simp only [List.length_append, List.length_nil, List.length_cons]; omega) q168) hZ (wd hw 229 rfl) (wd hw 49 rfl) (by decide) (by decide)) q229a q229c (g := (mkF m 37 #[.val (.ref a1), .val (.ref b100), .val (.int 0)] [(.ref x0), (.ref b100)])) rfl (by rw [hml]; rfl) (Steps.refl _) (argsL := [(.ref x0)]) (rest := []) (lenOf pd_40 rfl) rfl (wr0 rfl rfl) (hb hby d7_37) (fun _ _ => ⟨rfl, e228, (by decide : 2 + 0 ≤ _), (by decide : 20 + 0 ≤ _)⟩)
 dsimp only [Pt.U, Pt.locs, Pt.cells, Pt.slots] at X229 l229 y229 z229 st229 hQ229
 subst l229 y229 z229
 obtain ⟨m229, rfl, N229q, K229, hl229, E229, F229_w, F229_c, F229_n, V229⟩ := hQ229
 have N229 := Fr.app N227 N229q
 have K230 : Keep h0 T229.heap [] := K182.trans K229 (allS (Or.inr z103) (allS (Or.inr z181) all0))
 have z231 := Nat.le_trans z183 K229.1
 have f232 := f184.keep K229 (allS g101 (allS g180 all0))
 have f234 := f186.keep K229 (ninS q104 (ninS q162 nin0))
 have f235 := f187.keep K229 (ninS q104 (ninS q162 nin0))
 have f236 := f188.keep K229
 have f237 := f189.keep K229 (ninS q105 (ninS q163 nin0))
 have f238 := f190.keep K229 (ninS q105 (ninS q163 nin0))
 have f239 := f191.keep K229 (ninS q106 (ninS q164 nin0))
 have f240 := f192.keep K229
 have f241 := f193.keep K229 (ninS q107 (ninS q165 nin0))
 have f242 := f194.keep K229 (ninS q107 (ninS q165 nin0))
 have f243 := f195.keep K229 (ninS q108 (ninS q166 nin0))
 have f248 := f200.keep K229
 have f249 := f201.keep K229 (ninS q111 (ninS q169 nin0))
 have f250 := f202.keep K229 (ninS q111 (ninS q169 nin0))
 have f251 := f203.keep K229 (ninS q112 (ninS q170 nin0))
 have f252 := f204.keep K229
 have f253 := f205.keep K229 (ninS q113 (ninS q171 nin0))
 have f254 := f206.keep K229 (ninS q113 (ninS q171 nin0))
 have f255 := f207.keep K229 (ninS q114 (ninS q172 nin0))
 have f256 := f208.keep K229
 have f257 := f209.keep K229 (ninS q115 (ninS q173 nin0))
 have f258 := f210.keep K229 (ninS q115 (ninS q173 nin0))
 have f259 := f211.keep K229 (ninS q116 (ninS q174 nin0))
 have f260 := f212.keep K229
 have f261 := f213.keep K229 (ninS q117 (ninS q175 nin0))
 have f262 := f214.keep K229 (ninS q117 (ninS q175 nin0))
 have f263 := f215.keep K229 (ninS q118 (ninS q176 nin0))
 have f264 := f216.keep K229
 have f265 := f217.keep K229 (ninS q119 (ninS q177 nin0))
 have f266 := f218.keep K229 (ninS q119 (ninS q177 nin0))
 have f267 := f219.keep K229 (ninS q120 (ninS q178 nin0))
 refine Goes.of (fun t k => st229.trans k) ?_
 obtain ⟨LX273, X273, N273⟩ : ∃ LX, Stand p l e (⟨6, 4, 36, 115⟩ : Room) s m #[(.ref a1)] below meth c T229 LX 2 20 ∧ Fr n0 LX := ⟨_, X229, N229⟩
 refine gO (fun t k => XS.bipush X273.here hx rfl (hb hby d7_40) k) ?_
 obtain ⟨cq274, kq274, q274a, q274b, q274c⟩ := isOf hZ rfl E229
 obtain ⟨_, _, ⟨T274, L274, k274, n274⟩, -, X274, ⟨Lc274, hQ274, l274, y274, z274⟩, st274⟩ := X273.virtualBack hx (y := mn35) (z := mn35) hown (mvT hZ (wd hw 257 rfl)) (mvT hZ (wd hw 258 rfl)) (notFace_of_selects (args := #[]) (mvT hZ (wd hw 260 rfl))) (mvT hZ (wd hw 260 rfl)) (mvT hZ (wd hw 259 rfl)) (by decide) (backOf (W := 0) (rm45 l Z a0 hw [] b100 (32 : Int32) cmS b161 k161b m229 ([] ++ ux0)  T229.heap n0 z231 f232 SC cs0 E229 F229_w F229_c F229_n V229 g180 g101 hl229 (by simp only [List.length_append, List.length_nil, List.length_cons]; omega) (by decide)) hZ (wd hw 261 rfl) (wd hw 49 rfl) (by decide) (by decide)) q274a q274c (g := (mkF m 42 #[.val (.ref a1), .val (.ref b100), .val (.int 0)] [(.int 32), (.ref b100)])) rfl (by rw [hml]; rfl) (Steps.refl _) (argsL := [(.int 32)]) (rest := []) (lenOf pd_41 rfl) rfl (wr0 rfl rfl) (hb hby d7_42) (fun _ _ => ⟨rfl, rfl, (by decide : 2 + 0 ≤ _), (by decide : 20 + 0 ≤ _)⟩)
 dsimp only [Pt.U, Pt.locs, Pt.cells, Pt.slots] at X274 l274 y274 z274 st274 hQ274
 subst l274 y274 z274
 obtain ⟨m274, rfl, N274q, K274, hl274, E274, F274_w, F274_c, F274_n, V274⟩ := hQ274
 have N274 := Fr.app N273 N274q
 have K275 : Keep h0 T274.heap [] := K230.trans K274 (allS (Or.inr z103) (allS (Or.inr z181) all0))
 have z276 := Nat.le_trans z231 K274.1
 have f277 := f232.keep K274 (allS g101 (allS g180 all0))
 have f279 := f234.keep K274 (ninS q104 (ninS q162 nin0))
 have f280 := f235.keep K274 (ninS q104 (ninS q162 nin0))
 have f281 := f236.keep K274
 have f282 := f237.keep K274 (ninS q105 (ninS q163 nin0))
 have f283 := f238.keep K274 (ninS q105 (ninS q163 nin0))
 have f284 := f239.keep K274 (ninS q106 (ninS q164 nin0))
 have f285 := f240.keep K274
 have f286 := f241.keep K274 (ninS q107 (ninS q165 nin0))
 have f287 := f242.keep K274 (ninS q107 (ninS q165 nin0))
 have f288 := f243.keep K274 (ninS q108 (ninS q166 nin0))
 have f293 := f248.keep K274
 have f294 := f249.keep K274 (ninS q111 (ninS q169 nin0))
 have f295 := f250.keep K274 (ninS q111 (ninS q169 nin0))
 have f296 := f251.keep K274 (ninS q112 (ninS q170 nin0))
 have f297 := f252.keep K274
 have f298 := f253.keep K274 (ninS q113 (ninS q171 nin0))
 have f299 := f254.keep K274 (ninS q113 (ninS q171 nin0))
 have f300 := f255.keep K274 (ninS q114 (ninS q172 nin0))
 have f301 := f256.keep K274
 have f302 := f257.keep K274 (ninS q115 (ninS q173 nin0))
 have f303 := f258.keep K274 (ninS q115 (ninS q173 nin0))
 have f304 := f259.keep K274 (ninS q116 (ninS q174 nin0))
 have f305 := f260.keep K274
 have f306 := f261.keep K274 (ninS q117 (ninS q175 nin0))
 have f307 := f262.keep K274 (ninS q117 (ninS q175 nin0))
 have f308 := f263.keep K274 (ninS q118 (ninS q176 nin0))
 have f309 := f264.keep K274
 have f310 := f265.keep K274 (ninS q119 (ninS q177 nin0))
 have f311 := f266.keep K274 (ninS q119 (ninS q177 nin0))
 have f312 := f267.keep K274 (ninS q120 (ninS q178 nin0))
 refine Goes.of (fun t k => st274.trans k) ?_
 obtain ⟨LX318, X318, N318⟩ : ∃ LX, Stand p l e (⟨6, 4, 36, 115⟩ : Room) s m #[(.ref a1)] below meth c T274 LX 2 20 ∧ Fr n0 LX := ⟨_, X274, N274⟩
 refine gO (fun t k => XS.aloadN X318.here hx rfl (hb hby d7_45) rfl rfl k) ?_
 obtain ⟨T319, X319, e319, st319⟩ := getF X318 hx hZ hown (host := "") (Or.inl (wd hw 36 rfl)) Via.refl rfl f280 (g := (mkF m 46 #[.val (.ref a1), .val (.ref b100), .val (.int 0)] [(.ref a1), (.ref b100)])) rfl rfl (hb hby d7_46)
 refine Goes.of st319 ?_
 refine gO (fun t k => XS.iloadN X319.here hx rfl (hb hby d7_49) rfl k) ?_
 show Goes p e below (T319.setTop (mkF m 50 #[.val (.ref a1), .val (.ref b100), .val (.int 0)] [(.int 0), (.ref l2), (.ref b100)])) _
 obtain ⟨cq320, kq320, q320a, q320b, q320c⟩ := isOf hZ e319 f285
 obtain ⟨_, _, ⟨T320, L320, k320, n320⟩, -, X320, ⟨Lc320, hQ320, l320, y320, z320⟩, st320⟩ := X319.interfaceBack hx (xi := mn50) (y := mn15) hown (mvT hZ (wd hw 203 rfl)) (mvT hZ (wd hw 204 rfl)) (mvT hZ (wd hw 205 rfl)) (mvT hZ (wd hw 206 rfl)) (mvT hZ (wd hw 207 rfl)) (mvT hZ (wd hw 208 rfl)) (mvT hZ (wd hw 209 rfl)) (mvT hZ (wd hw 74 rfl)) (by decide) (backOf (W := 1) (rm35_31 l Z a0 hw [] l2 d2 k2 y0 y1 y2 T274.heap n0 z276 f285 f287 f286 f288) hZ (wd hw 210 rfl) (wd hw 12 rfl) (by decide) (by decide)) q320a q320b q320c (g := (mkF m 50 #[.val (.ref a1), .val (.ref b100), .val (.int 0)] [(.int 0), (.ref l2), (.ref b100)])) rfl (by rw [hml]; rfl) (Steps.refl _) (argsL := [(.int 0)]) (rest := [(.ref b100)]) (lenOf pd_13 rfl) rfl (wr0 rfl rfl) (hb hby d7_50) (fun _ _ => ⟨rfl, e319, (by decide : 2 + 0 ≤ _), (by decide : 20 + 0 ≤ _)⟩)
 dsimp only [Pt.U, Pt.locs, Pt.cells, Pt.slots] at X320 l320 y320 z320 st320 hQ320
 subst l320 y320 z320
 obtain ⟨rfl, N320q, e320⟩ := hQ320
 have N320 := Fr.app N318 N320q
 refine Goes.of (fun t k => st320.trans k) ?_
 show Goes p e below (T320.setTop (mkF m 55 #[.val (.ref a1), .val (.ref b100), .val (.int 0)] [(.ref y0), (.ref b100)])) _
 obtain ⟨T321, X321, e321, st321⟩ := castY X320 hx hZ hown (wd hw 224 rfl) e320 (Ins.self f293) (g := (mkF m 55 #[.val (.ref a1), .val (.ref b100), .val (.int 0)] [(.ref y0), (.ref b100)])) rfl rfl (hb hby d7_55)
 refine Goes.of st321 ?_
 obtain ⟨cq322, kq322, q322a, q322b, q322c⟩ := isOf hZ e321 E274
 obtain ⟨_, _, ⟨T322, L322, k322, n322⟩, -, X322, ⟨Lc322, hQ322, l322, y322, z322⟩, st322⟩ := X321.virtualBack hx (y := mn33) (z := mn33) hown (mvT hZ (wd hw 225 rfl)) (mvT hZ (wd hw 226 rfl)) (notFace_of_selects (args := #[]) (mvT hZ (wd hw 228 rfl))) (mvT hZ (wd hw 228 rfl)) (mvT hZ (wd hw 227 rfl)) (by decide) (backOf (W := 0) (rm39 l Z a0 hw [] b100 y0 cmS b161 k161b m274 (([] ++ ux0) ++ [32]) by0 ky0 zy0 uy0 T274.heap n0 z276 f277 SC cs0 E274 F274_w F274_c F274_n V274 g180 g101 hl274 f293 f294 f295 f296 hzy0 (by simp only [List.length_append, List.length_nil, List.length_cons]; omega) q170) hZ (wd hw 229 rfl) (wd hw 49 rfl) (by decide) (by decide)) q322a q322c (g := (mkF m 58 #[.val (.ref a1), .val (.ref b100), .val (.int 0)] [(.ref y0), (.ref b100)])) rfl (by rw [hml]; rfl) (Steps.refl _) (argsL := [(.ref y0)]) (rest := []) (lenOf pd_40 rfl) rfl (wr0 rfl rfl) (hb hby d7_58) (fun _ _ => ⟨rfl, e321, (by decide : 2 + 0 ≤ _), (by decide : 20 + 0 ≤ _)⟩)
 dsimp only [Pt.U, Pt.locs, Pt.cells, Pt.slots] at X322 l322 y322 z322 st322 hQ322
 subst l322 y322 z322
 obtain ⟨m322, rfl, N322q, K322, hl322, E322, F322_w, F322_c, F322_n, V322⟩ := hQ322
 have N322 := Fr.app N320 N322q
 have K323 : Keep h0 T322.heap [] := K275.trans K322 (allS (Or.inr z103) (allS (Or.inr z181) all0))
 have z324 := Nat.le_trans z276 K322.1
 have f325 := f277.keep K322 (allS g101 (allS g180 all0))
 have f327 := f279.keep K322 (ninS q104 (ninS q162 nin0))
 have f328 := f280.keep K322 (ninS q104 (ninS q162 nin0))
 have f329 := f281.keep K322
 have f330 := f282.keep K322 (ninS q105 (ninS q163 nin0))
 have f331 := f283.keep K322 (ninS q105 (ninS q163 nin0))
 have f332 := f284.keep K322 (ninS q106 (ninS q164 nin0))
 have f333 := f285.keep K322
 have f334 := f286.keep K322 (ninS q107 (ninS q165 nin0))
 have f335 := f287.keep K322 (ninS q107 (ninS q165 nin0))
 have f336 := f288.keep K322 (ninS q108 (ninS q166 nin0))
 have f345 := f297.keep K322
 have f346 := f298.keep K322 (ninS q113 (ninS q171 nin0))
 have f347 := f299.keep K322 (ninS q113 (ninS q171 nin0))
 have f348 := f300.keep K322 (ninS q114 (ninS q172 nin0))
 have f349 := f301.keep K322
 have f350 := f302.keep K322 (ninS q115 (ninS q173 nin0))
 have f351 := f303.keep K322 (ninS q115 (ninS q173 nin0))
 have f352 := f304.keep K322 (ninS q116 (ninS q174 nin0))
 have f353 := f305.keep K322
 have f354 := f306.keep K322 (ninS q117 (ninS q175 nin0))
 have f355 := f307.keep K322 (ninS q117 (ninS q175 nin0))
 have f356 := f308.keep K322 (ninS q118 (ninS q176 nin0))
 have f357 := f309.keep K322
 have f358 := f310.keep K322 (ninS q119 (ninS q177 nin0))
 have f359 := f311.keep K322 (ninS q119 (ninS q177 nin0))
 have f360 := f312.keep K322 (ninS q120 (ninS q178 nin0))
 refine Goes.of (fun t k => st322.trans k) ?_
 obtain ⟨LX366, X366, N366⟩ : ∃ LX, Stand p l e (⟨6, 4, 36, 115⟩ : Room) s m #[(.ref a1)] below meth c T322 LX 2 20 ∧ Fr n0 LX := ⟨_, X322, N322⟩
 refine gO (fun t k => XS.bipush X366.here hx rfl (hb hby d7_61) k) ?_
 obtain ⟨cq367, kq367, q367a, q367b, q367c⟩ := isOf hZ rfl E322
 obtain ⟨_, _, ⟨T367, L367, k367, n367⟩, -, X367, ⟨Lc367, hQ367, l367, y367, z367⟩, st367⟩ := X366.virtualBack hx (y := mn35) (z := mn35) hown (mvT hZ (wd hw 257 rfl)) (mvT hZ (wd hw 258 rfl)) (notFace_of_selects (args := #[]) (mvT hZ (wd hw 260 rfl))) (mvT hZ (wd hw 260 rfl)) (mvT hZ (wd hw 259 rfl)) (by decide) (backOf (W := 0) (rm45 l Z a0 hw [] b100 (10 : Int32) cmS b161 k161b m322 ((([] ++ ux0) ++ [32]) ++ uy0)  T322.heap n0 z324 f325 SC cs0 E322 F322_w F322_c F322_n V322 g180 g101 hl322 (by simp only [List.length_append, List.length_nil, List.length_cons]; omega) (by decide)) hZ (wd hw 261 rfl) (wd hw 49 rfl) (by decide) (by decide)) q367a q367c (g := (mkF m 63 #[.val (.ref a1), .val (.ref b100), .val (.int 0)] [(.int 10), (.ref b100)])) rfl (by rw [hml]; rfl) (Steps.refl _) (argsL := [(.int 10)]) (rest := []) (lenOf pd_41 rfl) rfl (wr0 rfl rfl) (hb hby d7_63) (fun _ _ => ⟨rfl, rfl, (by decide : 2 + 0 ≤ _), (by decide : 20 + 0 ≤ _)⟩)
 dsimp only [Pt.U, Pt.locs, Pt.cells, Pt.slots] at X367 l367 y367 z367 st367 hQ367
 subst l367 y367 z367
 obtain ⟨m367, rfl, N367q, K367, hl367, E367, F367_w, F367_c, F367_n, V367⟩ := hQ367
 have N367 := Fr.app N366 N367q
 have K368 : Keep h0 T367.heap [] := K323.trans K367 (allS (Or.inr z103) (allS (Or.inr z181) all0))
 have z369 := Nat.le_trans z324 K367.1
 have f370 := f325.keep K367 (allS g101 (allS g180 all0))
 have f372 := f327.keep K367 (ninS q104 (ninS q162 nin0))
 have f373 := f328.keep K367 (ninS q104 (ninS q162 nin0))
 have f374 := f329.keep K367
 have f375 := f330.keep K367 (ninS q105 (ninS q163 nin0))
 have f376 := f331.keep K367 (ninS q105 (ninS q163 nin0))
 have f377 := f332.keep K367 (ninS q106 (ninS q164 nin0))
 have f378 := f333.keep K367
 have f379 := f334.keep K367 (ninS q107 (ninS q165 nin0))
 have f380 := f335.keep K367 (ninS q107 (ninS q165 nin0))
 have f381 := f336.keep K367 (ninS q108 (ninS q166 nin0))
 have f390 := f345.keep K367
 have f391 := f346.keep K367 (ninS q113 (ninS q171 nin0))
 have f392 := f347.keep K367 (ninS q113 (ninS q171 nin0))
 have f393 := f348.keep K367 (ninS q114 (ninS q172 nin0))
 have f394 := f349.keep K367
 have f395 := f350.keep K367 (ninS q115 (ninS q173 nin0))
 have f396 := f351.keep K367 (ninS q115 (ninS q173 nin0))
 have f397 := f352.keep K367 (ninS q116 (ninS q174 nin0))
 have f398 := f353.keep K367
 have f399 := f354.keep K367 (ninS q117 (ninS q175 nin0))
 have f400 := f355.keep K367 (ninS q117 (ninS q175 nin0))
 have f401 := f356.keep K367 (ninS q118 (ninS q176 nin0))
 have f402 := f357.keep K367
 have f403 := f358.keep K367 (ninS q119 (ninS q177 nin0))
 have f404 := f359.keep K367 (ninS q119 (ninS q177 nin0))
 have f405 := f360.keep K367 (ninS q120 (ninS q178 nin0))
 refine Goes.of (fun t k => st367.trans k) ?_
 obtain ⟨LX411, X411, N411⟩ : ∃ LX, Stand p l e (⟨6, 4, 36, 115⟩ : Room) s m #[(.ref a1)] below meth c T367 LX 2 20 ∧ Fr n0 LX := ⟨_, X367, N367⟩
 refine gO (fun t k => XS.pop X411.here hx rfl (hb hby d7_66) rfl rfl k) ?_
 show Goes p e below (T367.setTop (mkF m 67 #[.val (.ref a1), .val (.ref b100), .val (.int 0)] [])) _
 refine gO (fun t k => XS.iinc X411.here hx rfl (hb hby d7_67) rfl (l' := #[.val (.ref a1), .val (.ref b100), .val (.int 1)]) rfl k) ?_
 refine gO (fun t k => XS.goto X411.here hx rfl (pc0 := 70) (pc' := 10) rfl (hb hby d7_70) (by decide) (by decide) k) ?_
 refine gO (fun t k => XS.iloadN X411.here hx rfl (hb hby d7_10) rfl k) ?_
 refine gO (fun t k => XS.aloadN X411.here hx rfl (hb hby d7_11) rfl rfl k) ?_
 show Goes p e below (T367.setTop (mkF m 12 #[.val (.ref a1), .val (.ref b100), .val (.int 1)] [(.ref a1), (.int 1)])) _
 obtain ⟨T412, X412, e412, st412⟩ := getF X411 hx hZ hown (host := "") (Or.inl (wd hw 34 rfl)) Via.refl rfl f372 (g := (mkF m 12 #[.val (.ref a1), .val (.ref b100), .val (.int 1)] [(.ref a1), (.int 1)])) rfl rfl (hb hby d7_12)
 refine Goes.of st412 ?_
 obtain ⟨cq413, kq413, q413a, q413b, q413c⟩ := isOf hZ e412 f374
 obtain ⟨_, _, ⟨T413, L413, k413, n413⟩, -, X413, ⟨Lc413, hQ413, l413, y413, z413⟩, st413⟩ := X412.interfaceBack hx (xi := mn49) (y := mn11) hown (mvT hZ (wd hw 67 rfl)) (mvT hZ (wd hw 68 rfl)) (mvT hZ (wd hw 69 rfl)) (mvT hZ (wd hw 70 rfl)) (mvT hZ (wd hw 71 rfl)) (mvT hZ (wd hw 72 rfl)) (mvT hZ (wd hw 73 rfl)) (mvT hZ (wd hw 74 rfl)) (by decide) (backOf (W := 1) (rm10_20 l Z a0 hw [] l1  T367.heap n0 z369 f376) hZ (wd hw 75 rfl) (wd hw 12 rfl) (by decide) (by decide)) q413a q413b q413c (g := (mkF m 15 #[.val (.ref a1), .val (.ref b100), .val (.int 1)] [(.ref l1), (.int 1)])) rfl (by rw [hml]; rfl) (Steps.refl _) (argsL := []) (rest := [(.int 1)]) (lenOf pd_23 rfl) rfl (wr0 rfl rfl) (hb hby d7_15) (fun _ _ => ⟨rfl, e412, (by decide : 2 + 0 ≤ _), (by decide : 20 + 0 ≤ _)⟩)
 dsimp only [Pt.U, Pt.locs, Pt.cells, Pt.slots] at X413 l413 y413 z413 st413 hQ413
 subst l413 y413 z413
 obtain ⟨rfl, N413q, e413⟩ := hQ413
 have N413 := Fr.app N411 N413q
 refine Goes.of (fun t k => st413.trans k) ?_
 refine gO (fun t k => XS.icmpNo X413.here hx rfl (hb hby d7_20) rfl (tlt (by decide)).2.1 k) ?_
 refine gO (fun t k => XS.aloadN X413.here hx rfl (hb hby d7_23) rfl rfl k) ?_
 refine gO (fun t k => XS.aloadN X413.here hx rfl (hb hby d7_24) rfl rfl k) ?_
 show Goes p e below (T413.setTop (mkF m 25 #[.val (.ref a1), .val (.ref b100), .val (.int 1)] [(.ref a1), (.ref b100)])) _
 obtain ⟨T414, X414, e414, st414⟩ := getF X413 hx hZ hown (host := "") (Or.inl (wd hw 34 rfl)) Via.refl e413 f372 (g := (mkF m 25 #[.val (.ref a1), .val (.ref b100), .val (.int 1)] [(.ref a1), (.ref b100)])) rfl rfl (hb hby d7_25)
 refine Goes.of st414 ?_
 refine gO (fun t k => XS.iloadN X414.here hx rfl (hb hby d7_28) rfl k) ?_
 obtain ⟨cq415, kq415, q415a, q415b, q415c⟩ := isOf hZ e414 f374
 obtain ⟨_, _, ⟨T415, L415, k415, n415⟩, -, X415, ⟨Lc415, hQ415, l415, y415, z415⟩, st415⟩ := X414.interfaceBack hx (xi := mn50) (y := mn15) hown (mvT hZ (wd hw 203 rfl)) (mvT hZ (wd hw 204 rfl)) (mvT hZ (wd hw 205 rfl)) (mvT hZ (wd hw 206 rfl)) (mvT hZ (wd hw 207 rfl)) (mvT hZ (wd hw 208 rfl)) (mvT hZ (wd hw 209 rfl)) (mvT hZ (wd hw 74 rfl)) (by decide) (backOf (W := 1) (rm35_33 l Z a0 hw [] l1 d1 k1 x0 x1 x2 T367.heap n0 z369 f374 f376 f375 f377) hZ (wd hw 210 rfl) (wd hw 12 rfl) (by decide) (by decide)) q415a q415b q415c (g := (mkF m 29 #[.val (.ref a1), .val (.ref b100), .val (.int 1)] [(.int 1), (.ref l1), (.ref b100)])) rfl (by rw [hml]; rfl) (Steps.refl _) (argsL := [(.int 1)]) (rest := [(.ref b100)]) (lenOf pd_13 rfl) rfl (wr0 rfl rfl) (hb hby d7_29) (fun _ _ => ⟨rfl, e414, (by decide : 2 + 0 ≤ _), (by decide : 20 + 0 ≤ _)⟩)
 dsimp only [Pt.U, Pt.locs, Pt.cells, Pt.slots] at X415 l415 y415 z415 st415 hQ415
 subst l415 y415 z415
 obtain ⟨rfl, N415q, e415⟩ := hQ415
 have N415 := Fr.app N413 N415q
 refine Goes.of (fun t k => st415.trans k) ?_
 show Goes p e below (T415.setTop (mkF m 34 #[.val (.ref a1), .val (.ref b100), .val (.int 1)] [(.ref x1), (.ref b100)])) _
 obtain ⟨T416, X416, e416, st416⟩ := castY X415 hx hZ hown (wd hw 224 rfl) e415 (Ins.self f390) (g := (mkF m 34 #[.val (.ref a1), .val (.ref b100), .val (.int 1)] [(.ref x1), (.ref b100)])) rfl rfl (hb hby d7_34)
 refine Goes.of st416 ?_
 obtain ⟨cq417, kq417, q417a, q417b, q417c⟩ := isOf hZ e416 E367
 obtain ⟨_, _, ⟨T417, L417, k417, n417⟩, -, X417, ⟨Lc417, hQ417, l417, y417, z417⟩, st417⟩ := X416.virtualBack hx (y := mn33) (z := mn33) hown (mvT hZ (wd hw 225 rfl)) (mvT hZ (wd hw 226 rfl)) (notFace_of_selects (args := #[]) (mvT hZ (wd hw 228 rfl))) (mvT hZ (wd hw 228 rfl)) (mvT hZ (wd hw 227 rfl)) (by decide) (backOf (W := 0) (rm39 l Z a0 hw [] b100 x1 cmS b161 k161b m367 (((([] ++ ux0) ++ [32]) ++ uy0) ++ [10]) bx1 kx1 zx1 ux1 T367.heap n0 z369 f370 SC cs0 E367 F367_w F367_c F367_n V367 g180 g101 hl367 f390 f391 f392 f393 hzx1 (by simp only [List.length_append, List.length_nil, List.length_cons]; omega) q172) hZ (wd hw 229 rfl) (wd hw 49 rfl) (by decide) (by decide)) q417a q417c (g := (mkF m 37 #[.val (.ref a1), .val (.ref b100), .val (.int 1)] [(.ref x1), (.ref b100)])) rfl (by rw [hml]; rfl) (Steps.refl _) (argsL := [(.ref x1)]) (rest := []) (lenOf pd_40 rfl) rfl (wr0 rfl rfl) (hb hby d7_37) (fun _ _ => ⟨rfl, e416, (by decide : 2 + 0 ≤ _), (by decide : 20 + 0 ≤ _)⟩)
 dsimp only [Pt.U, Pt.locs, Pt.cells, Pt.slots] at X417 l417 y417 z417 st417 hQ417
 subst l417 y417 z417
 obtain ⟨m417, rfl, N417q, K417, hl417, E417, F417_w, F417_c, F417_n, V417⟩ := hQ417
 have N417 := Fr.app N415 N417q
 have K418 : Keep h0 T417.heap [] := K368.trans K417 (allS (Or.inr z103) (allS (Or.inr z181) all0))
 have z419 := Nat.le_trans z369 K417.1
 have f420 := f370.keep K417 (allS g101 (allS g180 all0))
 have f422 := f372.keep K417 (ninS q104 (ninS q162 nin0))
 have f423 := f373.keep K417 (ninS q104 (ninS q162 nin0))
 have f424 := f374.keep K417
 have f425 := f375.keep K417 (ninS q105 (ninS q163 nin0))
 have f426 := f376.keep K417 (ninS q105 (ninS q163 nin0))
 have f427 := f377.keep K417 (ninS q106 (ninS q164 nin0))
 have f428 := f378.keep K417
 have f429 := f379.keep K417 (ninS q107 (ninS q165 nin0))
 have f430 := f380.keep K417 (ninS q107 (ninS q165 nin0))
 have f431 := f381.keep K417 (ninS q108 (ninS q166 nin0))
 have f444 := f394.keep K417
 have f445 := f395.keep K417 (ninS q115 (ninS q173 nin0))
 have f446 := f396.keep K417 (ninS q115 (ninS q173 nin0))
 have f447 := f397.keep K417 (ninS q116 (ninS q174 nin0))
 have f448 := f398.keep K417
 have f449 := f399.keep K417 (ninS q117 (ninS q175 nin0))
 have f450 := f400.keep K417 (ninS q117 (ninS q175 nin0))
 have f451 := f401.keep K417 (ninS q118 (ninS q176 nin0))
 have f452 := f402.keep K417
 have f453 := f403.keep K417 (ninS q119 (ninS q177 nin0))
 have f454 := f404.keep K417 (ninS q119 (ninS q177 nin0))
 have f455 := f405.keep K417 (ninS q120 (ninS q178 nin0))
 refine Goes.of (fun t k => st417.trans k) ?_
 obtain ⟨LX461, X461, N461⟩ : ∃ LX, Stand p l e (⟨6, 4, 36, 115⟩ : Room) s m #[(.ref a1)] below meth c T417 LX 2 20 ∧ Fr n0 LX := ⟨_, X417, N417⟩
 refine gO (fun t k => XS.bipush X461.here hx rfl (hb hby d7_40) k) ?_
 obtain ⟨cq462, kq462, q462a, q462b, q462c⟩ := isOf hZ rfl E417
 obtain ⟨_, _, ⟨T462, L462, k462, n462⟩, -, X462, ⟨Lc462, hQ462, l462, y462, z462⟩, st462⟩ := X461.virtualBack hx (y := mn35) (z := mn35) hown (mvT hZ (wd hw 257 rfl)) (mvT hZ (wd hw 258 rfl)) (notFace_of_selects (args := #[]) (mvT hZ (wd hw 260 rfl))) (mvT hZ (wd hw 260 rfl)) (mvT hZ (wd hw 259 rfl)) (by decide) (backOf (W := 0) (rm45 l Z a0 hw [] b100 (32 : Int32) cmS b161 k161b m417 ((((([] ++ ux0) ++ [32]) ++ uy0) ++ [10]) ++ ux1)  T417.heap n0 z419 f420 SC cs0 E417 F417_w F417_c F417_n V417 g180 g101 hl417 (by simp only [List.length_append, List.length_nil, List.length_cons]; omega) (by decide)) hZ (wd hw 261 rfl) (wd hw 49 rfl) (by decide) (by decide)) q462a q462c (g := (mkF m 42 #[.val (.ref a1), .val (.ref b100), .val (.int 1)] [(.int 32), (.ref b100)])) rfl (by rw [hml]; rfl) (Steps.refl _) (argsL := [(.int 32)]) (rest := []) (lenOf pd_41 rfl) rfl (wr0 rfl rfl) (hb hby d7_42) (fun _ _ => ⟨rfl, rfl, (by decide : 2 + 0 ≤ _), (by decide : 20 + 0 ≤ _)⟩)
 dsimp only [Pt.U, Pt.locs, Pt.cells, Pt.slots] at X462 l462 y462 z462 st462 hQ462
 subst l462 y462 z462
 obtain ⟨m462, rfl, N462q, K462, hl462, E462, F462_w, F462_c, F462_n, V462⟩ := hQ462
 have N462 := Fr.app N461 N462q
 have K463 : Keep h0 T462.heap [] := K418.trans K462 (allS (Or.inr z103) (allS (Or.inr z181) all0))
 have z464 := Nat.le_trans z419 K462.1
 have f465 := f420.keep K462 (allS g101 (allS g180 all0))
 have f467 := f422.keep K462 (ninS q104 (ninS q162 nin0))
 have f468 := f423.keep K462 (ninS q104 (ninS q162 nin0))
 have f469 := f424.keep K462
 have f470 := f425.keep K462 (ninS q105 (ninS q163 nin0))
 have f471 := f426.keep K462 (ninS q105 (ninS q163 nin0))
 have f472 := f427.keep K462 (ninS q106 (ninS q164 nin0))
 have f473 := f428.keep K462
 have f474 := f429.keep K462 (ninS q107 (ninS q165 nin0))
 have f475 := f430.keep K462 (ninS q107 (ninS q165 nin0))
 have f476 := f431.keep K462 (ninS q108 (ninS q166 nin0))
 have f489 := f444.keep K462
 have f490 := f445.keep K462 (ninS q115 (ninS q173 nin0))
 have f491 := f446.keep K462 (ninS q115 (ninS q173 nin0))
 have f492 := f447.keep K462 (ninS q116 (ninS q174 nin0))
 have f493 := f448.keep K462
 have f494 := f449.keep K462 (ninS q117 (ninS q175 nin0))
 have f495 := f450.keep K462 (ninS q117 (ninS q175 nin0))
 have f496 := f451.keep K462 (ninS q118 (ninS q176 nin0))
 have f497 := f452.keep K462
 have f498 := f453.keep K462 (ninS q119 (ninS q177 nin0))
 have f499 := f454.keep K462 (ninS q119 (ninS q177 nin0))
 have f500 := f455.keep K462 (ninS q120 (ninS q178 nin0))
 refine Goes.of (fun t k => st462.trans k) ?_
 obtain ⟨LX506, X506, N506⟩ : ∃ LX, Stand p l e (⟨6, 4, 36, 115⟩ : Room) s m #[(.ref a1)] below meth c T462 LX 2 20 ∧ Fr n0 LX := ⟨_, X462, N462⟩
 refine gO (fun t k => XS.aloadN X506.here hx rfl (hb hby d7_45) rfl rfl k) ?_
 obtain ⟨T507, X507, e507, st507⟩ := getF X506 hx hZ hown (host := "") (Or.inl (wd hw 36 rfl)) Via.refl rfl f468 (g := (mkF m 46 #[.val (.ref a1), .val (.ref b100), .val (.int 1)] [(.ref a1), (.ref b100)])) rfl rfl (hb hby d7_46)
 refine Goes.of st507 ?_
 refine gO (fun t k => XS.iloadN X507.here hx rfl (hb hby d7_49) rfl k) ?_
 show Goes p e below (T507.setTop (mkF m 50 #[.val (.ref a1), .val (.ref b100), .val (.int 1)] [(.int 1), (.ref l2), (.ref b100)])) _
 obtain ⟨cq508, kq508, q508a, q508b, q508c⟩ := isOf hZ e507 f473
 obtain ⟨_, _, ⟨T508, L508, k508, n508⟩, -, X508, ⟨Lc508, hQ508, l508, y508, z508⟩, st508⟩ := X507.interfaceBack hx (xi := mn50) (y := mn15) hown (mvT hZ (wd hw 203 rfl)) (mvT hZ (wd hw 204 rfl)) (mvT hZ (wd hw 205 rfl)) (mvT hZ (wd hw 206 rfl)) (mvT hZ (wd hw 207 rfl)) (mvT hZ (wd hw 208 rfl)) (mvT hZ (wd hw 209 rfl)) (mvT hZ (wd hw 74 rfl)) (by decide) (backOf (W := 1) (rm35_33 l Z a0 hw [] l2 d2 k2 y0 y1 y2 T462.heap n0 z464 f473 f475 f474 f476) hZ (wd hw 210 rfl) (wd hw 12 rfl) (by decide) (by decide)) q508a q508b q508c (g := (mkF m 50 #[.val (.ref a1), .val (.ref b100), .val (.int 1)] [(.int 1), (.ref l2), (.ref b100)])) rfl (by rw [hml]; rfl) (Steps.refl _) (argsL := [(.int 1)]) (rest := [(.ref b100)]) (lenOf pd_13 rfl) rfl (wr0 rfl rfl) (hb hby d7_50) (fun _ _ => ⟨rfl, e507, (by decide : 2 + 0 ≤ _), (by decide : 20 + 0 ≤ _)⟩)
 dsimp only [Pt.U, Pt.locs, Pt.cells, Pt.slots] at X508 l508 y508 z508 st508 hQ508
 subst l508 y508 z508
 obtain ⟨rfl, N508q, e508⟩ := hQ508
 have N508 := Fr.app N506 N508q
 refine Goes.of (fun t k => st508.trans k) ?_
 show Goes p e below (T508.setTop (mkF m 55 #[.val (.ref a1), .val (.ref b100), .val (.int 1)] [(.ref y1), (.ref b100)])) _
 obtain ⟨T509, X509, e509, st509⟩ := castY X508 hx hZ hown (wd hw 224 rfl) e508 (Ins.self f489) (g := (mkF m 55 #[.val (.ref a1), .val (.ref b100), .val (.int 1)] [(.ref y1), (.ref b100)])) rfl rfl (hb hby d7_55)
 refine Goes.of st509 ?_
 obtain ⟨cq510, kq510, q510a, q510b, q510c⟩ := isOf hZ e509 E462
 obtain ⟨_, _, ⟨T510, L510, k510, n510⟩, -, X510, ⟨Lc510, hQ510, l510, y510, z510⟩, st510⟩ := X509.virtualBack hx (y := mn33) (z := mn33) hown (mvT hZ (wd hw 225 rfl)) (mvT hZ (wd hw 226 rfl)) (notFace_of_selects (args := #[]) (mvT hZ (wd hw 228 rfl))) (mvT hZ (wd hw 228 rfl)) (mvT hZ (wd hw 227 rfl)) (by decide) (backOf (W := 0) (rm39 l Z a0 hw [] b100 y1 cmS b161 k161b m462 (((((([] ++ ux0) ++ [32]) ++ uy0) ++ [10]) ++ ux1) ++ [32]) by1 ky1 zy1 uy1 T462.heap n0 z464 f465 SC cs0 E462 F462_w F462_c F462_n V462 g180 g101 hl462 f489 f490 f491 f492 hzy1 (by simp only [List.length_append, List.length_nil, List.length_cons]; omega) q174) hZ (wd hw 229 rfl) (wd hw 49 rfl) (by decide) (by decide)) q510a q510c (g := (mkF m 58 #[.val (.ref a1), .val (.ref b100), .val (.int 1)] [(.ref y1), (.ref b100)])) rfl (by rw [hml]; rfl) (Steps.refl _) (argsL := [(.ref y1)]) (rest := []) (lenOf pd_40 rfl) rfl (wr0 rfl rfl) (hb hby d7_58) (fun _ _ => ⟨rfl, e509, (by decide : 2 + 0 ≤ _), (by decide : 20 + 0 ≤ _)⟩)
 dsimp only [Pt.U, Pt.locs, Pt.cells, Pt.slots] at X510 l510 y510 z510 st510 hQ510
 subst l510 y510 z510
 obtain ⟨m510, rfl, N510q, K510, hl510, E510, F510_w, F510_c, F510_n, V510⟩ := hQ510
 have N510 := Fr.app N508 N510q
 have K511 : Keep h0 T510.heap [] := K463.trans K510 (allS (Or.inr z103) (allS (Or.inr z181) all0))
 have z512 := Nat.le_trans z464 K510.1
 have f513 := f465.keep K510 (allS g101 (allS g180 all0))
 have f515 := f467.keep K510 (ninS q104 (ninS q162 nin0))
 have f516 := f468.keep K510 (ninS q104 (ninS q162 nin0))
 have f517 := f469.keep K510
 have f518 := f470.keep K510 (ninS q105 (ninS q163 nin0))
 have f519 := f471.keep K510 (ninS q105 (ninS q163 nin0))
 have f520 := f472.keep K510 (ninS q106 (ninS q164 nin0))
 have f521 := f473.keep K510
 have f522 := f474.keep K510 (ninS q107 (ninS q165 nin0))
 have f523 := f475.keep K510 (ninS q107 (ninS q165 nin0))
 have f524 := f476.keep K510 (ninS q108 (ninS q166 nin0))
 have f541 := f493.keep K510
 have f542 := f494.keep K510 (ninS q117 (ninS q175 nin0))
 have f543 := f495.keep K510 (ninS q117 (ninS q175 nin0))
 have f544 := f496.keep K510 (ninS q118 (ninS q176 nin0))
 have f545 := f497.keep K510
 have f546 := f498.keep K510 (ninS q119 (ninS q177 nin0))
 have f547 := f499.keep K510 (ninS q119 (ninS q177 nin0))
 have f548 := f500.keep K510 (ninS q120 (ninS q178 nin0))
 refine Goes.of (fun t k => st510.trans k) ?_
 obtain ⟨LX554, X554, N554⟩ : ∃ LX, Stand p l e (⟨6, 4, 36, 115⟩ : Room) s m #[(.ref a1)] below meth c T510 LX 2 20 ∧ Fr n0 LX := ⟨_, X510, N510⟩
 refine gO (fun t k => XS.bipush X554.here hx rfl (hb hby d7_61) k) ?_
 obtain ⟨cq555, kq555, q555a, q555b, q555c⟩ := isOf hZ rfl E510
 obtain ⟨_, _, ⟨T555, L555, k555, n555⟩, -, X555, ⟨Lc555, hQ555, l555, y555, z555⟩, st555⟩ := X554.virtualBack hx (y := mn35) (z := mn35) hown (mvT hZ (wd hw 257 rfl)) (mvT hZ (wd hw 258 rfl)) (notFace_of_selects (args := #[]) (mvT hZ (wd hw 260 rfl))) (mvT hZ (wd hw 260 rfl)) (mvT hZ (wd hw 259 rfl)) (by decide) (backOf (W := 0) (rm45 l Z a0 hw [] b100 (10 : Int32) cmS b161 k161b m510 ((((((([] ++ ux0) ++ [32]) ++ uy0) ++ [10]) ++ ux1) ++ [32]) ++ uy1)  T510.heap n0 z512 f513 SC cs0 E510 F510_w F510_c F510_n V510 g180 g101 hl510 (by simp only [List.length_append, List.length_nil, List.length_cons]; omega) (by decide)) hZ (wd hw 261 rfl) (wd hw 49 rfl) (by decide) (by decide)) q555a q555c (g := (mkF m 63 #[.val (.ref a1), .val (.ref b100), .val (.int 1)] [(.int 10), (.ref b100)])) rfl (by rw [hml]; rfl) (Steps.refl _) (argsL := [(.int 10)]) (rest := []) (lenOf pd_41 rfl) rfl (wr0 rfl rfl) (hb hby d7_63) (fun _ _ => ⟨rfl, rfl, (by decide : 2 + 0 ≤ _), (by decide : 20 + 0 ≤ _)⟩)
 dsimp only [Pt.U, Pt.locs, Pt.cells, Pt.slots] at X555 l555 y555 z555 st555 hQ555
 subst l555 y555 z555
 obtain ⟨m555, rfl, N555q, K555, hl555, E555, F555_w, F555_c, F555_n, V555⟩ := hQ555
 have N555 := Fr.app N554 N555q
 have K556 : Keep h0 T555.heap [] := K511.trans K555 (allS (Or.inr z103) (allS (Or.inr z181) all0))
 have z557 := Nat.le_trans z512 K555.1
 have f558 := f513.keep K555 (allS g101 (allS g180 all0))
 have f560 := f515.keep K555 (ninS q104 (ninS q162 nin0))
 have f561 := f516.keep K555 (ninS q104 (ninS q162 nin0))
 have f562 := f517.keep K555
 have f563 := f518.keep K555 (ninS q105 (ninS q163 nin0))
 have f564 := f519.keep K555 (ninS q105 (ninS q163 nin0))
 have f565 := f520.keep K555 (ninS q106 (ninS q164 nin0))
 have f566 := f521.keep K555
 have f567 := f522.keep K555 (ninS q107 (ninS q165 nin0))
 have f568 := f523.keep K555 (ninS q107 (ninS q165 nin0))
 have f569 := f524.keep K555 (ninS q108 (ninS q166 nin0))
 have f586 := f541.keep K555
 have f587 := f542.keep K555 (ninS q117 (ninS q175 nin0))
 have f588 := f543.keep K555 (ninS q117 (ninS q175 nin0))
 have f589 := f544.keep K555 (ninS q118 (ninS q176 nin0))
 have f590 := f545.keep K555
 have f591 := f546.keep K555 (ninS q119 (ninS q177 nin0))
 have f592 := f547.keep K555 (ninS q119 (ninS q177 nin0))
 have f593 := f548.keep K555 (ninS q120 (ninS q178 nin0))
 refine Goes.of (fun t k => st555.trans k) ?_
 obtain ⟨LX599, X599, N599⟩ : ∃ LX, Stand p l e (⟨6, 4, 36, 115⟩ : Room) s m #[(.ref a1)] below meth c T555 LX 2 20 ∧ Fr n0 LX := ⟨_, X555, N555⟩
 refine gO (fun t k => XS.pop X599.here hx rfl (hb hby d7_66) rfl rfl k) ?_
 show Goes p e below (T555.setTop (mkF m 67 #[.val (.ref a1), .val (.ref b100), .val (.int 1)] [])) _
 refine gO (fun t k => XS.iinc X599.here hx rfl (hb hby d7_67) rfl (l' := #[.val (.ref a1), .val (.ref b100), .val (.int 2)]) rfl k) ?_
 refine gO (fun t k => XS.goto X599.here hx rfl (pc0 := 70) (pc' := 10) rfl (hb hby d7_70) (by decide) (by decide) k) ?_
 refine gO (fun t k => XS.iloadN X599.here hx rfl (hb hby d7_10) rfl k) ?_
 refine gO (fun t k => XS.aloadN X599.here hx rfl (hb hby d7_11) rfl rfl k) ?_
 show Goes p e below (T555.setTop (mkF m 12 #[.val (.ref a1), .val (.ref b100), .val (.int 2)] [(.ref a1), (.int 2)])) _
 obtain ⟨T600, X600, e600, st600⟩ := getF X599 hx hZ hown (host := "") (Or.inl (wd hw 34 rfl)) Via.refl rfl f560 (g := (mkF m 12 #[.val (.ref a1), .val (.ref b100), .val (.int 2)] [(.ref a1), (.int 2)])) rfl rfl (hb hby d7_12)
 refine Goes.of st600 ?_
 obtain ⟨cq601, kq601, q601a, q601b, q601c⟩ := isOf hZ e600 f562
 obtain ⟨_, _, ⟨T601, L601, k601, n601⟩, -, X601, ⟨Lc601, hQ601, l601, y601, z601⟩, st601⟩ := X600.interfaceBack hx (xi := mn49) (y := mn11) hown (mvT hZ (wd hw 67 rfl)) (mvT hZ (wd hw 68 rfl)) (mvT hZ (wd hw 69 rfl)) (mvT hZ (wd hw 70 rfl)) (mvT hZ (wd hw 71 rfl)) (mvT hZ (wd hw 72 rfl)) (mvT hZ (wd hw 73 rfl)) (mvT hZ (wd hw 74 rfl)) (by decide) (backOf (W := 1) (rm10_20 l Z a0 hw [] l1  T555.heap n0 z557 f564) hZ (wd hw 75 rfl) (wd hw 12 rfl) (by decide) (by decide)) q601a q601b q601c (g := (mkF m 15 #[.val (.ref a1), .val (.ref b100), .val (.int 2)] [(.ref l1), (.int 2)])) rfl (by rw [hml]; rfl) (Steps.refl _) (argsL := []) (rest := [(.int 2)]) (lenOf pd_23 rfl) rfl (wr0 rfl rfl) (hb hby d7_15) (fun _ _ => ⟨rfl, e600, (by decide : 2 + 0 ≤ _), (by decide : 20 + 0 ≤ _)⟩)
 dsimp only [Pt.U, Pt.locs, Pt.cells, Pt.slots] at X601 l601 y601 z601 st601 hQ601
 subst l601 y601 z601
 obtain ⟨rfl, N601q, e601⟩ := hQ601
 have N601 := Fr.app N599 N601q
 refine Goes.of (fun t k => st601.trans k) ?_
 refine gO (fun t k => XS.icmpNo X601.here hx rfl (hb hby d7_20) rfl (tlt (by decide)).2.1 k) ?_
 refine gO (fun t k => XS.aloadN X601.here hx rfl (hb hby d7_23) rfl rfl k) ?_
 refine gO (fun t k => XS.aloadN X601.here hx rfl (hb hby d7_24) rfl rfl k) ?_
 show Goes p e below (T601.setTop (mkF m 25 #[.val (.ref a1), .val (.ref b100), .val (.int 2)] [(.ref a1), (.ref b100)])) _
 obtain ⟨T602, X602, e602, st602⟩ := getF X601 hx hZ hown (host := "") (Or.inl (wd hw 34 rfl)) Via.refl e601 f560 (g := (mkF m 25 #[.val (.ref a1), .val (.ref b100), .val (.int 2)] [(.ref a1), (.ref b100)])) rfl rfl (hb hby d7_25)
 refine Goes.of st602 ?_
 refine gO (fun t k => XS.iloadN X602.here hx rfl (hb hby d7_28) rfl k) ?_
 obtain ⟨cq603, kq603, q603a, q603b, q603c⟩ := isOf hZ e602 f562
 obtain ⟨_, _, ⟨T603, L603, k603, n603⟩, -, X603, ⟨Lc603, hQ603, l603, y603, z603⟩, st603⟩ := X602.interfaceBack hx (xi := mn50) (y := mn15) hown (mvT hZ (wd hw 203 rfl)) (mvT hZ (wd hw 204 rfl)) (mvT hZ (wd hw 205 rfl)) (mvT hZ (wd hw 206 rfl)) (mvT hZ (wd hw 207 rfl)) (mvT hZ (wd hw 208 rfl)) (mvT hZ (wd hw 209 rfl)) (mvT hZ (wd hw 74 rfl)) (by decide) (backOf (W := 1) (rm35_35 l Z a0 hw [] l1 d1 k1 x0 x1 x2 T555.heap n0 z557 f562 f564 f563 f565) hZ (wd hw 210 rfl) (wd hw 12 rfl) (by decide) (by decide)) q603a q603b q603c (g := (mkF m 29 #[.val (.ref a1), .val (.ref b100), .val (.int 2)] [(.int 2), (.ref l1), (.ref b100)])) rfl (by rw [hml]; rfl) (Steps.refl _) (argsL := [(.int 2)]) (rest := [(.ref b100)]) (lenOf pd_13 rfl) rfl (wr0 rfl rfl) (hb hby d7_29) (fun _ _ => ⟨rfl, e602, (by decide : 2 + 0 ≤ _), (by decide : 20 + 0 ≤ _)⟩)
 dsimp only [Pt.U, Pt.locs, Pt.cells, Pt.slots] at X603 l603 y603 z603 st603 hQ603
 subst l603 y603 z603
 obtain ⟨rfl, N603q, e603⟩ := hQ603
 have N603 := Fr.app N601 N603q
 refine Goes.of (fun t k => st603.trans k) ?_
 show Goes p e below (T603.setTop (mkF m 34 #[.val (.ref a1), .val (.ref b100), .val (.int 2)] [(.ref x2), (.ref b100)])) _
 obtain ⟨T604, X604, e604, st604⟩ := castY X603 hx hZ hown (wd hw 224 rfl) e603 (Ins.self f586) (g := (mkF m 34 #[.val (.ref a1), .val (.ref b100), .val (.int 2)] [(.ref x2), (.ref b100)])) rfl rfl (hb hby d7_34)
 refine Goes.of st604 ?_
 obtain ⟨cq605, kq605, q605a, q605b, q605c⟩ := isOf hZ e604 E555
 obtain ⟨_, _, ⟨T605, L605, k605, n605⟩, -, X605, ⟨Lc605, hQ605, l605, y605, z605⟩, st605⟩ := X604.virtualBack hx (y := mn33) (z := mn33) hown (mvT hZ (wd hw 225 rfl)) (mvT hZ (wd hw 226 rfl)) (notFace_of_selects (args := #[]) (mvT hZ (wd hw 228 rfl))) (mvT hZ (wd hw 228 rfl)) (mvT hZ (wd hw 227 rfl)) (by decide) (backOf (W := 0) (rm39 l Z a0 hw [] b100 x2 cmS b161 k161b m555 (((((((([] ++ ux0) ++ [32]) ++ uy0) ++ [10]) ++ ux1) ++ [32]) ++ uy1) ++ [10]) bx2 kx2 zx2 ux2 T555.heap n0 z557 f558 SC cs0 E555 F555_w F555_c F555_n V555 g180 g101 hl555 f586 f587 f588 f589 hzx2 (by simp only [List.length_append, List.length_nil, List.length_cons]; omega) q176) hZ (wd hw 229 rfl) (wd hw 49 rfl) (by decide) (by decide)) q605a q605c (g := (mkF m 37 #[.val (.ref a1), .val (.ref b100), .val (.int 2)] [(.ref x2), (.ref b100)])) rfl (by rw [hml]; rfl) (Steps.refl _) (argsL := [(.ref x2)]) (rest := []) (lenOf pd_40 rfl) rfl (wr0 rfl rfl) (hb hby d7_37) (fun _ _ => ⟨rfl, e604, (by decide : 2 + 0 ≤ _), (by decide : 20 + 0 ≤ _)⟩)
 dsimp only [Pt.U, Pt.locs, Pt.cells, Pt.slots] at X605 l605 y605 z605 st605 hQ605
 subst l605 y605 z605
 obtain ⟨m605, rfl, N605q, K605, hl605, E605, F605_w, F605_c, F605_n, V605⟩ := hQ605
 have N605 := Fr.app N603 N605q
 have K606 : Keep h0 T605.heap [] := K556.trans K605 (allS (Or.inr z103) (allS (Or.inr z181) all0))
 have z607 := Nat.le_trans z557 K605.1
 have f608 := f558.keep K605 (allS g101 (allS g180 all0))
 have f610 := f560.keep K605 (ninS q104 (ninS q162 nin0))
 have f611 := f561.keep K605 (ninS q104 (ninS q162 nin0))
 have f612 := f562.keep K605
 have f614 := f564.keep K605 (ninS q105 (ninS q163 nin0))
 have f616 := f566.keep K605
 have f617 := f567.keep K605 (ninS q107 (ninS q165 nin0))
 have f618 := f568.keep K605 (ninS q107 (ninS q165 nin0))
 have f619 := f569.keep K605 (ninS q108 (ninS q166 nin0))
 have f640 := f590.keep K605
 have f641 := f591.keep K605 (ninS q119 (ninS q177 nin0))
 have f642 := f592.keep K605 (ninS q119 (ninS q177 nin0))
 have f643 := f593.keep K605 (ninS q120 (ninS q178 nin0))
 refine Goes.of (fun t k => st605.trans k) ?_
 obtain ⟨LX649, X649, N649⟩ : ∃ LX, Stand p l e (⟨6, 4, 36, 115⟩ : Room) s m #[(.ref a1)] below meth c T605 LX 2 20 ∧ Fr n0 LX := ⟨_, X605, N605⟩
 refine gO (fun t k => XS.bipush X649.here hx rfl (hb hby d7_40) k) ?_
 obtain ⟨cq650, kq650, q650a, q650b, q650c⟩ := isOf hZ rfl E605
 obtain ⟨_, _, ⟨T650, L650, k650, n650⟩, -, X650, ⟨Lc650, hQ650, l650, y650, z650⟩, st650⟩ := X649.virtualBack hx (y := mn35) (z := mn35) hown (mvT hZ (wd hw 257 rfl)) (mvT hZ (wd hw 258 rfl)) (notFace_of_selects (args := #[]) (mvT hZ (wd hw 260 rfl))) (mvT hZ (wd hw 260 rfl)) (mvT hZ (wd hw 259 rfl)) (by decide) (backOf (W := 0) (rm45 l Z a0 hw [] b100 (32 : Int32) cmS b161 k161b m605 ((((((((([] ++ ux0) ++ [32]) ++ uy0) ++ [10]) ++ ux1) ++ [32]) ++ uy1) ++ [10]) ++ ux2)  T605.heap n0 z607 f608 SC cs0 E605 F605_w F605_c F605_n V605 g180 g101 hl605 (by simp only [List.length_append, List.length_nil, List.length_cons]; omega) (by decide)) hZ (wd hw 261 rfl) (wd hw 49 rfl) (by decide) (by decide)) q650a q650c (g := (mkF m 42 #[.val (.ref a1), .val (.ref b100), .val (.int 2)] [(.int 32), (.ref b100)])) rfl (by rw [hml]; rfl) (Steps.refl _) (argsL := [(.int 32)]) (rest := []) (lenOf pd_41 rfl) rfl (wr0 rfl rfl) (hb hby d7_42) (fun _ _ => ⟨rfl, rfl, (by decide : 2 + 0 ≤ _), (by decide : 20 + 0 ≤ _)⟩)
 dsimp only [Pt.U, Pt.locs, Pt.cells, Pt.slots] at X650 l650 y650 z650 st650 hQ650
 subst l650 y650 z650
 obtain ⟨m650, rfl, N650q, K650, hl650, E650, F650_w, F650_c, F650_n, V650⟩ := hQ650
 have N650 := Fr.app N649 N650q
 have K651 : Keep h0 T650.heap [] := K606.trans K650 (allS (Or.inr z103) (allS (Or.inr z181) all0))
 have z652 := Nat.le_trans z607 K650.1
 have f653 := f608.keep K650 (allS g101 (allS g180 all0))
 have f655 := f610.keep K650 (ninS q104 (ninS q162 nin0))
 have f656 := f611.keep K650 (ninS q104 (ninS q162 nin0))
 have f657 := f612.keep K650
 have f659 := f614.keep K650 (ninS q105 (ninS q163 nin0))
 have f661 := f616.keep K650
 have f662 := f617.keep K650 (ninS q107 (ninS q165 nin0))
 have f663 := f618.keep K650 (ninS q107 (ninS q165 nin0))
 have f664 := f619.keep K650 (ninS q108 (ninS q166 nin0))
 have f685 := f640.keep K650
 have f686 := f641.keep K650 (ninS q119 (ninS q177 nin0))
 have f687 := f642.keep K650 (ninS q119 (ninS q177 nin0))
 have f688 := f643.keep K650 (ninS q120 (ninS q178 nin0))
 refine Goes.of (fun t k => st650.trans k) ?_
 obtain ⟨LX694, X694, N694⟩ : ∃ LX, Stand p l e (⟨6, 4, 36, 115⟩ : Room) s m #[(.ref a1)] below meth c T650 LX 2 20 ∧ Fr n0 LX := ⟨_, X650, N650⟩
 refine gO (fun t k => XS.aloadN X694.here hx rfl (hb hby d7_45) rfl rfl k) ?_
 obtain ⟨T695, X695, e695, st695⟩ := getF X694 hx hZ hown (host := "") (Or.inl (wd hw 36 rfl)) Via.refl rfl f656 (g := (mkF m 46 #[.val (.ref a1), .val (.ref b100), .val (.int 2)] [(.ref a1), (.ref b100)])) rfl rfl (hb hby d7_46)
 refine Goes.of st695 ?_
 refine gO (fun t k => XS.iloadN X695.here hx rfl (hb hby d7_49) rfl k) ?_
 show Goes p e below (T695.setTop (mkF m 50 #[.val (.ref a1), .val (.ref b100), .val (.int 2)] [(.int 2), (.ref l2), (.ref b100)])) _
 obtain ⟨cq696, kq696, q696a, q696b, q696c⟩ := isOf hZ e695 f661
 obtain ⟨_, _, ⟨T696, L696, k696, n696⟩, -, X696, ⟨Lc696, hQ696, l696, y696, z696⟩, st696⟩ := X695.interfaceBack hx (xi := mn50) (y := mn15) hown (mvT hZ (wd hw 203 rfl)) (mvT hZ (wd hw 204 rfl)) (mvT hZ (wd hw 205 rfl)) (mvT hZ (wd hw 206 rfl)) (mvT hZ (wd hw 207 rfl)) (mvT hZ (wd hw 208 rfl)) (mvT hZ (wd hw 209 rfl)) (mvT hZ (wd hw 74 rfl)) (by decide) (backOf (W := 1) (rm35_35 l Z a0 hw [] l2 d2 k2 y0 y1 y2 T650.heap n0 z652 f661 f663 f662 f664) hZ (wd hw 210 rfl) (wd hw 12 rfl) (by decide) (by decide)) q696a q696b q696c (g := (mkF m 50 #[.val (.ref a1), .val (.ref b100), .val (.int 2)] [(.int 2), (.ref l2), (.ref b100)])) rfl (by rw [hml]; rfl) (Steps.refl _) (argsL := [(.int 2)]) (rest := [(.ref b100)]) (lenOf pd_13 rfl) rfl (wr0 rfl rfl) (hb hby d7_50) (fun _ _ => ⟨rfl, e695, (by decide : 2 + 0 ≤ _), (by decide : 20 + 0 ≤ _)⟩)
 dsimp only [Pt.U, Pt.locs, Pt.cells, Pt.slots] at X696 l696 y696 z696 st696 hQ696
 subst l696 y696 z696
 obtain ⟨rfl, N696q, e696⟩ := hQ696
 have N696 := Fr.app N694 N696q
 refine Goes.of (fun t k => st696.trans k) ?_
 show Goes p e below (T696.setTop (mkF m 55 #[.val (.ref a1), .val (.ref b100), .val (.int 2)] [(.ref y2), (.ref b100)])) _
 obtain ⟨T697, X697, e697, st697⟩ := castY X696 hx hZ hown (wd hw 224 rfl) e696 (Ins.self f685) (g := (mkF m 55 #[.val (.ref a1), .val (.ref b100), .val (.int 2)] [(.ref y2), (.ref b100)])) rfl rfl (hb hby d7_55)
 refine Goes.of st697 ?_
 obtain ⟨cq698, kq698, q698a, q698b, q698c⟩ := isOf hZ e697 E650
 obtain ⟨_, _, ⟨T698, L698, k698, n698⟩, -, X698, ⟨Lc698, hQ698, l698, y698, z698⟩, st698⟩ := X697.virtualBack hx (y := mn33) (z := mn33) hown (mvT hZ (wd hw 225 rfl)) (mvT hZ (wd hw 226 rfl)) (notFace_of_selects (args := #[]) (mvT hZ (wd hw 228 rfl))) (mvT hZ (wd hw 228 rfl)) (mvT hZ (wd hw 227 rfl)) (by decide) (backOf (W := 0) (rm39 l Z a0 hw [] b100 y2 cmS b161 k161b m650 (((((((((([] ++ ux0) ++ [32]) ++ uy0) ++ [10]) ++ ux1) ++ [32]) ++ uy1) ++ [10]) ++ ux2) ++ [32]) by2 ky2 zy2 uy2 T650.heap n0 z652 f653 SC cs0 E650 F650_w F650_c F650_n V650 g180 g101 hl650 f685 f686 f687 f688 hzy2 (by simp only [List.length_append, List.length_nil, List.length_cons]; omega) q178) hZ (wd hw 229 rfl) (wd hw 49 rfl) (by decide) (by decide)) q698a q698c (g := (mkF m 58 #[.val (.ref a1), .val (.ref b100), .val (.int 2)] [(.ref y2), (.ref b100)])) rfl (by rw [hml]; rfl) (Steps.refl _) (argsL := [(.ref y2)]) (rest := []) (lenOf pd_40 rfl) rfl (wr0 rfl rfl) (hb hby d7_58) (fun _ _ => ⟨rfl, e697, (by decide : 2 + 0 ≤ _), (by decide : 20 + 0 ≤ _)⟩)
 dsimp only [Pt.U, Pt.locs, Pt.cells, Pt.slots] at X698 l698 y698 z698 st698 hQ698
 subst l698 y698 z698
 obtain ⟨m698, rfl, N698q, K698, hl698, E698, F698_w, F698_c, F698_n, V698⟩ := hQ698
 have N698 := Fr.app N696 N698q
 have K699 : Keep h0 T698.heap [] := K651.trans K698 (allS (Or.inr z103) (allS (Or.inr z181) all0))
 have z700 := Nat.le_trans z652 K698.1
 have f701 := f653.keep K698 (allS g101 (allS g180 all0))
 have f703 := f655.keep K698 (ninS q104 (ninS q162 nin0))
 have f705 := f657.keep K698
 have f707 := f659.keep K698 (ninS q105 (ninS q163 nin0))
 refine Goes.of (fun t k => st698.trans k) ?_
 obtain ⟨LX742, X742, N742⟩ : ∃ LX, Stand p l e (⟨6, 4, 36, 115⟩ : Room) s m #[(.ref a1)] below meth c T698 LX 2 20 ∧ Fr n0 LX := ⟨_, X698, N698⟩
 refine gO (fun t k => XS.bipush X742.here hx rfl (hb hby d7_61) k) ?_
 obtain ⟨cq743, kq743, q743a, q743b, q743c⟩ := isOf hZ rfl E698
 obtain ⟨_, _, ⟨T743, L743, k743, n743⟩, -, X743, ⟨Lc743, hQ743, l743, y743, z743⟩, st743⟩ := X742.virtualBack hx (y := mn35) (z := mn35) hown (mvT hZ (wd hw 257 rfl)) (mvT hZ (wd hw 258 rfl)) (notFace_of_selects (args := #[]) (mvT hZ (wd hw 260 rfl))) (mvT hZ (wd hw 260 rfl)) (mvT hZ (wd hw 259 rfl)) (by decide) (backOf (W := 0) (rm45 l Z a0 hw [] b100 (10 : Int32) cmS b161 k161b m698 ((((((((((([] ++ ux0) ++ [32]) ++ uy0) ++ [10]) ++ ux1) ++ [32]) ++ uy1) ++ [10]) ++ ux2) ++ [32]) ++ uy2)  T698.heap n0 z700 f701 SC cs0 E698 F698_w F698_c F698_n V698 g180 g101 hl698 (by simp only [List.length_append, List.length_nil, List.length_cons]; omega) (by decide)) hZ (wd hw 261 rfl) (wd hw 49 rfl) (by decide) (by decide)) q743a q743c (g := (mkF m 63 #[.val (.ref a1), .val (.ref b100), .val (.int 2)] [(.int 10), (.ref b100)])) rfl (by rw [hml]; rfl) (Steps.refl _) (argsL := [(.int 10)]) (rest := []) (lenOf pd_41 rfl) rfl (wr0 rfl rfl) (hb hby d7_63) (fun _ _ => ⟨rfl, rfl, (by decide : 2 + 0 ≤ _), (by decide : 20 + 0 ≤ _)⟩)
 dsimp only [Pt.U, Pt.locs, Pt.cells, Pt.slots] at X743 l743 y743 z743 st743 hQ743
 subst l743 y743 z743
 obtain ⟨m743, rfl, N743q, K743, hl743, E743, F743_w, F743_c, F743_n, V743⟩ := hQ743
 have N743 := Fr.app N742 N743q
 have K744 : Keep h0 T743.heap [] := K699.trans K743 (allS (Or.inr z103) (allS (Or.inr z181) all0))
 have z745 := Nat.le_trans z700 K743.1
 have f746 := f701.keep K743 (allS g101 (allS g180 all0))
 have f748 := f703.keep K743 (ninS q104 (ninS q162 nin0))
 have f750 := f705.keep K743
 have f752 := f707.keep K743 (ninS q105 (ninS q163 nin0))
 refine Goes.of (fun t k => st743.trans k) ?_
 obtain ⟨LX787, X787, N787⟩ : ∃ LX, Stand p l e (⟨6, 4, 36, 115⟩ : Room) s m #[(.ref a1)] below meth c T743 LX 2 20 ∧ Fr n0 LX := ⟨_, X743, N743⟩
 refine gO (fun t k => XS.pop X787.here hx rfl (hb hby d7_66) rfl rfl k) ?_
 show Goes p e below (T743.setTop (mkF m 67 #[.val (.ref a1), .val (.ref b100), .val (.int 2)] [])) _
 refine gO (fun t k => XS.iinc X787.here hx rfl (hb hby d7_67) rfl (l' := #[.val (.ref a1), .val (.ref b100), .val (.int 3)]) rfl k) ?_
 refine gO (fun t k => XS.goto X787.here hx rfl (pc0 := 70) (pc' := 10) rfl (hb hby d7_70) (by decide) (by decide) k) ?_
 refine gO (fun t k => XS.iloadN X787.here hx rfl (hb hby d7_10) rfl k) ?_
 refine gO (fun t k => XS.aloadN X787.here hx rfl (hb hby d7_11) rfl rfl k) ?_
 show Goes p e below (T743.setTop (mkF m 12 #[.val (.ref a1), .val (.ref b100), .val (.int 3)] [(.ref a1), (.int 3)])) _
 obtain ⟨T788, X788, e788, st788⟩ := getF X787 hx hZ hown (host := "") (Or.inl (wd hw 34 rfl)) Via.refl rfl f748 (g := (mkF m 12 #[.val (.ref a1), .val (.ref b100), .val (.int 3)] [(.ref a1), (.int 3)])) rfl rfl (hb hby d7_12)
 refine Goes.of st788 ?_
 obtain ⟨cq789, kq789, q789a, q789b, q789c⟩ := isOf hZ e788 f750
 obtain ⟨_, _, ⟨T789, L789, k789, n789⟩, -, X789, ⟨Lc789, hQ789, l789, y789, z789⟩, st789⟩ := X788.interfaceBack hx (xi := mn49) (y := mn11) hown (mvT hZ (wd hw 67 rfl)) (mvT hZ (wd hw 68 rfl)) (mvT hZ (wd hw 69 rfl)) (mvT hZ (wd hw 70 rfl)) (mvT hZ (wd hw 71 rfl)) (mvT hZ (wd hw 72 rfl)) (mvT hZ (wd hw 73 rfl)) (mvT hZ (wd hw 74 rfl)) (by decide) (backOf (W := 1) (rm10_20 l Z a0 hw [] l1  T743.heap n0 z745 f752) hZ (wd hw 75 rfl) (wd hw 12 rfl) (by decide) (by decide)) q789a q789b q789c (g := (mkF m 15 #[.val (.ref a1), .val (.ref b100), .val (.int 3)] [(.ref l1), (.int 3)])) rfl (by rw [hml]; rfl) (Steps.refl _) (argsL := []) (rest := [(.int 3)]) (lenOf pd_23 rfl) rfl (wr0 rfl rfl) (hb hby d7_15) (fun _ _ => ⟨rfl, e788, (by decide : 2 + 0 ≤ _), (by decide : 20 + 0 ≤ _)⟩)
 dsimp only [Pt.U, Pt.locs, Pt.cells, Pt.slots] at X789 l789 y789 z789 st789 hQ789
 subst l789 y789 z789
 obtain ⟨rfl, N789q, e789⟩ := hQ789
 have N789 := Fr.app N787 N789q
 refine Goes.of (fun t k => st789.trans k) ?_
 refine gO (fun t k => XS.icmpYes X789.here hx rfl (pc0 := 20) (pc' := 73) rfl (hb hby d7_20) rfl (flt (by decide)).2.1 (by decide) (by decide) k) ?_
 refine gO (fun t k => XS.aloadN X789.here hx rfl (hb hby d7_73) rfl rfl k) ?_
 obtain ⟨cq790, kq790, q790a, q790b, q790c⟩ := isOf hZ e789 E743
 obtain ⟨_, _, ⟨T790, L790, k790, n790⟩, -, X790, ⟨Lc790, hQ790, l790, y790, z790⟩, st790⟩ := X789.virtualBack hx (y := mn42) (z := mn42) hown (mvT hZ (wd hw 78 rfl)) (mvT hZ (wd hw 79 rfl)) (notFace_of_selects (args := #[]) (mvT hZ (wd hw 81 rfl))) (mvT hZ (wd hw 81 rfl)) (mvT hZ (wd hw 80 rfl)) (by decide) (backOf (W := 0) (rm11 l Z a0 hw [] b100 cmS b161 k161b m743 (((((((((((([] ++ ux0) ++ [32]) ++ uy0) ++ [10]) ++ ux1) ++ [32]) ++ uy1) ++ [10]) ++ ux2) ++ [32]) ++ uy2) ++ [10]) T743.heap n0 z745 f746 SC cs0 E743 F743_w F743_c F743_n V743 hl743 (by simp only [List.length_append, List.length_nil, List.length_cons]; omega)) hZ (wd hw 82 rfl) (wd hw 49 rfl) (by decide) (by decide)) q790a q790c (g := (mkF m 74 #[.val (.ref a1), .val (.ref b100), .val (.int 3)] [(.ref b100)])) rfl (by rw [hml]; rfl) (Steps.refl _) (argsL := []) (rest := []) (lenOf pd_39 rfl) rfl (wr0 rfl rfl) (hb hby d7_74) (fun _ _ => ⟨rfl, e789, (by decide : 2 + 2 ≤ _), (by decide : 20 + 16 ≤ _)⟩)
 dsimp only [Pt.U, Pt.locs, Pt.cells, Pt.slots] at X790 l790 y790 z790 st790 hQ790
 subst l790 y790 z790
 obtain ⟨s790, t790, k790t, rfl, N790q, K790, E790, F790_c, F790_w, V790⟩ := hQ790
 have N790 := Fr.app N789 N790q
 have K791 : Keep h0 T790.heap [] := K744.trans K790 all0
 refine Goes.of (fun t k => st790.trans k) ?_
 show Goes p e below (T790.setTop (mkF m 77 #[.val (.ref a1), .val (.ref b100), .val (.int 3)] [(.ref s790)])) _
 have eh : T790.heap = T790.heap := rfl
 exact Goes.retA X790 hx (by rfl) Bd.returns (by rfl) hlocks (hb hby d7_77) (⟨s790, t790, _, m743, rfl, N790, by rw [eh]; exact K791, hl743, by rw [eh]; exact E790, by rw [eh]; exact F790_c, by rw [eh]; exact F790_w, by rw [eh]; exact V790⟩) (by decide) (by decide)
def own_c1 (x : Int32) : Int32 := (x &&& (255 : Int32)).toUInt32.toUInt16.toUInt32.toInt32
theorem own_c1r (x : Int32) : 0 ≤ (own_c1 x).toInt ∧ (own_c1 x).toInt ≤ 255 := by
  have e : (x &&& 255).toInt = x.toInt % 2 ^ 8 := Jvm.Kit.i32_mask x 255 (k := 8) (by decide) (by decide)
  exact own_256 (fun c => 0 ≤ (c.toUInt32.toUInt16.toUInt32.toInt32).toInt ∧ (c.toUInt32.toUInt16.toUInt32.toInt32).toInt ≤ 255) (by decide +kernel) (x &&& 255) (by omega) (by omega)
theorem own_lat1 {x : Int32} (r : 0 ≤ x.toInt ∧ x.toInt ≤ 255) : own_lat [x] := fun c hc => by rw [List.mem_singleton.mp hc]; exact r
theorem own_lat0 : own_lat [] := fun _ hc => nomatch hc
theorem ef_6 (m : MethodId) (x0 x1 : Addr) (x2 x3 x4 x5 : Int32) : entryFrame m #[(.ref x0), (.ref x1), (.int x2), (.int x3), (.int x4), (.int x5)] 13 = mkF m 0 #[.val (.ref x0), .val (.ref x1), .val (.int x2), .val (.int x3), .val (.int x4), .val (.int x5), .unset, .unset, .unset, .unset, .unset, .unset, .unset] [] := by first | (simp [entryFrame, mkF, argsToLocals, Value.category]; done) | rfl
def Q6 (Z : State) (a1 a2 : Addr) (p3 p5 p6 : Int32) (h0 : Heap) (n0 : Nat) (v : Option Value) (h : Heap) (L : List Loc) : Prop := v = some (.int p3) ∧ Fr n0 L ∧ h = h0
theorem rm6 (l : Launch) (Z : State) (a0 : Array Value) (hw : ∀ d ∈ tables_1, d.before a0 Z = true) (ws : List Jvm.Cond) (a1 a2 : Addr) (p3 p5 p6 : Int32) (h0 : Heap) (n0 : Nat) (Z0 : n0 ≤ h0.size)  :
 CT l Z mn51 method_3_code 13 (some .int) ws (⟨0, 0, 0, 0⟩ : Room) #[(.ref a1), (.ref a2), (.int p3), (.int 0), (.int p5), (.int p6)] h0 (Q6 Z a1 a2 p3 p5 p6 h0 n0) := by
 refine MetFree.of_bodySF (plainFor_of_name pn_37) hisR ?_
 intro p e s m args below meth c s₁ Bd hml0 hP hK
 obtain ⟨rfl, hZ, hh⟩ := hP
 have hx := Bd.exec
 have hby := Bd.bytes
 have hml : c.maxLocals = 13 := hml0
 have hown : s.vm.findClass "com/example/hinta/hinta/StatementTextPinLaw" = some m.cls := findClass_of_methodNamed Bd.named
 have hnm := (name_of_methodNamed Bd.named Bd.method).1
 have hlocks : meth.locks = false := BodyLoose.notSynchronized Bd
 have X0 : Stand p l e (⟨0, 0, 0, 0⟩ : Room) s m #[(.ref a1), (.ref a2), (.int p3), (.int 0), (.int p5), (.int p6)] below meth c s₁ [] 0 0 := Stand.of_body Bd
 have e0 : s₁.heap = h0 := by rw [← hh, Bd.state]; rfl
 have N0 := Fr.nil n0
 show Goes p e below (s₁.setTop (entryFrame m #[(.ref a1), (.ref a2), (.int p3), (.int 0), (.int p5), (.int p6)] 13)) (Fin s (Q6 Z a1 a2 p3 p5 p6 h0 n0) (⟨0, 0, 0, 0⟩ : Room).cells (⟨0, 0, 0, 0⟩ : Room).slots)
 refine Goes.of (fun t k => castTop (ef_6 m a1 a2 p3 (0 : Int32) p5 p6) k) ?_
 refine gO (fun t k => XS.iloadN X0.here hx rfl (hb hby d6_0) rfl k) ?_
 refine gO (fun t k => XS.ifNo X0.here hx rfl (hb hby d6_1) rfl ((if0 _ _).trans (teq (by decide)).2) k) ?_
 refine gO (fun t k => XS.iloadN X0.here hx rfl (hb hby d6_4) rfl k) ?_
 show Goes p e below (s₁.setTop (mkF m 5 #[.val (.ref a1), .val (.ref a2), .val (.int p3), .val (.int 0), .val (.int p5), .val (.int p6), .unset, .unset, .unset, .unset, .unset, .unset, .unset] [(.int p3)])) _
 exact Goes.retI X0 hx Bd.returns hlocks (hb hby d6_5) (⟨rfl, N0, e0⟩) (by decide) (by decide)
theorem ef_6_73 (m : MethodId) (x0 x1 : Addr) (x2 x3 x4 x5 : Int32) : entryFrame m #[(.ref x0), (.ref x1), (.int x2), (.int x3), (.int x4), (.int x5)] 13 = mkF m 0 #[.val (.ref x0), .val (.ref x1), .val (.int x2), .val (.int x3), .val (.int x4), .val (.int x5), .unset, .unset, .unset, .unset, .unset, .unset, .unset] [] := by first | (simp [entryFrame, mkF, argsToLocals, Value.category]; done) | rfl
def Q6_73 (Z : State) (a1 a2 : Addr) (p3 p5 p6 cmS : Int32) (kc : ClassId) (us : List Int32) (aE : Addr) (kE : ClassId) (l1 l2 : Addr) (h0 : Heap) (n0 : Nat) (v : Option Value) (h : Heap) (L : List Loc) : Prop := ∃ (x bx : Addr) (kx : ClassId) (zx : Int32) (ks : List Int32) (y by_ : Addr) (ky : ClassId) (zy : Int32) (vs : List Int32) (n' : Int32) (d1 : Addr) (k1 : ClassId) (d2 : Addr) (k2 : ClassId), v = some (.int n') ∧ Fr n0 L ∧ Keep h0 h [l1, l2, a2] ∧ n'.toInt = (((((us ++ ks) ++ [32]) ++ vs) ++ [10]) : List Int32).length ∧ zx.toInt = ks.length ∧ ks.length ≤ 1 ∧ own_lat ks ∧ zy.toInt = vs.length ∧ vs.length ≤ 1 ∧ own_lat vs ∧ h0.size ≤ d1 ∧ h0.size ≤ d2 ∧ d1 ≠ d2 ∧ Ovr Z k1 "java/lang/Object" ∧ Ovr Z k2 "java/lang/Object" ∧ Exa Z h x "java/lang/String" ∧ Fl5 Z h x (.int 0) ∧ Fl6 Z h x (.ref bx) ∧ Arv Z h bx kx .byte zx (own_vb (ks)) (.int (0 : Int32)) ∧ Exa Z h y "java/lang/String" ∧ Fl5 Z h y (.int 0) ∧ Fl6 Z h y (.ref by_) ∧ Arv Z h by_ ky .byte zy (own_vb (vs)) (.int (0 : Int32)) ∧ Exa Z h a1 "com/example/hinta/hinta/Statement" ∧ Fl3 Z h a1 (.ref l1) ∧ Fl4 Z h a1 (.ref l2) ∧ Exa Z h l1 "java/util/ArrayList" ∧ Fl0 Z h l1 (.ref d1) ∧ Fl1 Z h l1 (.int 1) ∧ Fl2 Z h l1 (.int 1) ∧ Exa Z h l2 "java/util/ArrayList" ∧ Fl0 Z h l2 (.ref d2) ∧ Fl1 Z h l2 (.int 1) ∧ Fl2 Z h l2 (.int 1) ∧ Arv Z h d1 k1 (.object "java/lang/Object") (10 : Int32) [(.ref x), .null, .null, .null, .null, .null, .null, .null, .null, .null] .null ∧ Arv Z h d2 k2 (.object "java/lang/Object") (10 : Int32) [(.ref y), .null, .null, .null, .null, .null, .null, .null, .null, .null] .null ∧ Arv Z h a2 kc .char (12 : Int32) (own_vc (((((us ++ ks) ++ [32]) ++ vs) ++ [10]))) (.int (0 : Int32))
theorem rm6_73 (l : Launch) (Z : State) (a0 : Array Value) (hw : ∀ d ∈ tables_1, d.before a0 Z = true) (ws : List Jvm.Cond) (a1 a2 : Addr) (p3 p5 p6 cmS : Int32) (kc : ClassId) (us : List Int32) (aE : Addr) (kE : ClassId) (l1 l2 : Addr) (h0 : Heap) (n0 : Nat) (Z0 : n0 ≤ h0.size) (O0 : Old Z n0 h0) (SC : Sta Z Z.heap "java/lang/String" "COMPACT_STRINGS" "Z" (.int cmS)) (cs0 : cmS ≠ 0) (SE : Sta Z Z.heap "java/util/ArrayList" "DEFAULTCAPACITY_EMPTY_ELEMENTDATA" "[Ljava/lang/Object;" (.ref aE)) (AE : Arv Z Z.heap aE kE (.object "java/lang/Object") (0 : Int32) [] .null) (E_a1 : Exa Z h0 a1 "com/example/hinta/hinta/Statement") (F_k_a1 : Fl3 Z h0 a1 (.ref l1)) (F_v_a1 : Fl4 Z h0 a1 (.ref l2)) (E_l1 : Exa Z h0 l1 "java/util/ArrayList") (F_e_l1 : Fl0 Z h0 l1 (.ref aE)) (F_s_l1 : Fl1 Z h0 l1 (.int 0)) (F_m_l1 : Fl2 Z h0 l1 (.int 0)) (E_l2 : Exa Z h0 l2 "java/util/ArrayList") (F_e_l2 : Fl0 Z h0 l2 (.ref aE)) (F_s_l2 : Fl1 Z h0 l2 (.int 0)) (F_m_l2 : Fl2 Z h0 l2 (.int 0)) (ne : l1 ≠ l2) (G_l1 : n0 ≤ l1) (G_l2 : n0 ≤ l2) (V_a2 : Arv Z h0 a2 kc .char (12 : Int32) (own_vc (us)) (.int (0 : Int32))) (G_a2 : n0 ≤ a2) (hn : p3.toInt = us.length) (hc : us.length ≤ 0) :
 CTH l Z mn51 method_3_code 13 (some .int) ws (⟨6, 6, 30, 83⟩ : Room) #[(.ref a1), (.ref a2), (.int p3), (.int 1), (.int p5), (.int p6)] h0 (Q6_73 Z a1 a2 p3 p5 p6 cmS kc us aE kE l1 l2 h0 n0) := by
 refine MetFree.of_bodySF (plainFor_of_name pn_37) hisR ?_
 intro p e s m args below meth c s₁ Bd hml0 hP hK
 obtain ⟨rfl, hZ, hh, hCH0⟩ := hP
 have hx := Bd.exec
 have hby := Bd.bytes
 have hml : c.maxLocals = 13 := hml0
 have hown : s.vm.findClass "com/example/hinta/hinta/StatementTextPinLaw" = some m.cls := findClass_of_methodNamed Bd.named
 have hnm := (name_of_methodNamed Bd.named Bd.method).1
 have hlocks : meth.locks = false := BodyLoose.notSynchronized Bd
 have X0 : Stand p l e (⟨6, 6, 30, 83⟩ : Room) s m #[(.ref a1), (.ref a2), (.int p3), (.int 1), (.int p5), (.int p6)] below meth c s₁ [] 0 0 := Stand.of_body Bd
 have e0 : s₁.heap = h0 := by rw [← hh, Bd.state]; rfl
 have N0 := Fr.nil n0
 show Goes p e below (s₁.setTop (entryFrame m #[(.ref a1), (.ref a2), (.int p3), (.int 1), (.int p5), (.int p6)] 13)) (FinH Z consts_1 s (Q6_73 Z a1 a2 p3 p5 p6 cmS kc us aE kE l1 l2 h0 n0) (⟨6, 6, 30, 83⟩ : Room).cells (⟨6, 6, 30, 83⟩ : Room).slots)
 refine Goes.of (fun t k => castTop (ef_6_73 m a1 a2 p3 (1 : Int32) p5 p6) k) ?_
 have X0 : Stand p l e (⟨6, 6, 30, 83⟩ : Room) (s.setVm s.vm) m #[(.ref a1), (.ref a2), (.int p3), (.int 1), (.int p5), (.int p6)] below meth c s₁ [] 0 0 := X0
 have hS0 : s.Since s.vm 0 := (State.WarmedH.refl s).since 0
 have kS0 : 0 ≤ h0.size := Nat.zero_le _
 have hZ : Z.Warmed39 (s.setVm s.vm).vm := hZ
 have hown : (s.setVm s.vm).vm.findClass "com/example/hinta/hinta/StatementTextPinLaw" = some m.cls := hown
 have C0 : CHr Z consts_1 s.vm h0 s.vm h0 := CHr.refl hCH0
 have K0 : Keep h0 h0 [l1, l2, a2] := Keep.refl _ _
 refine gO (fun t k => XS.iloadN X0.here hx rfl (hb hby d6_0) rfl k) ?_
 refine gO (fun t k => XS.ifYes X0.here hx rfl (pc0 := 1) (pc' := 6) rfl (hb hby d6_1) rfl ((if0 _ _).trans (feq (by decide)).2) (by decide) (by decide) k) ?_
 refine gO (fun t k => XS.iload X0.here hx rfl (hb hby d6_6) rfl k) ?_
 refine gO (fun t k => XS.sipush X0.here hx rfl (hb hby d6_8) k) ?_
 show Goes p e below (s₁.setTop (mkF m 11 #[.val (.ref a1), .val (.ref a2), .val (.int p3), .val (.int 1), .val (.int p5), .val (.int p6), .unset, .unset, .unset, .unset, .unset, .unset, .unset] [(.int 255), (.int p5)])) _
 refine gO (fun t k => XS.iand X0.here hx rfl (hb hby d6_11) rfl k) ?_
 refine gO (fun t k => XS.i2c X0.here hx rfl (hb hby d6_12) rfl k) ?_
 refine gO (fun t k => XS.istore X0.here hx rfl (hb hby d6_13) rfl (l' := #[.val (.ref a1), .val (.ref a2), .val (.int p3), .val (.int 1), .val (.int p5), .val (.int p6), .val (.int ((p5 &&& (255 : Int32)).toUInt32.toUInt16.toUInt32.toInt32)), .unset, .unset, .unset, .unset, .unset, .unset]) rfl k) ?_
 show Goes p e below (s₁.setTop (mkF m 15 #[.val (.ref a1), .val (.ref a2), .val (.int p3), .val (.int 1), .val (.int p5), .val (.int p6), .val (.int (own_c1 p5)), .unset, .unset, .unset, .unset, .unset, .unset] [])) _
 have r1 := own_c1r p5
 generalize own_c1 p5 = c1 at r1 ⊢
 refine gO (fun t k => XS.iload X0.here hx rfl (hb hby d6_15) rfl k) ?_
 refine gO (fun t k => XS.bipush X0.here hx rfl (hb hby d6_17) k) ?_
 refine gO (fun t k => XS.iushr X0.here hx rfl (hb hby d6_19) rfl k) ?_
 refine gO (fun t k => XS.sipush X0.here hx rfl (hb hby d6_20) k) ?_
 refine gO (fun t k => XS.iand X0.here hx rfl (hb hby d6_23) rfl k) ?_
 show Goes p e below (s₁.setTop (mkF m 24 #[.val (.ref a1), .val (.ref a2), .val (.int p3), .val (.int 1), .val (.int p5), .val (.int p6), .val (.int c1), .unset, .unset, .unset, .unset, .unset, .unset] [(.int (((p5.toUInt32 >>> ((8 : Int32) &&& 31).toUInt32).toInt32) &&& (255 : Int32)))])) _
 refine gO (fun t k => XS.i2c X0.here hx rfl (hb hby d6_24) rfl k) ?_
 refine gO (fun t k => XS.istore X0.here hx rfl (hb hby d6_25) rfl (l' := #[.val (.ref a1), .val (.ref a2), .val (.int p3), .val (.int 1), .val (.int p5), .val (.int p6), .val (.int c1), .val (.int ((((p5.toUInt32 >>> ((8 : Int32) &&& 31).toUInt32).toInt32) &&& (255 : Int32)).toUInt32.toUInt16.toUInt32.toInt32)), .unset, .unset, .unset, .unset, .unset]) rfl k) ?_
 show Goes p e below (s₁.setTop (mkF m 27 #[.val (.ref a1), .val (.ref a2), .val (.int p3), .val (.int 1), .val (.int p5), .val (.int p6), .val (.int c1), .val (.int (own_c1 ((p5.toUInt32 >>> ((8 : Int32) &&& 31).toUInt32).toInt32))), .unset, .unset, .unset, .unset, .unset] [])) _
 have r2 := own_c1r (((p5.toUInt32 >>> ((8 : Int32) &&& 31).toUInt32).toInt32))
 generalize own_c1 ((p5.toUInt32 >>> ((8 : Int32) &&& 31).toUInt32).toInt32) = c2 at r2 ⊢
 refine gO (fun t k => XS.iload X0.here hx rfl (hb hby d6_27) rfl k) ?_
 refine gO (fun t k => XS.iconst X0.here hx rfl (hb hby d6_29) k) ?_
 refine gO (fun t k => XS.iand X0.here hx rfl (hb hby d6_30) rfl k) ?_
 obtain ⟨v100, hv100⟩ : ∃ z : Int32, z = (if (p6 &&& (1 : Int32)) = (0 : Int32) then (0 : Int32) else (1 : Int32)) := ⟨_, rfl⟩
 refine Goes.of (S' := s₁.setTop (mkF m 39 #[.val (.ref a1), .val (.ref a2), .val (.int p3), .val (.int 1), .val (.int p5), .val (.int p6), .val (.int c1), .val (.int c2), .unset, .unset, .unset, .unset, .unset] [(.int v100)])) (fun t k => ?_) ?_
 ·by_cases hb101 : (p6 &&& (1 : Int32)) = (0 : Int32)
  ·refine XS.ifYes X0.here hx rfl (pc0 := 31) (pc' := 38) rfl (hb hby d6_31) rfl ((if0 _ _).trans (teq hb101).1) (by decide) (by decide) ?_
   show Steps p.tables e below (s₁.setTop (mkF m 38 #[.val (.ref a1), .val (.ref a2), .val (.int p3), .val (.int 1), .val (.int p5), .val (.int p6), .val (.int c1), .val (.int c2), .unset, .unset, .unset, .unset, .unset] [])) _
   refine XS.iconst X0.here hx rfl (hb hby d6_38) ?_
   show Steps p.tables e below (s₁.setTop (mkF m 39 #[.val (.ref a1), .val (.ref a2), .val (.int p3), .val (.int 1), .val (.int p5), .val (.int p6), .val (.int c1), .val (.int c2), .unset, .unset, .unset, .unset, .unset] [(.int 0)])) _
   simp only [if_pos hb101] at hv100; subst hv100
   exact k
  ·refine XS.ifNo X0.here hx rfl (hb hby d6_31) rfl ((if0 _ _).trans (feq hb101).1) ?_
   show Steps p.tables e below (s₁.setTop (mkF m 34 #[.val (.ref a1), .val (.ref a2), .val (.int p3), .val (.int 1), .val (.int p5), .val (.int p6), .val (.int c1), .val (.int c2), .unset, .unset, .unset, .unset, .unset] [])) _
   refine XS.iconst X0.here hx rfl (hb hby d6_34) ?_
   show Steps p.tables e below (s₁.setTop (mkF m 35 #[.val (.ref a1), .val (.ref a2), .val (.int p3), .val (.int 1), .val (.int p5), .val (.int p6), .val (.int c1), .val (.int c2), .unset, .unset, .unset, .unset, .unset] [(.int 1)])) _
   refine XS.goto X0.here hx rfl (pc0 := 35) (pc' := 39) rfl (hb hby d6_35) (by decide) (by decide) ?_
   show Steps p.tables e below (s₁.setTop (mkF m 39 #[.val (.ref a1), .val (.ref a2), .val (.int p3), .val (.int 1), .val (.int p5), .val (.int p6), .val (.int c1), .val (.int c2), .unset, .unset, .unset, .unset, .unset] [(.int 1)])) _
   simp only [if_neg hb101] at hv100; subst hv100
   exact k
 refine gO (fun t k => XS.istore X0.here hx rfl (hb hby d6_39) rfl (l' := #[.val (.ref a1), .val (.ref a2), .val (.int p3), .val (.int 1), .val (.int p5), .val (.int p6), .val (.int c1), .val (.int c2), .val (.int v100), .unset, .unset, .unset, .unset]) rfl k) ?_
 show Goes p e below (s₁.setTop (mkF m 41 #[.val (.ref a1), .val (.ref a2), .val (.int p3), .val (.int 1), .val (.int p5), .val (.int p6), .val (.int c1), .val (.int c2), .val (.int v100), .unset, .unset, .unset, .unset] [])) _
 refine gO (fun t k => XS.iload X0.here hx rfl (hb hby d6_41) rfl k) ?_
 refine gO (fun t k => XS.iconst X0.here hx rfl (hb hby d6_43) k) ?_
 refine gO (fun t k => XS.iand X0.here hx rfl (hb hby d6_44) rfl k) ?_
 obtain ⟨v102, hv102⟩ : ∃ z : Int32, z = (if (p6 &&& (2 : Int32)) = (0 : Int32) then (0 : Int32) else (1 : Int32)) := ⟨_, rfl⟩
 refine Goes.of (S' := s₁.setTop (mkF m 53 #[.val (.ref a1), .val (.ref a2), .val (.int p3), .val (.int 1), .val (.int p5), .val (.int p6), .val (.int c1), .val (.int c2), .val (.int v100), .unset, .unset, .unset, .unset] [(.int v102)])) (fun t k => ?_) ?_
 ·by_cases hb103 : (p6 &&& (2 : Int32)) = (0 : Int32)
  ·refine XS.ifYes X0.here hx rfl (pc0 := 45) (pc' := 52) rfl (hb hby d6_45) rfl ((if0 _ _).trans (teq hb103).1) (by decide) (by decide) ?_
   show Steps p.tables e below (s₁.setTop (mkF m 52 #[.val (.ref a1), .val (.ref a2), .val (.int p3), .val (.int 1), .val (.int p5), .val (.int p6), .val (.int c1), .val (.int c2), .val (.int v100), .unset, .unset, .unset, .unset] [])) _
   refine XS.iconst X0.here hx rfl (hb hby d6_52) ?_
   show Steps p.tables e below (s₁.setTop (mkF m 53 #[.val (.ref a1), .val (.ref a2), .val (.int p3), .val (.int 1), .val (.int p5), .val (.int p6), .val (.int c1), .val (.int c2), .val (.int v100), .unset, .unset, .unset, .unset] [(.int 0)])) _
   simp only [if_pos hb103] at hv102; subst hv102
   exact k
  ·refine XS.ifNo X0.here hx rfl (hb hby d6_45) rfl ((if0 _ _).trans (feq hb103).1) ?_
   show Steps p.tables e below (s₁.setTop (mkF m 48 #[.val (.ref a1), .val (.ref a2), .val (.int p3), .val (.int 1), .val (.int p5), .val (.int p6), .val (.int c1), .val (.int c2), .val (.int v100), .unset, .unset, .unset, .unset] [])) _
   refine XS.iconst X0.here hx rfl (hb hby d6_48) ?_
   show Steps p.tables e below (s₁.setTop (mkF m 49 #[.val (.ref a1), .val (.ref a2), .val (.int p3), .val (.int 1), .val (.int p5), .val (.int p6), .val (.int c1), .val (.int c2), .val (.int v100), .unset, .unset, .unset, .unset] [(.int 1)])) _
   refine XS.goto X0.here hx rfl (pc0 := 49) (pc' := 53) rfl (hb hby d6_49) (by decide) (by decide) ?_
   show Steps p.tables e below (s₁.setTop (mkF m 53 #[.val (.ref a1), .val (.ref a2), .val (.int p3), .val (.int 1), .val (.int p5), .val (.int p6), .val (.int c1), .val (.int c2), .val (.int v100), .unset, .unset, .unset, .unset] [(.int 1)])) _
   simp only [if_neg hb103] at hv102; subst hv102
   exact k
 refine gO (fun t k => XS.istore X0.here hx rfl (hb hby d6_53) rfl (l' := #[.val (.ref a1), .val (.ref a2), .val (.int p3), .val (.int 1), .val (.int p5), .val (.int p6), .val (.int c1), .val (.int c2), .val (.int v100), .val (.int v102), .unset, .unset, .unset]) rfl k) ?_
 show Goes p e below (s₁.setTop (mkF m 55 #[.val (.ref a1), .val (.ref a2), .val (.int p3), .val (.int 1), .val (.int p5), .val (.int p6), .val (.int c1), .val (.int c2), .val (.int v100), .val (.int v102), .unset, .unset, .unset] [])) _
 refine gO (fun t k => XS.iload X0.here hx rfl (hb hby d6_55) rfl k) ?_
 have J150 : ∀ (T150 : State) (L150 : List Loc) (h150 : Heap) (v150 : Vm) (k150 : Nat) (x bx : Addr) (kx : ClassId) (zx : Int32) (ks : List Int32) (X150 : Stand p l e (⟨6, 6, 30, 83⟩ : Room) (s.setVm v150) m #[(.ref a1), (.ref a2), (.int p3), (.int 1), (.int p5), (.int p6)] below meth c T150 L150 2 5) (e150 : T150.heap = h150) (N150 : Fr n0 L150) (K150 : Keep h0 h150 [l1, l2, a2]) (z150 : n0 ≤ h150.size) (hS150 : s.Since v150 k150) (y150 : k150 ≤ h150.size) (hZ : Z.Warmed39 (s.setVm v150).vm) (hown : (s.setVm v150).vm.findClass "com/example/hinta/hinta/StatementTextPinLaw" = some m.cls) (C150 : CHr Z consts_1 s.vm h0 v150 h150) (f151 : Old Z n0 h150) (f152 : Fl3 Z h150 a1 (.ref l1)) (f153 : Fl4 Z h150 a1 (.ref l2)) (f154 : Exa Z h150 a1 "com/example/hinta/hinta/Statement") (f155 : Fl0 Z h150 l1 (.ref aE)) (f156 : Fl1 Z h150 l1 (.int 0)) (f157 : Fl2 Z h150 l1 (.int 0)) (f158 : Exa Z h150 l1 "java/util/ArrayList") (f159 : Fl0 Z h150 l2 (.ref aE)) (f160 : Fl1 Z h150 l2 (.int 0)) (f161 : Fl2 Z h150 l2 (.int 0)) (f162 : Exa Z h150 l2 "java/util/ArrayList") (f163 : Arv Z h150 a2 kc .char (12 : Int32) (own_vc us) (.int (0 : Int32))) (f164 : Exa Z h150 x "java/lang/String") (f165 : Fl5 Z h150 x (.int 0)) (f166 : Fl6 Z h150 x (.ref bx)) (f167 : Arv Z h150 bx kx .byte zx (own_vb ks) (.int (0 : Int32))) (hzk : zx.toInt = ks.length) (hlk : ks.length ≤ 1) (ltk : own_lat ks) (hkk : (v100 = 0 → ks = []) ∧ (v100 ≠ 0 → ks = [c1])), Goes p e below (T150.setTop (mkF m 72 #[.val (.ref a1), .val (.ref a2), .val (.int p3), .val (.int 1), .val (.int p5), .val (.int p6), .val (.int c1), .val (.int c2), .val (.int v100), .val (.int v102), .val (.ref x), .unset, .unset] [])) (FinH Z consts_1 s (Q6_73 Z a1 a2 p3 p5 p6 cmS kc us aE kE l1 l2 h0 n0) (⟨6, 6, 30, 83⟩ : Room).cells (⟨6, 6, 30, 83⟩ : Room).slots) := by
  intro T150 L150 h150 v150 k150 x bx kx zx ks X150 e150 N150 K150 z150 hS150 y150 hZ hown C150 f151 f152 f153 f154 f155 f156 f157 f158 f159 f160 f161 f162 f163 f164 f165 f166 f167 hzk hlk ltk hkk
  refine gO (fun t k => XS.iload X150.here hx rfl (hb hby d6_72) rfl k) ?_
  have J224 : ∀ (T224 : State) (L224 : List Loc) (h224 : Heap) (v224 : Vm) (k224 : Nat) (y by_ : Addr) (ky : ClassId) (zy : Int32) (vs : List Int32) (X224 : Stand p l e (⟨6, 6, 30, 83⟩ : Room) (s.setVm v224) m #[(.ref a1), (.ref a2), (.int p3), (.int 1), (.int p5), (.int p6)] below meth c T224 L224 4 10) (e224 : T224.heap = h224) (N224 : Fr n0 L224) (K224 : Keep h0 h224 [l1, l2, a2]) (z224 : n0 ≤ h224.size) (hS224 : s.Since v224 k224) (y224 : k224 ≤ h224.size) (hZ : Z.Warmed39 (s.setVm v224).vm) (hown : (s.setVm v224).vm.findClass "com/example/hinta/hinta/StatementTextPinLaw" = some m.cls) (C224 : CHr Z consts_1 s.vm h0 v224 h224) (f225 : Old Z n0 h224) (f226 : Fl3 Z h224 a1 (.ref l1)) (f227 : Fl4 Z h224 a1 (.ref l2)) (f228 : Exa Z h224 a1 "com/example/hinta/hinta/Statement") (f229 : Fl0 Z h224 l1 (.ref aE)) (f230 : Fl1 Z h224 l1 (.int 0)) (f231 : Fl2 Z h224 l1 (.int 0)) (f232 : Exa Z h224 l1 "java/util/ArrayList") (f233 : Fl0 Z h224 l2 (.ref aE)) (f234 : Fl1 Z h224 l2 (.int 0)) (f235 : Fl2 Z h224 l2 (.int 0)) (f236 : Exa Z h224 l2 "java/util/ArrayList") (f237 : Arv Z h224 a2 kc .char (12 : Int32) (own_vc us) (.int (0 : Int32))) (f238 : Exa Z h224 x "java/lang/String") (f239 : Fl5 Z h224 x (.int 0)) (f240 : Fl6 Z h224 x (.ref bx)) (f241 : Arv Z h224 bx kx .byte zx (own_vb ks) (.int (0 : Int32))) (f242 : Exa Z h224 y "java/lang/String") (f243 : Fl5 Z h224 y (.int 0)) (f244 : Fl6 Z h224 y (.ref by_)) (f245 : Arv Z h224 by_ ky .byte zy (own_vb vs) (.int (0 : Int32))) (hzv : zy.toInt = vs.length) (hlv : vs.length ≤ 1) (ltv : own_lat vs) (hkv : (v102 = 0 → vs = []) ∧ (v102 ≠ 0 → vs = [c2])), Goes p e below (T224.setTop (mkF m 89 #[.val (.ref a1), .val (.ref a2), .val (.int p3), .val (.int 1), .val (.int p5), .val (.int p6), .val (.int c1), .val (.int c2), .val (.int v100), .val (.int v102), .val (.ref x), .val (.ref y), .unset] [])) (FinH Z consts_1 s (Q6_73 Z a1 a2 p3 p5 p6 cmS kc us aE kE l1 l2 h0 n0) (⟨6, 6, 30, 83⟩ : Room).cells (⟨6, 6, 30, 83⟩ : Room).slots) := by
   intro T224 L224 h224 v224 k224 y by_ ky zy vs X224 e224 N224 K224 z224 hS224 y224 hZ hown C224 f225 f226 f227 f228 f229 f230 f231 f232 f233 f234 f235 f236 f237 f238 f239 f240 f241 f242 f243 f244 f245 hzv hlv ltv hkv
   refine gO (fun t k => XS.aloadN X224.here hx rfl (hb hby d6_89) rfl rfl k) ?_
   refine gO (fun t k => XS.aload X224.here hx rfl (hb hby d6_90) rfl rfl k) ?_
   refine gO (fun t k => XS.aload X224.here hx rfl (hb hby d6_92) rfl rfl k) ?_
   obtain ⟨cq246, kq246, q246a, q246b, q246c⟩ := isOf hZ e224 f228
   obtain ⟨_, _, ⟨T246, L246, k246, n246⟩, -, X246, ⟨Lc246, hQ246, l246, y246, z246⟩, st246⟩ := X224.virtualBack hx (y := mn9) (z := mn9) hown (mvT hZ (wd hw 164 rfl)) (mvT hZ (wd hw 165 rfl)) (notFace_of_selects (args := #[]) (mvT hZ (wd hw 167 rfl))) (mvT hZ (wd hw 167 rfl)) (mvT hZ (wd hw 166 rfl)) (by decide) (backOf (W := 0) (rm29 l Z a0 hw [] a1 x y aE kE l1 l2 h224 n0 z224 f225 SE AE f228 f226 f227 f232 f229 f230 f231 f236 f233 f234 f235 ne G_l1 G_l2 f238 f242) hZ (wd hw 168 rfl) (wd hw 3 rfl) (by decide) (by decide)) q246a q246c (g := (mkF m 94 #[.val (.ref a1), .val (.ref a2), .val (.int p3), .val (.int 1), .val (.int p5), .val (.int p6), .val (.int c1), .val (.int c2), .val (.int v100), .val (.int v102), .val (.ref x), .val (.ref y), .unset] [(.ref y), (.ref x), (.ref a1)])) rfl (by rw [hml]; rfl) (Steps.refl _) (argsL := [(.ref x), (.ref y)]) (rest := []) (lenOf pd_43 rfl) rfl (wr0 rfl rfl) (hb hby d6_94) (fun _ _ => ⟨rfl, e224, (by decide : 4 + 2 ≤ _), (by decide : 10 + 20 ≤ _)⟩)
   dsimp only [Pt.U, Pt.locs, Pt.cells, Pt.slots] at X246 l246 y246 z246 st246 hQ246
   subst l246 y246 z246
   obtain ⟨d1246, k1246, d2246, k2246, rfl, N246q, K246, z1246, z2246, nd246, O1246, O2246, E246s, F246s_k, F246s_v, E246l1, F246l1_e, F246l1_s, F246l1_m, E246l2, F246l2_e, F246l2_s, F246l2_m, V1246, V2246⟩ := hQ246
   have N246 := Fr.app N224 N246q
   have q251 : a2 ≠ d1246 := Nat.ne_of_lt (Nat.lt_of_lt_of_le f237.lt z1246)
   have z257 : h0.size ≤ d1246 := Nat.le_trans K224.1 z1246
   have q262 : a2 ≠ d2246 := Nat.ne_of_lt (Nat.lt_of_lt_of_le f237.lt z2246)
   have z268 : h0.size ≤ d2246 := Nat.le_trans K224.1 z2246
   have K269 : Keep h0 T246.heap [l1, l2, a2] := K224.trans K246 (allS (Or.inl (List.mem_of_getElem? (i := 0) rfl)) (allS (Or.inl (List.mem_of_getElem? (i := 1) rfl)) all0))
   have q272 : a2 ≠ l1 := Ne.symm (Exa.neArv f232 f237 (wd hw 11 rfl))
   have q273 : x ≠ l1 := Exa.ne f238 f232 (by decide)
   have q274 : bx ≠ l1 := Ne.symm (Exa.neArv f232 f241 (wd hw 11 rfl))
   have q275 : y ≠ l1 := Exa.ne f242 f232 (by decide)
   have q276 : by_ ≠ l1 := Ne.symm (Exa.neArv f232 f245 (wd hw 11 rfl))
   have q279 : a2 ≠ l2 := Ne.symm (Exa.neArv f236 f237 (wd hw 11 rfl))
   have q280 : x ≠ l2 := Exa.ne f238 f236 (by decide)
   have q281 : bx ≠ l2 := Ne.symm (Exa.neArv f236 f241 (wd hw 11 rfl))
   have q282 : y ≠ l2 := Exa.ne f242 f236 (by decide)
   have q283 : by_ ≠ l2 := Ne.symm (Exa.neArv f236 f245 (wd hw 11 rfl))
   have z284 := Nat.le_trans z224 K246.1
   have z285 := Nat.le_trans y224 K246.1
   have C286 := C224.trans (CHr.keep K246 (sfS (Safe.exa hZ.alike f232 (by decide) (by decide)) (sfS (Safe.exa hZ.alike f236 (by decide) (by decide)) sf0)) C224.1)
   have f287 := f225.keep K246 (allS G_l1 (allS G_l2 all0))
   have f299 := f237.keep K246 (ninS q272 (ninS q279 nin0))
   have f300 := f238.keep K246
   have f301 := f239.keep K246 (ninS q273 (ninS q280 nin0))
   have f302 := f240.keep K246 (ninS q273 (ninS q280 nin0))
   have f303 := f241.keep K246 (ninS q274 (ninS q281 nin0))
   have f304 := f242.keep K246
   have f305 := f243.keep K246 (ninS q275 (ninS q282 nin0))
   have f306 := f244.keep K246 (ninS q275 (ninS q282 nin0))
   have f307 := f245.keep K246 (ninS q276 (ninS q283 nin0))
   refine Goes.of (fun t k => st246.trans k) ?_
   refine gO (fun t k => XS.pop X246.here hx rfl (hb hby d6_97) rfl rfl k) ?_
   refine gO (fun t k => XS.iloadN X246.here hx rfl (hb hby d6_98) rfl k) ?_
   show Goes p e below (T246.setTop (mkF m 99 #[.val (.ref a1), .val (.ref a2), .val (.int p3), .val (.int 1), .val (.int p5), .val (.int p6), .val (.int c1), .val (.int c2), .val (.int v100), .val (.int v102), .val (.ref x), .val (.ref y), .unset] [(.int p3)])) _
   refine gO (fun t k => XS.istore X246.here hx rfl (hb hby d6_99) rfl (l' := #[.val (.ref a1), .val (.ref a2), .val (.int p3), .val (.int 1), .val (.int p5), .val (.int p6), .val (.int c1), .val (.int c2), .val (.int v100), .val (.int v102), .val (.ref x), .val (.ref y), .val (.int p3)]) rfl k) ?_
   refine gO (fun t k => XS.iload X246.here hx rfl (hb hby d6_101) rfl k) ?_
   have J350 : ∀ (T350 : State) (L350 : List Loc) (h350 : Heap) (v350 : Vm) (k350 : Nat) (n3 : Int32) (X350 : Stand p l e (⟨6, 6, 30, 83⟩ : Room) (s.setVm v350) m #[(.ref a1), (.ref a2), (.int p3), (.int 1), (.int p5), (.int p6)] below meth c T350 L350 6 30) (e350 : T350.heap = h350) (N350 : Fr n0 L350) (K350 : Keep h0 h350 [l1, l2, a2]) (z350 : n0 ≤ h350.size) (hS350 : s.Since v350 k350) (y350 : k350 ≤ h350.size) (hZ : Z.Warmed39 (s.setVm v350).vm) (hown : (s.setVm v350).vm.findClass "com/example/hinta/hinta/StatementTextPinLaw" = some m.cls) (C350 : CHr Z consts_1 s.vm h0 v350 h350) (f351 : Old Z n0 h350) (f352 : Fl3 Z h350 a1 (.ref l1)) (f353 : Fl4 Z h350 a1 (.ref l2)) (f354 : Exa Z h350 a1 "com/example/hinta/hinta/Statement") (f355 : Exa Z h350 l1 "java/util/ArrayList") (f356 : Exa Z h350 l2 "java/util/ArrayList") (f357 : Arv Z h350 a2 kc .char (12 : Int32) (own_vc (us ++ ks)) (.int (0 : Int32))) (f358 : Exa Z h350 x "java/lang/String") (f359 : Fl5 Z h350 x (.int 0)) (f360 : Fl6 Z h350 x (.ref bx)) (f361 : Arv Z h350 bx kx .byte zx (own_vb ks) (.int (0 : Int32))) (f362 : Exa Z h350 y "java/lang/String") (f363 : Fl5 Z h350 y (.int 0)) (f364 : Fl6 Z h350 y (.ref by_)) (f365 : Arv Z h350 by_ ky .byte zy (own_vb vs) (.int (0 : Int32))) (f366 : Fl0 Z h350 l1 (.ref d1246)) (f367 : Fl1 Z h350 l1 (.int 1)) (f368 : Fl2 Z h350 l1 (.int 1)) (f369 : Arv Z h350 d1246 k1246 (.object "java/lang/Object") (10 : Int32) [(.ref x), .null, .null, .null, .null, .null, .null, .null, .null, .null] .null) (f370 : Fl0 Z h350 l2 (.ref d2246)) (f371 : Fl1 Z h350 l2 (.int 1)) (f372 : Fl2 Z h350 l2 (.int 1)) (f373 : Arv Z h350 d2246 k2246 (.object "java/lang/Object") (10 : Int32) [(.ref y), .null, .null, .null, .null, .null, .null, .null, .null, .null] .null) (hn3 : n3.toInt = ((us ++ ks) : List Int32).length), Goes p e below (T350.setTop (mkF m 118 #[.val (.ref a1), .val (.ref a2), .val (.int p3), .val (.int 1), .val (.int p5), .val (.int p6), .val (.int c1), .val (.int c2), .val (.int v100), .val (.int v102), .val (.ref x), .val (.ref y), .val (.int n3)] [])) (FinH Z consts_1 s (Q6_73 Z a1 a2 p3 p5 p6 cmS kc us aE kE l1 l2 h0 n0) (⟨6, 6, 30, 83⟩ : Room).cells (⟨6, 6, 30, 83⟩ : Room).slots) := by
    intro T350 L350 h350 v350 k350 n3 X350 e350 N350 K350 z350 hS350 y350 hZ hown C350 f351 f352 f353 f354 f355 f356 f357 f358 f359 f360 f361 f362 f363 f364 f365 f366 f367 f368 f369 f370 f371 f372 f373 hn3
    refine gO (fun t k => XS.aloadN X350.here hx rfl (hb hby d6_118) rfl rfl k) ?_
    refine gO (fun t k => XS.iload X350.here hx rfl (hb hby d6_119) rfl k) ?_
    refine gO (fun t k => XS.bipush X350.here hx rfl (hb hby d6_121) k) ?_
    have Vc374 := f357
    obtain ⟨clc374, Arc374, qc374, Sc374, Nc374, Hc374, Gc374⟩ := Vc374
    have hin375j : (n3).toNatClampNeg = (own_vc (us ++ ks)).length := (own_cl hn3).trans (own_lvc _).symm
    have hin375 : ¬ (n3 < 0 ∨ clc374.slots.size ≤ (n3).toNatClampNeg) := inb_of Sc374 ⟨own_nn hn3, Int32.lt_iff_toInt_lt.mpr (by have e : (12 : Int32).toInt = 12 := (by decide); have e1 : (n3).toInt = ((us ++ ks) : List Int32).length := hn3; revert e1; (try simp only [List.length_append, List.length_nil, List.length_cons]); intro e1; omega)⟩
    obtain ⟨T376, h376, X376, e376, W376, st376⟩ := stC X350 hx hZ e350 Arc374 (j := n3) hin375 (g := (mkF m 123 #[.val (.ref a1), .val (.ref a2), .val (.int p3), .val (.int 1), .val (.int p5), .val (.int p6), .val (.int c1), .val (.int c2), .val (.int v100), .val (.int v102), .val (.ref x), .val (.ref y), .val (.int n3)] [(.int 32), (.int n3), (.ref a2)])) rfl rfl (hb hby d6_123)
    have V376 := own_push Arc374 qc374 Sc374 Nc374 Hc374 Gc374 (fits_nar_char _) W376 hin375j
    have V376 : Arv Z h376 a2 kc .char (12 : Int32) (own_vc ((us ++ ks) ++ [32])) (.int (0 : Int32)) := by have q : Arv Z _ _ _ .char (12 : Int32) (own_vc (us ++ ks) ++ [.int (nar .char 32)]) (.int (0 : Int32)) := V376; rw [own_nch 32 (by decide) (by decide)] at q; rw [← own_vcc]; exact q
    have K377 : Keep h0 h376 [l1, l2, a2] := K350.wr W376 (Or.inl (List.mem_of_getElem? (i := 2) rfl))
    have q379 : a1 ≠ a2 := Exa.neArv f354 f357 (wd hw 2 rfl)
    have q380 : x ≠ a2 := Exa.neArv f358 f357 (wd hw 84 rfl)
    have q381 : bx ≠ a2 := own_arvty f361 f357 (by decide)
    have q382 : y ≠ a2 := Exa.neArv f362 f357 (wd hw 84 rfl)
    have q383 : by_ ≠ a2 := own_arvty f365 f357 (by decide)
    have z384 := Nat.le_trans z350 (Keep.of_wr W376).1
    have z385 := Nat.le_trans y350 (Keep.of_wr W376).1
    have C386 := C350.trans (CHr.wr W376 (Safe.arv hZ.alike f357 (by decide)) C350.1)
    have f387 := f351.wr W376 G_a2
    have f388 := f352.other W376 (Or.inl q379)
    have f389 := f353.other W376 (Or.inl q379)
    have f390 := f354.wr W376
    have f391 := f355.wr W376
    have f392 := f356.wr W376
    have f394 := f358.wr W376
    have f395 := f359.other W376 (Or.inl q380)
    have f396 := f360.other W376 (Or.inl q380)
    have f397 := f361.other W376 q381
    have f398 := f362.wr W376
    have f399 := f363.other W376 (Or.inl q382)
    have f400 := f364.other W376 (Or.inl q382)
    have f401 := f365.other W376 q383
    have f402 := f366.other W376 (Or.inl (Ne.symm q272))
    have f403 := f367.other W376 (Or.inl (Ne.symm q272))
    have f404 := f368.other W376 (Or.inl (Ne.symm q272))
    have f405 := f369.other W376 (Ne.symm q251)
    have f406 := f370.other W376 (Or.inl (Ne.symm q279))
    have f407 := f371.other W376 (Or.inl (Ne.symm q279))
    have f408 := f372.other W376 (Or.inl (Ne.symm q279))
    have f409 := f373.other W376 (Ne.symm q262)
    have N376 := Fr.snoc X376 N350 G_a2
    refine Goes.of st376 ?_
    have hi410 : (n3 + (1 : Int32)).toInt = (((us ++ ks) ++ [32]) : List Int32).length := by
      have e1 : (1 : Int32).toInt = 1 := by decide
      have e2 : (n3).toInt = ((us ++ ks) : List Int32).length := hn3
      have e3 := hn3
      revert e2; (try simp only [List.length_append, List.length_nil, List.length_cons]); intro e2
      rw [Jvm.Kit.i32_add (by omega) (by omega)]; omega
    refine gO (fun t k => XS.iload X376.here hx rfl (hb hby d6_124) rfl k) ?_
    show Goes p e below (T376.setTop (mkF m 126 #[.val (.ref a1), .val (.ref a2), .val (.int p3), .val (.int 1), .val (.int p5), .val (.int p6), .val (.int c1), .val (.int c2), .val (.int v100), .val (.int v102), .val (.ref x), .val (.ref y), .val (.int n3)] [(.int n3)])) _
    refine gO (fun t k => XS.iconst X376.here hx rfl (hb hby d6_126) k) ?_
    refine gO (fun t k => XS.iadd X376.here hx rfl (hb hby d6_127) rfl k) ?_
    refine gO (fun t k => XS.istore X376.here hx rfl (hb hby d6_128) rfl (l' := #[.val (.ref a1), .val (.ref a2), .val (.int p3), .val (.int 1), .val (.int p5), .val (.int p6), .val (.int c1), .val (.int c2), .val (.int v100), .val (.int v102), .val (.ref x), .val (.ref y), .val (.int (n3 + (1 : Int32)))]) rfl k) ?_
    refine gO (fun t k => XS.iload X376.here hx rfl (hb hby d6_130) rfl k) ?_
    have J447 : ∀ (T447 : State) (L447 : List Loc) (h447 : Heap) (v447 : Vm) (k447 : Nat) (n4 : Int32) (X447 : Stand p l e (⟨6, 6, 30, 83⟩ : Room) (s.setVm v447) m #[(.ref a1), (.ref a2), (.int p3), (.int 1), (.int p5), (.int p6)] below meth c T447 L447 6 30) (e447 : T447.heap = h447) (N447 : Fr n0 L447) (K447 : Keep h0 h447 [l1, l2, a2]) (z447 : n0 ≤ h447.size) (hS447 : s.Since v447 k447) (y447 : k447 ≤ h447.size) (hZ : Z.Warmed39 (s.setVm v447).vm) (hown : (s.setVm v447).vm.findClass "com/example/hinta/hinta/StatementTextPinLaw" = some m.cls) (C447 : CHr Z consts_1 s.vm h0 v447 h447) (f448 : Old Z n0 h447) (f449 : Fl3 Z h447 a1 (.ref l1)) (f450 : Fl4 Z h447 a1 (.ref l2)) (f451 : Exa Z h447 a1 "com/example/hinta/hinta/Statement") (f452 : Exa Z h447 l1 "java/util/ArrayList") (f453 : Exa Z h447 l2 "java/util/ArrayList") (f454 : Arv Z h447 a2 kc .char (12 : Int32) (own_vc (((us ++ ks) ++ [32]) ++ vs)) (.int (0 : Int32))) (f455 : Exa Z h447 x "java/lang/String") (f456 : Fl5 Z h447 x (.int 0)) (f457 : Fl6 Z h447 x (.ref bx)) (f458 : Arv Z h447 bx kx .byte zx (own_vb ks) (.int (0 : Int32))) (f459 : Exa Z h447 y "java/lang/String") (f460 : Fl5 Z h447 y (.int 0)) (f461 : Fl6 Z h447 y (.ref by_)) (f462 : Arv Z h447 by_ ky .byte zy (own_vb vs) (.int (0 : Int32))) (f463 : Fl0 Z h447 l1 (.ref d1246)) (f464 : Fl1 Z h447 l1 (.int 1)) (f465 : Fl2 Z h447 l1 (.int 1)) (f466 : Arv Z h447 d1246 k1246 (.object "java/lang/Object") (10 : Int32) [(.ref x), .null, .null, .null, .null, .null, .null, .null, .null, .null] .null) (f467 : Fl0 Z h447 l2 (.ref d2246)) (f468 : Fl1 Z h447 l2 (.int 1)) (f469 : Fl2 Z h447 l2 (.int 1)) (f470 : Arv Z h447 d2246 k2246 (.object "java/lang/Object") (10 : Int32) [(.ref y), .null, .null, .null, .null, .null, .null, .null, .null, .null] .null) (hn4 : n4.toInt = ((((us ++ ks) ++ [32]) ++ vs) : List Int32).length), Goes p e below (T447.setTop (mkF m 147 #[.val (.ref a1), .val (.ref a2), .val (.int p3), .val (.int 1), .val (.int p5), .val (.int p6), .val (.int c1), .val (.int c2), .val (.int v100), .val (.int v102), .val (.ref x), .val (.ref y), .val (.int n4)] [])) (FinH Z consts_1 s (Q6_73 Z a1 a2 p3 p5 p6 cmS kc us aE kE l1 l2 h0 n0) (⟨6, 6, 30, 83⟩ : Room).cells (⟨6, 6, 30, 83⟩ : Room).slots) := by
     intro T447 L447 h447 v447 k447 n4 X447 e447 N447 K447 z447 hS447 y447 hZ hown C447 f448 f449 f450 f451 f452 f453 f454 f455 f456 f457 f458 f459 f460 f461 f462 f463 f464 f465 f466 f467 f468 f469 f470 hn4
     refine gO (fun t k => XS.aloadN X447.here hx rfl (hb hby d6_147) rfl rfl k) ?_
     refine gO (fun t k => XS.iload X447.here hx rfl (hb hby d6_148) rfl k) ?_
     refine gO (fun t k => XS.bipush X447.here hx rfl (hb hby d6_150) k) ?_
     have Vc471 := f454
     obtain ⟨clc471, Arc471, qc471, Sc471, Nc471, Hc471, Gc471⟩ := Vc471
     have hin472j : (n4).toNatClampNeg = (own_vc (((us ++ ks) ++ [32]) ++ vs)).length := (own_cl hn4).trans (own_lvc _).symm
     have hin472 : ¬ (n4 < 0 ∨ clc471.slots.size ≤ (n4).toNatClampNeg) := inb_of Sc471 ⟨own_nn hn4, Int32.lt_iff_toInt_lt.mpr (by have e : (12 : Int32).toInt = 12 := (by decide); have e1 : (n4).toInt = ((((us ++ ks) ++ [32]) ++ vs) : List Int32).length := hn4; revert e1; (try simp only [List.length_append, List.length_nil, List.length_cons]); intro e1; omega)⟩
     obtain ⟨T473, h473, X473, e473, W473, st473⟩ := stC X447 hx hZ e447 Arc471 (j := n4) hin472 (g := (mkF m 152 #[.val (.ref a1), .val (.ref a2), .val (.int p3), .val (.int 1), .val (.int p5), .val (.int p6), .val (.int c1), .val (.int c2), .val (.int v100), .val (.int v102), .val (.ref x), .val (.ref y), .val (.int n4)] [(.int 10), (.int n4), (.ref a2)])) rfl rfl (hb hby d6_152)
     have V473 := own_push Arc471 qc471 Sc471 Nc471 Hc471 Gc471 (fits_nar_char _) W473 hin472j
     have V473 : Arv Z h473 a2 kc .char (12 : Int32) (own_vc ((((us ++ ks) ++ [32]) ++ vs) ++ [10])) (.int (0 : Int32)) := by have q : Arv Z _ _ _ .char (12 : Int32) (own_vc (((us ++ ks) ++ [32]) ++ vs) ++ [.int (nar .char 10)]) (.int (0 : Int32)) := V473; rw [own_nch 10 (by decide) (by decide)] at q; rw [← own_vcc]; exact q
     have K474 : Keep h0 h473 [l1, l2, a2] := K447.wr W473 (Or.inl (List.mem_of_getElem? (i := 2) rfl))
     have z476 := Nat.le_trans y447 (Keep.of_wr W473).1
     have C477 := C447.trans (CHr.wr W473 (Safe.arv hZ.alike f454 (by decide)) C447.1)
     have f479 := f449.other W473 (Or.inl q379)
     have f480 := f450.other W473 (Or.inl q379)
     have f481 := f451.wr W473
     have f482 := f452.wr W473
     have f483 := f453.wr W473
     have f485 := f455.wr W473
     have f486 := f456.other W473 (Or.inl q380)
     have f487 := f457.other W473 (Or.inl q380)
     have f488 := f458.other W473 q381
     have f489 := f459.wr W473
     have f490 := f460.other W473 (Or.inl q382)
     have f491 := f461.other W473 (Or.inl q382)
     have f492 := f462.other W473 q383
     have f493 := f463.other W473 (Or.inl (Ne.symm q272))
     have f494 := f464.other W473 (Or.inl (Ne.symm q272))
     have f495 := f465.other W473 (Or.inl (Ne.symm q272))
     have f496 := f466.other W473 (Ne.symm q251)
     have f497 := f467.other W473 (Or.inl (Ne.symm q279))
     have f498 := f468.other W473 (Or.inl (Ne.symm q279))
     have f499 := f469.other W473 (Or.inl (Ne.symm q279))
     have f500 := f470.other W473 (Ne.symm q262)
     have N473 := Fr.snoc X473 N447 G_a2
     refine Goes.of st473 ?_
     have hi501 : (n4 + (1 : Int32)).toInt = (((((us ++ ks) ++ [32]) ++ vs) ++ [10]) : List Int32).length := by
       have e1 : (1 : Int32).toInt = 1 := by decide
       have e2 : (n4).toInt = ((((us ++ ks) ++ [32]) ++ vs) : List Int32).length := hn4
       have e3 := hn4
       revert e2; (try simp only [List.length_append, List.length_nil, List.length_cons]); intro e2
       rw [Jvm.Kit.i32_add (by omega) (by omega)]; omega
     refine gO (fun t k => XS.iload X473.here hx rfl (hb hby d6_153) rfl k) ?_
     show Goes p e below (T473.setTop (mkF m 155 #[.val (.ref a1), .val (.ref a2), .val (.int p3), .val (.int 1), .val (.int p5), .val (.int p6), .val (.int c1), .val (.int c2), .val (.int v100), .val (.int v102), .val (.ref x), .val (.ref y), .val (.int n4)] [(.int n4)])) _
     refine gO (fun t k => XS.iconst X473.here hx rfl (hb hby d6_155) k) ?_
     refine gO (fun t k => XS.iadd X473.here hx rfl (hb hby d6_156) rfl k) ?_
     refine gO (fun t k => XS.istore X473.here hx rfl (hb hby d6_157) rfl (l' := #[.val (.ref a1), .val (.ref a2), .val (.int p3), .val (.int 1), .val (.int p5), .val (.int p6), .val (.int c1), .val (.int c2), .val (.int v100), .val (.int v102), .val (.ref x), .val (.ref y), .val (.int (n4 + (1 : Int32)))]) rfl k) ?_
     refine gO (fun t k => XS.iload X473.here hx rfl (hb hby d6_159) rfl k) ?_
     show Goes p e below (T473.setTop (mkF m 161 #[.val (.ref a1), .val (.ref a2), .val (.int p3), .val (.int 1), .val (.int p5), .val (.int p6), .val (.int c1), .val (.int c2), .val (.int v100), .val (.int v102), .val (.ref x), .val (.ref y), .val (.int (n4 + (1 : Int32)))] [(.int (n4 + (1 : Int32)))])) _
     have eh : T473.heap = h473 := e473
     have eh : T473.heap = h473 := e473
     have hCH : CHr Z consts_1 s.vm s.heap T473.vm T473.heap := by rw [eh, hh]; exact C477.trans (CHv.at X473 hZ (own_EW hw) C477.1)
     exact Goes.retIH X473 hS447 (by rw [e473]; exact z476) hx Bd.returns hlocks (hb hby d6_161) (⟨x, bx, _, zx, ks, y, by_, _, zy, vs, _, d1246, _, d2246, _, rfl, N473, by rw [eh]; exact K474, hi501, hzk, hlk, ltk, hzv, hlv, ltv, z257, z268, nd246, O1246, O2246, by rw [eh]; exact f485, by rw [eh]; exact f486, by rw [eh]; exact f487, by rw [eh]; exact f488, by rw [eh]; exact f489, by rw [eh]; exact f490, by rw [eh]; exact f491, by rw [eh]; exact f492, by rw [eh]; exact f481, by rw [eh]; exact f479, by rw [eh]; exact f480, by rw [eh]; exact f482, by rw [eh]; exact f493, by rw [eh]; exact f494, by rw [eh]; exact f495, by rw [eh]; exact f483, by rw [eh]; exact f497, by rw [eh]; exact f498, by rw [eh]; exact f499, by rw [eh]; exact f496, by rw [eh]; exact f500, by rw [eh]; exact V473⟩) (hCH) (by decide) (by decide)
    by_cases hc132_411 : v102 = (0 : Int32)
    ·refine gO (fun t k => XS.ifYes X376.here hx rfl (pc0 := 132) (pc' := 147) rfl (hb hby d6_132) rfl ((if0 _ _).trans (teq hc132_411).1) (by decide) (by decide) k) ?_
     show Goes p e below (T376.setTop (mkF m 147 #[.val (.ref a1), .val (.ref a2), .val (.int p3), .val (.int 1), .val (.int p5), .val (.int p6), .val (.int c1), .val (.int c2), .val (.int v100), .val (.int v102), .val (.ref x), .val (.ref y), .val (.int (n3 + (1 : Int32)))] [])) _
     have V412 : Arv Z h376 a2 kc .char (12 : Int32) (own_vc (((us ++ ks) ++ [32]) ++ vs)) (.int (0 : Int32)) := by rw [hkv.1 hc132_411, List.append_nil]; exact V376
     show Goes p e below (T376.setTop (mkF m 147 #[.val (.ref a1), .val (.ref a2), .val (.int p3), .val (.int 1), .val (.int p5), .val (.int p6), .val (.int c1), .val (.int c2), .val (.int v100), .val (.int v102), .val (.ref x), .val (.ref y), .val (.int (n3 + (1 : Int32)))] [])) _
     exact J447 _ _ _ _ _ (n3 + (1 : Int32)) X376 e376 N376 K377 z384 hS350 z385 hZ hown C386 f387 f388 f389 f390 f391 f392 V412 f394 f395 f396 f397 f398 f399 f400 f401 f402 f403 f404 f405 f406 f407 f408 f409 (by rw [hkv.1 hc132_411, List.append_nil]; exact hi410)
    ·refine gO (fun t k => XS.ifNo X376.here hx rfl (hb hby d6_132) rfl ((if0 _ _).trans (feq hc132_411).1) k) ?_
     show Goes p e below (T376.setTop (mkF m 135 #[.val (.ref a1), .val (.ref a2), .val (.int p3), .val (.int 1), .val (.int p5), .val (.int p6), .val (.int c1), .val (.int c2), .val (.int v100), .val (.int v102), .val (.ref x), .val (.ref y), .val (.int (n3 + (1 : Int32)))] [])) _
     refine gO (fun t k => XS.aloadN X376.here hx rfl (hb hby d6_135) rfl rfl k) ?_
     refine gO (fun t k => XS.iload X376.here hx rfl (hb hby d6_136) rfl k) ?_
     refine gO (fun t k => XS.iload X376.here hx rfl (hb hby d6_138) rfl k) ?_
     have Vc414 := V376
     obtain ⟨clc414, Arc414, qc414, Sc414, Nc414, Hc414, Gc414⟩ := Vc414
     have hin415j : ((n3 + (1 : Int32))).toNatClampNeg = (own_vc ((us ++ ks) ++ [32])).length := (own_cl hi410).trans (own_lvc _).symm
     have hin415 : ¬ ((n3 + (1 : Int32)) < 0 ∨ clc414.slots.size ≤ ((n3 + (1 : Int32))).toNatClampNeg) := inb_of Sc414 ⟨own_nn hi410, Int32.lt_iff_toInt_lt.mpr (by have e : (12 : Int32).toInt = 12 := (by decide); have e1 : ((n3 + (1 : Int32))).toInt = (((us ++ ks) ++ [32]) : List Int32).length := hi410; revert e1; (try simp only [List.length_append, List.length_nil, List.length_cons]); intro e1; omega)⟩
     obtain ⟨T416, h416, X416, e416, W416, st416⟩ := stC X376 hx hZ e376 Arc414 (j := (n3 + (1 : Int32))) hin415 (g := (mkF m 140 #[.val (.ref a1), .val (.ref a2), .val (.int p3), .val (.int 1), .val (.int p5), .val (.int p6), .val (.int c1), .val (.int c2), .val (.int v100), .val (.int v102), .val (.ref x), .val (.ref y), .val (.int (n3 + (1 : Int32)))] [(.int c2), (.int (n3 + (1 : Int32))), (.ref a2)])) rfl rfl (hb hby d6_140)
     have V416 := own_push Arc414 qc414 Sc414 Nc414 Hc414 Gc414 (fits_nar_char _) W416 hin415j
     have V416 : Arv Z h416 a2 kc .char (12 : Int32) (own_vc (((us ++ ks) ++ [32]) ++ [c2])) (.int (0 : Int32)) := by have q : Arv Z _ _ _ .char (12 : Int32) (own_vc ((us ++ ks) ++ [32]) ++ [.int (nar .char c2)]) (.int (0 : Int32)) := V416; rw [own_nch c2 r2.1 r2.2] at q; rw [← own_vcc]; exact q
     have K417 : Keep h0 h416 [l1, l2, a2] := K377.wr W416 (Or.inl (List.mem_of_getElem? (i := 2) rfl))
     have z418 := Nat.le_trans z384 (Keep.of_wr W416).1
     have z419 := Nat.le_trans z385 (Keep.of_wr W416).1
     have C420 := C386.trans (CHr.wr W416 (Safe.arv hZ.alike V376 (by decide)) C386.1)
     have f421 := f387.wr W416 G_a2
     have f422 := f388.other W416 (Or.inl q379)
     have f423 := f389.other W416 (Or.inl q379)
     have f424 := f390.wr W416
     have f425 := f391.wr W416
     have f426 := f392.wr W416
     have f428 := f394.wr W416
     have f429 := f395.other W416 (Or.inl q380)
     have f430 := f396.other W416 (Or.inl q380)
     have f431 := f397.other W416 q381
     have f432 := f398.wr W416
     have f433 := f399.other W416 (Or.inl q382)
     have f434 := f400.other W416 (Or.inl q382)
     have f435 := f401.other W416 q383
     have f436 := f402.other W416 (Or.inl (Ne.symm q272))
     have f437 := f403.other W416 (Or.inl (Ne.symm q272))
     have f438 := f404.other W416 (Or.inl (Ne.symm q272))
     have f439 := f405.other W416 (Ne.symm q251)
     have f440 := f406.other W416 (Or.inl (Ne.symm q279))
     have f441 := f407.other W416 (Or.inl (Ne.symm q279))
     have f442 := f408.other W416 (Or.inl (Ne.symm q279))
     have f443 := f409.other W416 (Ne.symm q262)
     have N416 := Fr.snoc X416 N376 G_a2
     refine Goes.of st416 ?_
     have hi444 : ((n3 + (1 : Int32)) + (1 : Int32)).toInt = ((((us ++ ks) ++ [32]) ++ [c2]) : List Int32).length := by
       have e1 : (1 : Int32).toInt = 1 := by decide
       have e2 : ((n3 + (1 : Int32))).toInt = (((us ++ ks) ++ [32]) : List Int32).length := hi410
       have e3 := hi410
       revert e2; (try simp only [List.length_append, List.length_nil, List.length_cons]); intro e2
       rw [Jvm.Kit.i32_add (by omega) (by omega)]; omega
     have V445 : Arv Z h416 a2 kc .char (12 : Int32) (own_vc (((us ++ ks) ++ [32]) ++ vs)) (.int (0 : Int32)) := by rw [hkv.2 hc132_411]; exact V416
     refine gO (fun t k => XS.iload X416.here hx rfl (hb hby d6_141) rfl k) ?_
     show Goes p e below (T416.setTop (mkF m 143 #[.val (.ref a1), .val (.ref a2), .val (.int p3), .val (.int 1), .val (.int p5), .val (.int p6), .val (.int c1), .val (.int c2), .val (.int v100), .val (.int v102), .val (.ref x), .val (.ref y), .val (.int (n3 + (1 : Int32)))] [(.int (n3 + (1 : Int32)))])) _
     refine gO (fun t k => XS.iconst X416.here hx rfl (hb hby d6_143) k) ?_
     refine gO (fun t k => XS.iadd X416.here hx rfl (hb hby d6_144) rfl k) ?_
     refine gO (fun t k => XS.istore X416.here hx rfl (hb hby d6_145) rfl (l' := #[.val (.ref a1), .val (.ref a2), .val (.int p3), .val (.int 1), .val (.int p5), .val (.int p6), .val (.int c1), .val (.int c2), .val (.int v100), .val (.int v102), .val (.ref x), .val (.ref y), .val (.int ((n3 + (1 : Int32)) + (1 : Int32)))]) rfl k) ?_
     show Goes p e below (T416.setTop (mkF m 147 #[.val (.ref a1), .val (.ref a2), .val (.int p3), .val (.int 1), .val (.int p5), .val (.int p6), .val (.int c1), .val (.int c2), .val (.int v100), .val (.int v102), .val (.ref x), .val (.ref y), .val (.int ((n3 + (1 : Int32)) + (1 : Int32)))] [])) _
     exact J447 _ _ _ _ _ ((n3 + (1 : Int32)) + (1 : Int32)) X416 e416 N416 K417 z418 hS350 z419 hZ hown C420 f421 f422 f423 f424 f425 f426 V445 f428 f429 f430 f431 f432 f433 f434 f435 f436 f437 f438 f439 f440 f441 f442 f443 (by rw [hkv.2 hc132_411]; exact hi444)
   by_cases hc103_308 : v100 = (0 : Int32)
   ·refine gO (fun t k => XS.ifYes X246.here hx rfl (pc0 := 103) (pc' := 118) rfl (hb hby d6_103) rfl ((if0 _ _).trans (teq hc103_308).1) (by decide) (by decide) k) ?_
    have V309 : Arv Z T246.heap a2 kc .char (12 : Int32) (own_vc (us ++ ks)) (.int (0 : Int32)) := by rw [hkk.1 hc103_308, List.append_nil]; exact f299
    show Goes p e below (T246.setTop (mkF m 118 #[.val (.ref a1), .val (.ref a2), .val (.int p3), .val (.int 1), .val (.int p5), .val (.int p6), .val (.int c1), .val (.int c2), .val (.int v100), .val (.int v102), .val (.ref x), .val (.ref y), .val (.int p3)] [])) _
    exact J350 _ _ _ _ _ p3 X246 rfl N246 K269 z284 hS224 z285 hZ hown C286 f287 F246s_k F246s_v E246s E246l1 E246l2 V309 f300 f301 f302 f303 f304 f305 f306 f307 F246l1_e F246l1_s F246l1_m V1246 F246l2_e F246l2_s F246l2_m V2246 (by rw [hkk.1 hc103_308, List.append_nil]; exact hn)
   ·refine gO (fun t k => XS.ifNo X246.here hx rfl (hb hby d6_103) rfl ((if0 _ _).trans (feq hc103_308).1) k) ?_
    refine gO (fun t k => XS.aloadN X246.here hx rfl (hb hby d6_106) rfl rfl k) ?_
    refine gO (fun t k => XS.iload X246.here hx rfl (hb hby d6_107) rfl k) ?_
    show Goes p e below (T246.setTop (mkF m 109 #[.val (.ref a1), .val (.ref a2), .val (.int p3), .val (.int 1), .val (.int p5), .val (.int p6), .val (.int c1), .val (.int c2), .val (.int v100), .val (.int v102), .val (.ref x), .val (.ref y), .val (.int p3)] [(.int p3), (.ref a2)])) _
    refine gO (fun t k => XS.iload X246.here hx rfl (hb hby d6_109) rfl k) ?_
    have Vc311 := f299
    obtain ⟨clc311, Arc311, qc311, Sc311, Nc311, Hc311, Gc311⟩ := Vc311
    have hin312j : (p3).toNatClampNeg = (own_vc us).length := (own_cl hn).trans (own_lvc _).symm
    have hin312 : ¬ (p3 < 0 ∨ clc311.slots.size ≤ (p3).toNatClampNeg) := inb_of Sc311 ⟨own_nn hn, Int32.lt_iff_toInt_lt.mpr (by have e : (12 : Int32).toInt = 12 := (by decide); have e1 : (p3).toInt = (us : List Int32).length := hn; revert e1; (try simp only [List.length_append, List.length_nil, List.length_cons]); intro e1; omega)⟩
    obtain ⟨T313, h313, X313, e313, W313, st313⟩ := stC X246 hx hZ rfl Arc311 (j := p3) hin312 (g := (mkF m 111 #[.val (.ref a1), .val (.ref a2), .val (.int p3), .val (.int 1), .val (.int p5), .val (.int p6), .val (.int c1), .val (.int c2), .val (.int v100), .val (.int v102), .val (.ref x), .val (.ref y), .val (.int p3)] [(.int c1), (.int p3), (.ref a2)])) rfl rfl (hb hby d6_111)
    have V313 := own_push Arc311 qc311 Sc311 Nc311 Hc311 Gc311 (fits_nar_char _) W313 hin312j
    have V313 : Arv Z h313 a2 kc .char (12 : Int32) (own_vc (us ++ [c1])) (.int (0 : Int32)) := by have q : Arv Z _ _ _ .char (12 : Int32) (own_vc us ++ [.int (nar .char c1)]) (.int (0 : Int32)) := V313; rw [own_nch c1 r1.1 r1.2] at q; rw [← own_vcc]; exact q
    have K314 : Keep h0 h313 [l1, l2, a2] := K269.wr W313 (Or.inl (List.mem_of_getElem? (i := 2) rfl))
    have q316 : a1 ≠ a2 := Exa.neArv E246s f299 (wd hw 2 rfl)
    have q317 : x ≠ a2 := Exa.neArv f300 f299 (wd hw 84 rfl)
    have q318 : bx ≠ a2 := own_arvty f303 f299 (by decide)
    have q319 : y ≠ a2 := Exa.neArv f304 f299 (wd hw 84 rfl)
    have q320 : by_ ≠ a2 := own_arvty f307 f299 (by decide)
    have z321 := Nat.le_trans z284 (Keep.of_wr W313).1
    have z322 := Nat.le_trans z285 (Keep.of_wr W313).1
    have C323 := C286.trans (CHr.wr W313 (Safe.arv hZ.alike f299 (by decide)) C286.1)
    have f324 := f287.wr W313 G_a2
    have f325 := F246s_k.other W313 (Or.inl q316)
    have f326 := F246s_v.other W313 (Or.inl q316)
    have f327 := E246s.wr W313
    have f328 := E246l1.wr W313
    have f329 := E246l2.wr W313
    have f331 := f300.wr W313
    have f332 := f301.other W313 (Or.inl q317)
    have f333 := f302.other W313 (Or.inl q317)
    have f334 := f303.other W313 q318
    have f335 := f304.wr W313
    have f336 := f305.other W313 (Or.inl q319)
    have f337 := f306.other W313 (Or.inl q319)
    have f338 := f307.other W313 q320
    have f339 := F246l1_e.other W313 (Or.inl (Ne.symm q272))
    have f340 := F246l1_s.other W313 (Or.inl (Ne.symm q272))
    have f341 := F246l1_m.other W313 (Or.inl (Ne.symm q272))
    have f342 := V1246.other W313 (Ne.symm q251)
    have f343 := F246l2_e.other W313 (Or.inl (Ne.symm q279))
    have f344 := F246l2_s.other W313 (Or.inl (Ne.symm q279))
    have f345 := F246l2_m.other W313 (Or.inl (Ne.symm q279))
    have f346 := V2246.other W313 (Ne.symm q262)
    have N313 := Fr.snoc X313 N246 G_a2
    refine Goes.of st313 ?_
    have hi347 : (p3 + (1 : Int32)).toInt = ((us ++ [c1]) : List Int32).length := by
      have e1 : (1 : Int32).toInt = 1 := by decide
      have e2 : (p3).toInt = (us : List Int32).length := hn
      have e3 := hn
      revert e2; (try simp only [List.length_append, List.length_nil, List.length_cons]); intro e2
      rw [Jvm.Kit.i32_add (by omega) (by omega)]; omega
    have V348 : Arv Z h313 a2 kc .char (12 : Int32) (own_vc (us ++ ks)) (.int (0 : Int32)) := by rw [hkk.2 hc103_308]; exact V313
    refine gO (fun t k => XS.iload X313.here hx rfl (hb hby d6_112) rfl k) ?_
    refine gO (fun t k => XS.iconst X313.here hx rfl (hb hby d6_114) k) ?_
    refine gO (fun t k => XS.iadd X313.here hx rfl (hb hby d6_115) rfl k) ?_
    show Goes p e below (T313.setTop (mkF m 116 #[.val (.ref a1), .val (.ref a2), .val (.int p3), .val (.int 1), .val (.int p5), .val (.int p6), .val (.int c1), .val (.int c2), .val (.int v100), .val (.int v102), .val (.ref x), .val (.ref y), .val (.int p3)] [(.int (p3 + (1 : Int32)))])) _
    refine gO (fun t k => XS.istore X313.here hx rfl (hb hby d6_116) rfl (l' := #[.val (.ref a1), .val (.ref a2), .val (.int p3), .val (.int 1), .val (.int p5), .val (.int p6), .val (.int c1), .val (.int c2), .val (.int v100), .val (.int v102), .val (.ref x), .val (.ref y), .val (.int (p3 + (1 : Int32)))]) rfl k) ?_
    show Goes p e below (T313.setTop (mkF m 118 #[.val (.ref a1), .val (.ref a2), .val (.int p3), .val (.int 1), .val (.int p5), .val (.int p6), .val (.int c1), .val (.int c2), .val (.int v100), .val (.int v102), .val (.ref x), .val (.ref y), .val (.int (p3 + (1 : Int32)))] [])) _
    exact J350 _ _ _ _ _ (p3 + (1 : Int32)) X313 e313 N313 K314 z321 hS224 z322 hZ hown C323 f324 f325 f326 f327 f328 f329 V348 f331 f332 f333 f334 f335 f336 f337 f338 f339 f340 f341 f342 f343 f344 f345 f346 (by rw [hkk.2 hc103_308]; exact hi347)
  by_cases hc74_168 : v102 = (0 : Int32)
  ·refine gO (fun t k => XS.ifYes X150.here hx rfl (pc0 := 74) (pc' := 85) rfl (hb hby d6_74) rfl ((if0 _ _).trans (teq hc74_168).1) (by decide) (by decide) k) ?_
   show Goes p e below (T150.setTop (mkF m 85 #[.val (.ref a1), .val (.ref a2), .val (.int p3), .val (.int 1), .val (.int p5), .val (.int p6), .val (.int c1), .val (.int c2), .val (.int v100), .val (.int v102), .val (.ref x), .unset, .unset] [])) _
   obtain ⟨a169, T169, h169, k169, b169, c169, X169, e169, E169, hS169, kS169, hZ, hown, S169, F169c, F169v, V169, -, -, C169, -, ne169, st169⟩ := ldcCH (EL := consts_1) X150 hx hZ hown (wd hw 200 rfl) (own_wS hw) e150 hS150 y150 (own_EW hw) (by decide) C150.1 (vs := []) (z := (0 : Int32)) ⟨by decide, by rfl⟩ (by decide) (by decide) (g := (mkF m 85 #[.val (.ref a1), .val (.ref a2), .val (.int p3), .val (.int 1), .val (.int p5), .val (.int p6), .val (.int c1), .val (.int c2), .val (.int v100), .val (.int v102), .val (.ref x), .unset, .unset] [])) rfl (hb hby d6_85) (n := 0) (by decide) (by decide) (by decide) (by decide)
   have C170 := C150.trans C169
   have z171 := Nat.le_trans z150 E169.1
   have f173 := f151.ext E169
   have f174 := f152.ext E169
   have f175 := f153.ext E169
   have f176 := f154.ext E169
   have f177 := f155.ext E169
   have f178 := f156.ext E169
   have f179 := f157.ext E169
   have f180 := f158.ext E169
   have f181 := f159.ext E169
   have f182 := f160.ext E169
   have f183 := f161.ext E169
   have f184 := f162.ext E169
   have f185 := f163.ext E169
   have f186 := f164.ext E169
   have f187 := f165.ext E169
   have f188 := f166.ext E169
   have f189 := f167.ext E169
   have K190 : Keep h0 h169 [l1, l2, a2] := K150.ext E169
   refine Goes.of st169 ?_
   refine gO (fun t k => XS.astore X169.here hx rfl (hb hby d6_87) rfl rfl (l' := #[.val (.ref a1), .val (.ref a2), .val (.int p3), .val (.int 1), .val (.int p5), .val (.int p6), .val (.int c1), .val (.int c2), .val (.int v100), .val (.int v102), .val (.ref x), .val (.ref a169), .unset]) rfl k) ?_
   show Goes p e below (T169.setTop (mkF m 89 #[.val (.ref a1), .val (.ref a2), .val (.int p3), .val (.int 1), .val (.int p5), .val (.int p6), .val (.int c1), .val (.int c2), .val (.int v100), .val (.int v102), .val (.ref x), .val (.ref a169), .unset] [])) _
   exact J224 _ _ _ _ _ a169 b169 _ 0 [] (X169.mono (by decide) (by decide)) e169 N150 K190 z171 hS169 kS169 hZ hown C170 f173 f174 f175 f176 f177 f178 f179 f180 f181 f182 f183 f184 f185 f186 f187 f188 f189 S169 F169c F169v V169 (by decide) (by simp) (own_lat0) (⟨fun _ => rfl, fun q => absurd hc74_168 q⟩)
  ·refine gO (fun t k => XS.ifNo X150.here hx rfl (hb hby d6_74) rfl ((if0 _ _).trans (feq hc74_168).1) k) ?_
   refine gO (fun t k => XS.iload X150.here hx rfl (hb hby d6_77) rfl k) ?_
   obtain ⟨_, _, ⟨T192, L192, k192, n192⟩, -, X192, ⟨Lc192, hQ192, l192, y192, z192⟩, st192⟩ := Jvm.LawKit.callS X150 hx (y := mn19) hown (mvT hZ (wd hw 150 rfl)) (mvT hZ (wd hw 151 rfl)) (mvT hZ (wd hw 61 rfl)) (mvT hZ (wd hw 152 rfl)) (by decide) (backOf (W := 0) (rm25 l Z a0 hw [] c2 cmS h150 n0 z150 f151 SC cs0 r2.2) hZ (wd hw 152 rfl) (wd hw 61 rfl) (by decide) (by decide)) (g := (mkF m 79 #[.val (.ref a1), .val (.ref a2), .val (.int p3), .val (.int 1), .val (.int p5), .val (.int p6), .val (.int c1), .val (.int c2), .val (.int v100), .val (.int v102), .val (.ref x), .unset, .unset] [(.int c2)])) rfl (by rw [hml]; rfl) (argsL := [(.int c2)]) (rest := []) (lenOf pd_42 rfl) rfl (wr0 rfl rfl) (hb hby d6_79) (fun _ _ => ⟨rfl, e150, (by decide : 2 + 2 ≤ _), (by decide : 5 + 5 ≤ _)⟩)
   dsimp only [Pt.U, Pt.locs, Pt.cells, Pt.slots] at X192 l192 y192 z192 st192 hQ192
   subst l192 y192 z192
   obtain ⟨a192, b192, k192b, rfl, N192q, K192, z192a, E192, F192_c, F192_w, V192⟩ := hQ192
   have N192 := Fr.app N150 N192q
   have K202 : Keep h0 T192.heap [l1, l2, a2] := K150.trans K192 all0
   have z203 := Nat.le_trans z150 K192.1
   have z204 := Nat.le_trans y150 K192.1
   have C205 := C150.trans (CHr.keep K192 sf0 C150.1)
   have f206 := f151.keep K192 all0
   have f207 := f152.keep K192 nin0
   have f208 := f153.keep K192 nin0
   have f209 := f154.keep K192
   have f210 := f155.keep K192 nin0
   have f211 := f156.keep K192 nin0
   have f212 := f157.keep K192 nin0
   have f213 := f158.keep K192
   have f214 := f159.keep K192 nin0
   have f215 := f160.keep K192 nin0
   have f216 := f161.keep K192 nin0
   have f217 := f162.keep K192
   have f218 := f163.keep K192 nin0
   have f219 := f164.keep K192
   have f220 := f165.keep K192 nin0
   have f221 := f166.keep K192 nin0
   have f222 := f167.keep K192 nin0
   refine Goes.of st192 ?_
   refine gO (fun t k => XS.goto X192.here hx rfl (pc0 := 82) (pc' := 87) rfl (hb hby d6_82) (by decide) (by decide) k) ?_
   refine gO (fun t k => XS.astore X192.here hx rfl (hb hby d6_87) rfl rfl (l' := #[.val (.ref a1), .val (.ref a2), .val (.int p3), .val (.int 1), .val (.int p5), .val (.int p6), .val (.int c1), .val (.int c2), .val (.int v100), .val (.int v102), .val (.ref x), .val (.ref a192), .unset]) rfl k) ?_
   show Goes p e below (T192.setTop (mkF m 89 #[.val (.ref a1), .val (.ref a2), .val (.int p3), .val (.int 1), .val (.int p5), .val (.int p6), .val (.int c1), .val (.int c2), .val (.int v100), .val (.int v102), .val (.ref x), .val (.ref a192), .unset] [])) _
   show Goes p e below (T192.setTop (mkF m 89 #[.val (.ref a1), .val (.ref a2), .val (.int p3), .val (.int 1), .val (.int p5), .val (.int p6), .val (.int c1), .val (.int c2), .val (.int v100), .val (.int v102), .val (.ref x), .val (.ref a192), .unset] [])) _
   exact J224 _ _ _ _ _ a192 b192 _ 1 [c2] X192 rfl N192 K202 z203 hS150 z204 hZ hown C205 f206 f207 f208 f209 f210 f211 f212 f213 f214 f215 f216 f217 f218 f219 f220 f221 f222 E192 F192_c F192_w V192 (rfl) (by simp) (own_lat1 r2) (⟨fun q => absurd q hc74_168, fun _ => rfl⟩)
 by_cases hc57_104 : v100 = (0 : Int32)
 ·refine gO (fun t k => XS.ifYes X0.here hx rfl (pc0 := 57) (pc' := 68) rfl (hb hby d6_57) rfl ((if0 _ _).trans (teq hc57_104).1) (by decide) (by decide) k) ?_
  show Goes p e below (s₁.setTop (mkF m 68 #[.val (.ref a1), .val (.ref a2), .val (.int p3), .val (.int 1), .val (.int p5), .val (.int p6), .val (.int c1), .val (.int c2), .val (.int v100), .val (.int v102), .unset, .unset, .unset] [])) _
  obtain ⟨a105, T105, h105, k105, b105, c105, X105, e105, E105, hS105, kS105, hZ, hown, S105, F105c, F105v, V105, -, -, C105, -, ne105, st105⟩ := ldcCH (EL := consts_1) X0 hx hZ hown (wd hw 200 rfl) (own_wS hw) e0 hS0 kS0 (own_EW hw) (by decide) C0.1 (vs := []) (z := (0 : Int32)) ⟨by decide, by rfl⟩ (by decide) (by decide) (g := (mkF m 68 #[.val (.ref a1), .val (.ref a2), .val (.int p3), .val (.int 1), .val (.int p5), .val (.int p6), .val (.int c1), .val (.int c2), .val (.int v100), .val (.int v102), .unset, .unset, .unset] [])) rfl (hb hby d6_68) (n := 0) (by decide) (by decide) (by decide) (by decide)
  have C106 := C0.trans C105
  have z107 := Nat.le_trans Z0 E105.1
  have f109 := O0.ext E105
  have f110 := F_k_a1.ext E105
  have f111 := F_v_a1.ext E105
  have f112 := E_a1.ext E105
  have f113 := F_e_l1.ext E105
  have f114 := F_s_l1.ext E105
  have f115 := F_m_l1.ext E105
  have f116 := E_l1.ext E105
  have f117 := F_e_l2.ext E105
  have f118 := F_s_l2.ext E105
  have f119 := F_m_l2.ext E105
  have f120 := E_l2.ext E105
  have f121 := V_a2.ext E105
  have K122 : Keep h0 h105 [l1, l2, a2] := K0.ext E105
  refine Goes.of st105 ?_
  refine gO (fun t k => XS.astore X105.here hx rfl (hb hby d6_70) rfl rfl (l' := #[.val (.ref a1), .val (.ref a2), .val (.int p3), .val (.int 1), .val (.int p5), .val (.int p6), .val (.int c1), .val (.int c2), .val (.int v100), .val (.int v102), .val (.ref a105), .unset, .unset]) rfl k) ?_
  show Goes p e below (T105.setTop (mkF m 72 #[.val (.ref a1), .val (.ref a2), .val (.int p3), .val (.int 1), .val (.int p5), .val (.int p6), .val (.int c1), .val (.int c2), .val (.int v100), .val (.int v102), .val (.ref a105), .unset, .unset] [])) _
  exact J150 _ _ _ _ _ a105 b105 _ 0 [] (X105.mono (by decide) (by decide)) e105 N0 K122 z107 hS105 kS105 hZ hown C106 f109 f110 f111 f112 f113 f114 f115 f116 f117 f118 f119 f120 f121 S105 F105c F105v V105 (by decide) (by simp) (own_lat0) (⟨fun _ => rfl, fun q => absurd hc57_104 q⟩)
 ·refine gO (fun t k => XS.ifNo X0.here hx rfl (hb hby d6_57) rfl ((if0 _ _).trans (feq hc57_104).1) k) ?_
  refine gO (fun t k => XS.iload X0.here hx rfl (hb hby d6_60) rfl k) ?_
  obtain ⟨_, _, ⟨T124, L124, k124, n124⟩, -, X124, ⟨Lc124, hQ124, l124, y124, z124⟩, st124⟩ := Jvm.LawKit.callS X0 hx (y := mn19) hown (mvT hZ (wd hw 150 rfl)) (mvT hZ (wd hw 151 rfl)) (mvT hZ (wd hw 61 rfl)) (mvT hZ (wd hw 152 rfl)) (by decide) (backOf (W := 0) (rm25 l Z a0 hw [] c1 cmS h0 n0 Z0 O0 SC cs0 r1.2) hZ (wd hw 152 rfl) (wd hw 61 rfl) (by decide) (by decide)) (g := (mkF m 62 #[.val (.ref a1), .val (.ref a2), .val (.int p3), .val (.int 1), .val (.int p5), .val (.int p6), .val (.int c1), .val (.int c2), .val (.int v100), .val (.int v102), .unset, .unset, .unset] [(.int c1)])) rfl (by rw [hml]; rfl) (argsL := [(.int c1)]) (rest := []) (lenOf pd_42 rfl) rfl (wr0 rfl rfl) (hb hby d6_62) (fun _ _ => ⟨rfl, e0, (by decide : 0 + 2 ≤ _), (by decide : 0 + 5 ≤ _)⟩)
  dsimp only [Pt.U, Pt.locs, Pt.cells, Pt.slots] at X124 l124 y124 z124 st124 hQ124
  subst l124 y124 z124
  obtain ⟨a124, b124, k124b, rfl, N124q, K124, z124a, E124, F124_c, F124_w, V124⟩ := hQ124
  have N124 := Fr.app N0 N124q
  have K132 : Keep h0 T124.heap [l1, l2, a2] := K0.trans K124 all0
  have z133 := Nat.le_trans Z0 K124.1
  have z134 := Nat.le_trans kS0 K124.1
  have C135 := C0.trans (CHr.keep K124 sf0 C0.1)
  have f136 := O0.keep K124 all0
  have f137 := F_k_a1.keep K124 nin0
  have f138 := F_v_a1.keep K124 nin0
  have f139 := E_a1.keep K124
  have f140 := F_e_l1.keep K124 nin0
  have f141 := F_s_l1.keep K124 nin0
  have f142 := F_m_l1.keep K124 nin0
  have f143 := E_l1.keep K124
  have f144 := F_e_l2.keep K124 nin0
  have f145 := F_s_l2.keep K124 nin0
  have f146 := F_m_l2.keep K124 nin0
  have f147 := E_l2.keep K124
  have f148 := V_a2.keep K124 nin0
  refine Goes.of st124 ?_
  refine gO (fun t k => XS.goto X124.here hx rfl (pc0 := 65) (pc' := 70) rfl (hb hby d6_65) (by decide) (by decide) k) ?_
  refine gO (fun t k => XS.astore X124.here hx rfl (hb hby d6_70) rfl rfl (l' := #[.val (.ref a1), .val (.ref a2), .val (.int p3), .val (.int 1), .val (.int p5), .val (.int p6), .val (.int c1), .val (.int c2), .val (.int v100), .val (.int v102), .val (.ref a124), .unset, .unset]) rfl k) ?_
  show Goes p e below (T124.setTop (mkF m 72 #[.val (.ref a1), .val (.ref a2), .val (.int p3), .val (.int 1), .val (.int p5), .val (.int p6), .val (.int c1), .val (.int c2), .val (.int v100), .val (.int v102), .val (.ref a124), .unset, .unset] [])) _
  show Goes p e below (T124.setTop (mkF m 72 #[.val (.ref a1), .val (.ref a2), .val (.int p3), .val (.int 1), .val (.int p5), .val (.int p6), .val (.int c1), .val (.int c2), .val (.int v100), .val (.int v102), .val (.ref a124), .unset, .unset] [])) _
  exact J150 _ _ _ _ _ a124 b124 _ 1 [c1] X124 rfl N124 K132 z133 hS0 z134 hZ hown C135 f136 f137 f138 f139 f140 f141 f142 f143 f144 f145 f146 f147 f148 E124 F124_c F124_w V124 (rfl) (by simp) (own_lat1 r1) (⟨fun q => absurd q hc57_104, fun _ => rfl⟩)
theorem ef_6_74 (m : MethodId) (x0 x1 : Addr) (x2 x3 x4 x5 : Int32) : entryFrame m #[(.ref x0), (.ref x1), (.int x2), (.int x3), (.int x4), (.int x5)] 13 = mkF m 0 #[.val (.ref x0), .val (.ref x1), .val (.int x2), .val (.int x3), .val (.int x4), .val (.int x5), .unset, .unset, .unset, .unset, .unset, .unset, .unset] [] := by first | (simp [entryFrame, mkF, argsToLocals, Value.category]; done) | rfl
def Q6_74 (Z : State) (a1 a2 : Addr) (p3 p5 p6 cmS : Int32) (kc : ClassId) (us : List Int32) (l1 l2 d1 : Addr) (k1 : ClassId) (d2 : Addr) (k2 : ClassId) (x0 y0 : Addr) (h0 : Heap) (n0 : Nat) (v : Option Value) (h : Heap) (L : List Loc) : Prop := ∃ (x bx : Addr) (kx : ClassId) (zx : Int32) (ks : List Int32) (y by_ : Addr) (ky : ClassId) (zy : Int32) (vs : List Int32) (n' : Int32), v = some (.int n') ∧ Fr n0 L ∧ Keep h0 h [l1, l2, d1, d2, a2] ∧ n'.toInt = (((((us ++ ks) ++ [32]) ++ vs) ++ [10]) : List Int32).length ∧ zx.toInt = ks.length ∧ ks.length ≤ 1 ∧ own_lat ks ∧ zy.toInt = vs.length ∧ vs.length ≤ 1 ∧ own_lat vs ∧ Exa Z h x "java/lang/String" ∧ Fl5 Z h x (.int 0) ∧ Fl6 Z h x (.ref bx) ∧ Arv Z h bx kx .byte zx (own_vb (ks)) (.int (0 : Int32)) ∧ Exa Z h y "java/lang/String" ∧ Fl5 Z h y (.int 0) ∧ Fl6 Z h y (.ref by_) ∧ Arv Z h by_ ky .byte zy (own_vb (vs)) (.int (0 : Int32)) ∧ Exa Z h a1 "com/example/hinta/hinta/Statement" ∧ Fl3 Z h a1 (.ref l1) ∧ Fl4 Z h a1 (.ref l2) ∧ Exa Z h l1 "java/util/ArrayList" ∧ Fl0 Z h l1 (.ref d1) ∧ Fl1 Z h l1 (.int 2) ∧ Fl2 Z h l1 (.int 2) ∧ Exa Z h l2 "java/util/ArrayList" ∧ Fl0 Z h l2 (.ref d2) ∧ Fl1 Z h l2 (.int 2) ∧ Fl2 Z h l2 (.int 2) ∧ Arv Z h d1 k1 (.object "java/lang/Object") (10 : Int32) [(.ref x0), (.ref x), .null, .null, .null, .null, .null, .null, .null, .null] .null ∧ Arv Z h d2 k2 (.object "java/lang/Object") (10 : Int32) [(.ref y0), (.ref y), .null, .null, .null, .null, .null, .null, .null, .null] .null ∧ Arv Z h a2 kc .char (12 : Int32) (own_vc (((((us ++ ks) ++ [32]) ++ vs) ++ [10]))) (.int (0 : Int32))
theorem rm6_74 (l : Launch) (Z : State) (a0 : Array Value) (hw : ∀ d ∈ tables_1, d.before a0 Z = true) (ws : List Jvm.Cond) (a1 a2 : Addr) (p3 p5 p6 cmS : Int32) (kc : ClassId) (us : List Int32) (l1 l2 d1 : Addr) (k1 : ClassId) (d2 : Addr) (k2 : ClassId) (x0 y0 : Addr) (h0 : Heap) (n0 : Nat) (Z0 : n0 ≤ h0.size) (O0 : Old Z n0 h0) (SC : Sta Z Z.heap "java/lang/String" "COMPACT_STRINGS" "Z" (.int cmS)) (cs0 : cmS ≠ 0) (E_a1 : Exa Z h0 a1 "com/example/hinta/hinta/Statement") (F_k_a1 : Fl3 Z h0 a1 (.ref l1)) (F_v_a1 : Fl4 Z h0 a1 (.ref l2)) (E_l1 : Exa Z h0 l1 "java/util/ArrayList") (F_e_l1 : Fl0 Z h0 l1 (.ref d1)) (F_s_l1 : Fl1 Z h0 l1 (.int 1)) (F_m_l1 : Fl2 Z h0 l1 (.int 1)) (E_l2 : Exa Z h0 l2 "java/util/ArrayList") (F_e_l2 : Fl0 Z h0 l2 (.ref d2)) (F_s_l2 : Fl1 Z h0 l2 (.int 1)) (F_m_l2 : Fl2 Z h0 l2 (.int 1)) (A1 : Arv Z h0 d1 k1 (.object "java/lang/Object") (10 : Int32) [(.ref x0), .null, .null, .null, .null, .null, .null, .null, .null, .null] .null) (A2 : Arv Z h0 d2 k2 (.object "java/lang/Object") (10 : Int32) [(.ref y0), .null, .null, .null, .null, .null, .null, .null, .null, .null] .null) (ne : l1 ≠ l2) (G_l1 : n0 ≤ l1) (G_l2 : n0 ≤ l2) (nd : d1 ≠ d2) (G_d1 : n0 ≤ d1) (G_d2 : n0 ≤ d2) (Ov1 : Ovr Z k1 "java/lang/Object") (Ov2 : Ovr Z k2 "java/lang/Object") (V_a2 : Arv Z h0 a2 kc .char (12 : Int32) (own_vc (us)) (.int (0 : Int32))) (G_a2 : n0 ≤ a2) (hn : p3.toInt = us.length) (hc : us.length ≤ 4) :
 CTH l Z mn51 method_3_code 13 (some .int) ws (⟨3, 4, 10, 42⟩ : Room) #[(.ref a1), (.ref a2), (.int p3), (.int 1), (.int p5), (.int p6)] h0 (Q6_74 Z a1 a2 p3 p5 p6 cmS kc us l1 l2 d1 k1 d2 k2 x0 y0 h0 n0) := by
 refine MetFree.of_bodySF (plainFor_of_name pn_37) hisR ?_
 intro p e s m args below meth c s₁ Bd hml0 hP hK
 obtain ⟨rfl, hZ, hh, hCH0⟩ := hP
 have hx := Bd.exec
 have hby := Bd.bytes
 have hml : c.maxLocals = 13 := hml0
 have hown : s.vm.findClass "com/example/hinta/hinta/StatementTextPinLaw" = some m.cls := findClass_of_methodNamed Bd.named
 have hnm := (name_of_methodNamed Bd.named Bd.method).1
 have hlocks : meth.locks = false := BodyLoose.notSynchronized Bd
 have X0 : Stand p l e (⟨3, 4, 10, 42⟩ : Room) s m #[(.ref a1), (.ref a2), (.int p3), (.int 1), (.int p5), (.int p6)] below meth c s₁ [] 0 0 := Stand.of_body Bd
 have e0 : s₁.heap = h0 := by rw [← hh, Bd.state]; rfl
 have N0 := Fr.nil n0
 show Goes p e below (s₁.setTop (entryFrame m #[(.ref a1), (.ref a2), (.int p3), (.int 1), (.int p5), (.int p6)] 13)) (FinH Z consts_1 s (Q6_74 Z a1 a2 p3 p5 p6 cmS kc us l1 l2 d1 k1 d2 k2 x0 y0 h0 n0) (⟨3, 4, 10, 42⟩ : Room).cells (⟨3, 4, 10, 42⟩ : Room).slots)
 refine Goes.of (fun t k => castTop (ef_6_74 m a1 a2 p3 (1 : Int32) p5 p6) k) ?_
 have X0 : Stand p l e (⟨3, 4, 10, 42⟩ : Room) (s.setVm s.vm) m #[(.ref a1), (.ref a2), (.int p3), (.int 1), (.int p5), (.int p6)] below meth c s₁ [] 0 0 := X0
 have hS0 : s.Since s.vm 0 := (State.WarmedH.refl s).since 0
 have kS0 : 0 ≤ h0.size := Nat.zero_le _
 have hZ : Z.Warmed39 (s.setVm s.vm).vm := hZ
 have hown : (s.setVm s.vm).vm.findClass "com/example/hinta/hinta/StatementTextPinLaw" = some m.cls := hown
 have C0 : CHr Z consts_1 s.vm h0 s.vm h0 := CHr.refl hCH0
 have K0 : Keep h0 h0 [l1, l2, d1, d2, a2] := Keep.refl _ _
 refine gO (fun t k => XS.iloadN X0.here hx rfl (hb hby d6_0) rfl k) ?_
 refine gO (fun t k => XS.ifYes X0.here hx rfl (pc0 := 1) (pc' := 6) rfl (hb hby d6_1) rfl ((if0 _ _).trans (feq (by decide)).2) (by decide) (by decide) k) ?_
 refine gO (fun t k => XS.iload X0.here hx rfl (hb hby d6_6) rfl k) ?_
 refine gO (fun t k => XS.sipush X0.here hx rfl (hb hby d6_8) k) ?_
 show Goes p e below (s₁.setTop (mkF m 11 #[.val (.ref a1), .val (.ref a2), .val (.int p3), .val (.int 1), .val (.int p5), .val (.int p6), .unset, .unset, .unset, .unset, .unset, .unset, .unset] [(.int 255), (.int p5)])) _
 refine gO (fun t k => XS.iand X0.here hx rfl (hb hby d6_11) rfl k) ?_
 refine gO (fun t k => XS.i2c X0.here hx rfl (hb hby d6_12) rfl k) ?_
 refine gO (fun t k => XS.istore X0.here hx rfl (hb hby d6_13) rfl (l' := #[.val (.ref a1), .val (.ref a2), .val (.int p3), .val (.int 1), .val (.int p5), .val (.int p6), .val (.int ((p5 &&& (255 : Int32)).toUInt32.toUInt16.toUInt32.toInt32)), .unset, .unset, .unset, .unset, .unset, .unset]) rfl k) ?_
 show Goes p e below (s₁.setTop (mkF m 15 #[.val (.ref a1), .val (.ref a2), .val (.int p3), .val (.int 1), .val (.int p5), .val (.int p6), .val (.int (own_c1 p5)), .unset, .unset, .unset, .unset, .unset, .unset] [])) _
 have r1 := own_c1r p5
 generalize own_c1 p5 = c1 at r1 ⊢
 refine gO (fun t k => XS.iload X0.here hx rfl (hb hby d6_15) rfl k) ?_
 refine gO (fun t k => XS.bipush X0.here hx rfl (hb hby d6_17) k) ?_
 refine gO (fun t k => XS.iushr X0.here hx rfl (hb hby d6_19) rfl k) ?_
 refine gO (fun t k => XS.sipush X0.here hx rfl (hb hby d6_20) k) ?_
 refine gO (fun t k => XS.iand X0.here hx rfl (hb hby d6_23) rfl k) ?_
 show Goes p e below (s₁.setTop (mkF m 24 #[.val (.ref a1), .val (.ref a2), .val (.int p3), .val (.int 1), .val (.int p5), .val (.int p6), .val (.int c1), .unset, .unset, .unset, .unset, .unset, .unset] [(.int (((p5.toUInt32 >>> ((8 : Int32) &&& 31).toUInt32).toInt32) &&& (255 : Int32)))])) _
 refine gO (fun t k => XS.i2c X0.here hx rfl (hb hby d6_24) rfl k) ?_
 refine gO (fun t k => XS.istore X0.here hx rfl (hb hby d6_25) rfl (l' := #[.val (.ref a1), .val (.ref a2), .val (.int p3), .val (.int 1), .val (.int p5), .val (.int p6), .val (.int c1), .val (.int ((((p5.toUInt32 >>> ((8 : Int32) &&& 31).toUInt32).toInt32) &&& (255 : Int32)).toUInt32.toUInt16.toUInt32.toInt32)), .unset, .unset, .unset, .unset, .unset]) rfl k) ?_
 show Goes p e below (s₁.setTop (mkF m 27 #[.val (.ref a1), .val (.ref a2), .val (.int p3), .val (.int 1), .val (.int p5), .val (.int p6), .val (.int c1), .val (.int (own_c1 ((p5.toUInt32 >>> ((8 : Int32) &&& 31).toUInt32).toInt32))), .unset, .unset, .unset, .unset, .unset] [])) _
 have r2 := own_c1r (((p5.toUInt32 >>> ((8 : Int32) &&& 31).toUInt32).toInt32))
 generalize own_c1 ((p5.toUInt32 >>> ((8 : Int32) &&& 31).toUInt32).toInt32) = c2 at r2 ⊢
 refine gO (fun t k => XS.iload X0.here hx rfl (hb hby d6_27) rfl k) ?_
 refine gO (fun t k => XS.iconst X0.here hx rfl (hb hby d6_29) k) ?_
 refine gO (fun t k => XS.iand X0.here hx rfl (hb hby d6_30) rfl k) ?_
 obtain ⟨v100, hv100⟩ : ∃ z : Int32, z = (if (p6 &&& (1 : Int32)) = (0 : Int32) then (0 : Int32) else (1 : Int32)) := ⟨_, rfl⟩
 refine Goes.of (S' := s₁.setTop (mkF m 39 #[.val (.ref a1), .val (.ref a2), .val (.int p3), .val (.int 1), .val (.int p5), .val (.int p6), .val (.int c1), .val (.int c2), .unset, .unset, .unset, .unset, .unset] [(.int v100)])) (fun t k => ?_) ?_
 ·by_cases hb101 : (p6 &&& (1 : Int32)) = (0 : Int32)
  ·refine XS.ifYes X0.here hx rfl (pc0 := 31) (pc' := 38) rfl (hb hby d6_31) rfl ((if0 _ _).trans (teq hb101).1) (by decide) (by decide) ?_
   show Steps p.tables e below (s₁.setTop (mkF m 38 #[.val (.ref a1), .val (.ref a2), .val (.int p3), .val (.int 1), .val (.int p5), .val (.int p6), .val (.int c1), .val (.int c2), .unset, .unset, .unset, .unset, .unset] [])) _
   refine XS.iconst X0.here hx rfl (hb hby d6_38) ?_
   show Steps p.tables e below (s₁.setTop (mkF m 39 #[.val (.ref a1), .val (.ref a2), .val (.int p3), .val (.int 1), .val (.int p5), .val (.int p6), .val (.int c1), .val (.int c2), .unset, .unset, .unset, .unset, .unset] [(.int 0)])) _
   simp only [if_pos hb101] at hv100; subst hv100
   exact k
  ·refine XS.ifNo X0.here hx rfl (hb hby d6_31) rfl ((if0 _ _).trans (feq hb101).1) ?_
   show Steps p.tables e below (s₁.setTop (mkF m 34 #[.val (.ref a1), .val (.ref a2), .val (.int p3), .val (.int 1), .val (.int p5), .val (.int p6), .val (.int c1), .val (.int c2), .unset, .unset, .unset, .unset, .unset] [])) _
   refine XS.iconst X0.here hx rfl (hb hby d6_34) ?_
   show Steps p.tables e below (s₁.setTop (mkF m 35 #[.val (.ref a1), .val (.ref a2), .val (.int p3), .val (.int 1), .val (.int p5), .val (.int p6), .val (.int c1), .val (.int c2), .unset, .unset, .unset, .unset, .unset] [(.int 1)])) _
   refine XS.goto X0.here hx rfl (pc0 := 35) (pc' := 39) rfl (hb hby d6_35) (by decide) (by decide) ?_
   show Steps p.tables e below (s₁.setTop (mkF m 39 #[.val (.ref a1), .val (.ref a2), .val (.int p3), .val (.int 1), .val (.int p5), .val (.int p6), .val (.int c1), .val (.int c2), .unset, .unset, .unset, .unset, .unset] [(.int 1)])) _
   simp only [if_neg hb101] at hv100; subst hv100
   exact k
 refine gO (fun t k => XS.istore X0.here hx rfl (hb hby d6_39) rfl (l' := #[.val (.ref a1), .val (.ref a2), .val (.int p3), .val (.int 1), .val (.int p5), .val (.int p6), .val (.int c1), .val (.int c2), .val (.int v100), .unset, .unset, .unset, .unset]) rfl k) ?_
 show Goes p e below (s₁.setTop (mkF m 41 #[.val (.ref a1), .val (.ref a2), .val (.int p3), .val (.int 1), .val (.int p5), .val (.int p6), .val (.int c1), .val (.int c2), .val (.int v100), .unset, .unset, .unset, .unset] [])) _
 refine gO (fun t k => XS.iload X0.here hx rfl (hb hby d6_41) rfl k) ?_
 refine gO (fun t k => XS.iconst X0.here hx rfl (hb hby d6_43) k) ?_
 refine gO (fun t k => XS.iand X0.here hx rfl (hb hby d6_44) rfl k) ?_
 obtain ⟨v102, hv102⟩ : ∃ z : Int32, z = (if (p6 &&& (2 : Int32)) = (0 : Int32) then (0 : Int32) else (1 : Int32)) := ⟨_, rfl⟩
 refine Goes.of (S' := s₁.setTop (mkF m 53 #[.val (.ref a1), .val (.ref a2), .val (.int p3), .val (.int 1), .val (.int p5), .val (.int p6), .val (.int c1), .val (.int c2), .val (.int v100), .unset, .unset, .unset, .unset] [(.int v102)])) (fun t k => ?_) ?_
 ·by_cases hb103 : (p6 &&& (2 : Int32)) = (0 : Int32)
  ·refine XS.ifYes X0.here hx rfl (pc0 := 45) (pc' := 52) rfl (hb hby d6_45) rfl ((if0 _ _).trans (teq hb103).1) (by decide) (by decide) ?_
   show Steps p.tables e below (s₁.setTop (mkF m 52 #[.val (.ref a1), .val (.ref a2), .val (.int p3), .val (.int 1), .val (.int p5), .val (.int p6), .val (.int c1), .val (.int c2), .val (.int v100), .unset, .unset, .unset, .unset] [])) _
   refine XS.iconst X0.here hx rfl (hb hby d6_52) ?_
   show Steps p.tables e below (s₁.setTop (mkF m 53 #[.val (.ref a1), .val (.ref a2), .val (.int p3), .val (.int 1), .val (.int p5), .val (.int p6), .val (.int c1), .val (.int c2), .val (.int v100), .unset, .unset, .unset, .unset] [(.int 0)])) _
   simp only [if_pos hb103] at hv102; subst hv102
   exact k
  ·refine XS.ifNo X0.here hx rfl (hb hby d6_45) rfl ((if0 _ _).trans (feq hb103).1) ?_
   show Steps p.tables e below (s₁.setTop (mkF m 48 #[.val (.ref a1), .val (.ref a2), .val (.int p3), .val (.int 1), .val (.int p5), .val (.int p6), .val (.int c1), .val (.int c2), .val (.int v100), .unset, .unset, .unset, .unset] [])) _
   refine XS.iconst X0.here hx rfl (hb hby d6_48) ?_
   show Steps p.tables e below (s₁.setTop (mkF m 49 #[.val (.ref a1), .val (.ref a2), .val (.int p3), .val (.int 1), .val (.int p5), .val (.int p6), .val (.int c1), .val (.int c2), .val (.int v100), .unset, .unset, .unset, .unset] [(.int 1)])) _
   refine XS.goto X0.here hx rfl (pc0 := 49) (pc' := 53) rfl (hb hby d6_49) (by decide) (by decide) ?_
   show Steps p.tables e below (s₁.setTop (mkF m 53 #[.val (.ref a1), .val (.ref a2), .val (.int p3), .val (.int 1), .val (.int p5), .val (.int p6), .val (.int c1), .val (.int c2), .val (.int v100), .unset, .unset, .unset, .unset] [(.int 1)])) _
   simp only [if_neg hb103] at hv102; subst hv102
   exact k
 refine gO (fun t k => XS.istore X0.here hx rfl (hb hby d6_53) rfl (l' := #[.val (.ref a1), .val (.ref a2), .val (.int p3), .val (.int 1), .val (.int p5), .val (.int p6), .val (.int c1), .val (.int c2), .val (.int v100), .val (.int v102), .unset, .unset, .unset]) rfl k) ?_
 show Goes p e below (s₁.setTop (mkF m 55 #[.val (.ref a1), .val (.ref a2), .val (.int p3), .val (.int 1), .val (.int p5), .val (.int p6), .val (.int c1), .val (.int c2), .val (.int v100), .val (.int v102), .unset, .unset, .unset] [])) _
 refine gO (fun t k => XS.iload X0.here hx rfl (hb hby d6_55) rfl k) ?_
 have J155 : ∀ (T155 : State) (L155 : List Loc) (h155 : Heap) (v155 : Vm) (k155 : Nat) (x bx : Addr) (kx : ClassId) (zx : Int32) (ks : List Int32) (X155 : Stand p l e (⟨3, 4, 10, 42⟩ : Room) (s.setVm v155) m #[(.ref a1), (.ref a2), (.int p3), (.int 1), (.int p5), (.int p6)] below meth c T155 L155 2 5) (e155 : T155.heap = h155) (N155 : Fr n0 L155) (K155 : Keep h0 h155 [l1, l2, d1, d2, a2]) (z155 : n0 ≤ h155.size) (hS155 : s.Since v155 k155) (y155 : k155 ≤ h155.size) (hZ : Z.Warmed39 (s.setVm v155).vm) (hown : (s.setVm v155).vm.findClass "com/example/hinta/hinta/StatementTextPinLaw" = some m.cls) (C155 : CHr Z consts_1 s.vm h0 v155 h155) (f156 : Old Z n0 h155) (f157 : Fl3 Z h155 a1 (.ref l1)) (f158 : Fl4 Z h155 a1 (.ref l2)) (f159 : Exa Z h155 a1 "com/example/hinta/hinta/Statement") (f160 : Fl0 Z h155 l1 (.ref d1)) (f161 : Fl1 Z h155 l1 (.int 1)) (f162 : Fl2 Z h155 l1 (.int 1)) (f163 : Exa Z h155 l1 "java/util/ArrayList") (f164 : Fl0 Z h155 l2 (.ref d2)) (f165 : Fl1 Z h155 l2 (.int 1)) (f166 : Fl2 Z h155 l2 (.int 1)) (f167 : Exa Z h155 l2 "java/util/ArrayList") (f168 : Arv Z h155 d1 k1 (.object "java/lang/Object") (10 : Int32) [(.ref x0), .null, .null, .null, .null, .null, .null, .null, .null, .null] .null) (f169 : Arv Z h155 d2 k2 (.object "java/lang/Object") (10 : Int32) [(.ref y0), .null, .null, .null, .null, .null, .null, .null, .null, .null] .null) (f170 : Arv Z h155 a2 kc .char (12 : Int32) (own_vc us) (.int (0 : Int32))) (f171 : Exa Z h155 x "java/lang/String") (f172 : Fl5 Z h155 x (.int 0)) (f173 : Fl6 Z h155 x (.ref bx)) (f174 : Arv Z h155 bx kx .byte zx (own_vb ks) (.int (0 : Int32))) (hzk : zx.toInt = ks.length) (hlk : ks.length ≤ 1) (ltk : own_lat ks) (hkk : (v100 = 0 → ks = []) ∧ (v100 ≠ 0 → ks = [c1])), Goes p e below (T155.setTop (mkF m 72 #[.val (.ref a1), .val (.ref a2), .val (.int p3), .val (.int 1), .val (.int p5), .val (.int p6), .val (.int c1), .val (.int c2), .val (.int v100), .val (.int v102), .val (.ref x), .unset, .unset] [])) (FinH Z consts_1 s (Q6_74 Z a1 a2 p3 p5 p6 cmS kc us l1 l2 d1 k1 d2 k2 x0 y0 h0 n0) (⟨3, 4, 10, 42⟩ : Room).cells (⟨3, 4, 10, 42⟩ : Room).slots) := by
  intro T155 L155 h155 v155 k155 x bx kx zx ks X155 e155 N155 K155 z155 hS155 y155 hZ hown C155 f156 f157 f158 f159 f160 f161 f162 f163 f164 f165 f166 f167 f168 f169 f170 f171 f172 f173 f174 hzk hlk ltk hkk
  refine gO (fun t k => XS.iload X155.here hx rfl (hb hby d6_72) rfl k) ?_
  have J236 : ∀ (T236 : State) (L236 : List Loc) (h236 : Heap) (v236 : Vm) (k236 : Nat) (y by_ : Addr) (ky : ClassId) (zy : Int32) (vs : List Int32) (X236 : Stand p l e (⟨3, 4, 10, 42⟩ : Room) (s.setVm v236) m #[(.ref a1), (.ref a2), (.int p3), (.int 1), (.int p5), (.int p6)] below meth c T236 L236 4 10) (e236 : T236.heap = h236) (N236 : Fr n0 L236) (K236 : Keep h0 h236 [l1, l2, d1, d2, a2]) (z236 : n0 ≤ h236.size) (hS236 : s.Since v236 k236) (y236 : k236 ≤ h236.size) (hZ : Z.Warmed39 (s.setVm v236).vm) (hown : (s.setVm v236).vm.findClass "com/example/hinta/hinta/StatementTextPinLaw" = some m.cls) (C236 : CHr Z consts_1 s.vm h0 v236 h236) (f237 : Old Z n0 h236) (f238 : Fl3 Z h236 a1 (.ref l1)) (f239 : Fl4 Z h236 a1 (.ref l2)) (f240 : Exa Z h236 a1 "com/example/hinta/hinta/Statement") (f241 : Fl0 Z h236 l1 (.ref d1)) (f242 : Fl1 Z h236 l1 (.int 1)) (f243 : Fl2 Z h236 l1 (.int 1)) (f244 : Exa Z h236 l1 "java/util/ArrayList") (f245 : Fl0 Z h236 l2 (.ref d2)) (f246 : Fl1 Z h236 l2 (.int 1)) (f247 : Fl2 Z h236 l2 (.int 1)) (f248 : Exa Z h236 l2 "java/util/ArrayList") (f249 : Arv Z h236 d1 k1 (.object "java/lang/Object") (10 : Int32) [(.ref x0), .null, .null, .null, .null, .null, .null, .null, .null, .null] .null) (f250 : Arv Z h236 d2 k2 (.object "java/lang/Object") (10 : Int32) [(.ref y0), .null, .null, .null, .null, .null, .null, .null, .null, .null] .null) (f251 : Arv Z h236 a2 kc .char (12 : Int32) (own_vc us) (.int (0 : Int32))) (f252 : Exa Z h236 x "java/lang/String") (f253 : Fl5 Z h236 x (.int 0)) (f254 : Fl6 Z h236 x (.ref bx)) (f255 : Arv Z h236 bx kx .byte zx (own_vb ks) (.int (0 : Int32))) (f256 : Exa Z h236 y "java/lang/String") (f257 : Fl5 Z h236 y (.int 0)) (f258 : Fl6 Z h236 y (.ref by_)) (f259 : Arv Z h236 by_ ky .byte zy (own_vb vs) (.int (0 : Int32))) (hzv : zy.toInt = vs.length) (hlv : vs.length ≤ 1) (ltv : own_lat vs) (hkv : (v102 = 0 → vs = []) ∧ (v102 ≠ 0 → vs = [c2])), Goes p e below (T236.setTop (mkF m 89 #[.val (.ref a1), .val (.ref a2), .val (.int p3), .val (.int 1), .val (.int p5), .val (.int p6), .val (.int c1), .val (.int c2), .val (.int v100), .val (.int v102), .val (.ref x), .val (.ref y), .unset] [])) (FinH Z consts_1 s (Q6_74 Z a1 a2 p3 p5 p6 cmS kc us l1 l2 d1 k1 d2 k2 x0 y0 h0 n0) (⟨3, 4, 10, 42⟩ : Room).cells (⟨3, 4, 10, 42⟩ : Room).slots) := by
   intro T236 L236 h236 v236 k236 y by_ ky zy vs X236 e236 N236 K236 z236 hS236 y236 hZ hown C236 f237 f238 f239 f240 f241 f242 f243 f244 f245 f246 f247 f248 f249 f250 f251 f252 f253 f254 f255 f256 f257 f258 f259 hzv hlv ltv hkv
   refine gO (fun t k => XS.aloadN X236.here hx rfl (hb hby d6_89) rfl rfl k) ?_
   refine gO (fun t k => XS.aload X236.here hx rfl (hb hby d6_90) rfl rfl k) ?_
   refine gO (fun t k => XS.aload X236.here hx rfl (hb hby d6_92) rfl rfl k) ?_
   obtain ⟨cq260, kq260, q260a, q260b, q260c⟩ := isOf hZ e236 f240
   obtain ⟨_, _, ⟨T260, L260, k260, n260⟩, -, X260, ⟨Lc260, hQ260, l260, y260, z260⟩, st260⟩ := X236.virtualBack hx (y := mn9) (z := mn9) hown (mvT hZ (wd hw 164 rfl)) (mvT hZ (wd hw 165 rfl)) (notFace_of_selects (args := #[]) (mvT hZ (wd hw 167 rfl))) (mvT hZ (wd hw 167 rfl)) (mvT hZ (wd hw 166 rfl)) (by decide) (backOf (W := 0) (rm29_15 l Z a0 hw [] a1 x y l1 l2 d1 k1 d2 k2 x0 y0 h236 n0 z236 f240 f238 f239 f244 f241 f242 f243 f248 f245 f246 f247 f249 f250 ne G_l1 G_l2 nd G_d1 G_d2 Ov1 Ov2 f252 f256) hZ (wd hw 168 rfl) (wd hw 3 rfl) (by decide) (by decide)) q260a q260c (g := (mkF m 94 #[.val (.ref a1), .val (.ref a2), .val (.int p3), .val (.int 1), .val (.int p5), .val (.int p6), .val (.int c1), .val (.int c2), .val (.int v100), .val (.int v102), .val (.ref x), .val (.ref y), .unset] [(.ref y), (.ref x), (.ref a1)])) rfl (by rw [hml]; rfl) (Steps.refl _) (argsL := [(.ref x), (.ref y)]) (rest := []) (lenOf pd_43 rfl) rfl (wr0 rfl rfl) (hb hby d6_94) (fun _ _ => ⟨rfl, e236, (by decide : 4 + 0 ≤ _), (by decide : 10 + 0 ≤ _)⟩)
   dsimp only [Pt.U, Pt.locs, Pt.cells, Pt.slots] at X260 l260 y260 z260 st260 hQ260
   subst l260 y260 z260
   obtain ⟨rfl, N260q, K260, E260s, F260s_k, F260s_v, E260l1, F260l1_e, F260l1_s, F260l1_m, E260l2, F260l2_e, F260l2_s, F260l2_m, V1260, V2260⟩ := hQ260
   have N260 := Fr.app N236 N260q
   have K261 : Keep h0 T260.heap [l1, l2, d1, d2, a2] := K236.trans K260 (allS (Or.inl (List.mem_of_getElem? (i := 0) rfl)) (allS (Or.inl (List.mem_of_getElem? (i := 1) rfl)) (allS (Or.inl (List.mem_of_getElem? (i := 2) rfl)) (allS (Or.inl (List.mem_of_getElem? (i := 3) rfl)) all0))))
   have q265 : a2 ≠ l1 := Ne.symm (Exa.neArv f244 f251 (wd hw 11 rfl))
   have q266 : x ≠ l1 := Exa.ne f252 f244 (by decide)
   have q267 : bx ≠ l1 := Ne.symm (Exa.neArv f244 f255 (wd hw 11 rfl))
   have q268 : y ≠ l1 := Exa.ne f256 f244 (by decide)
   have q269 : by_ ≠ l1 := Ne.symm (Exa.neArv f244 f259 (wd hw 11 rfl))
   have q273 : a2 ≠ l2 := Ne.symm (Exa.neArv f248 f251 (wd hw 11 rfl))
   have q274 : x ≠ l2 := Exa.ne f252 f248 (by decide)
   have q275 : bx ≠ l2 := Ne.symm (Exa.neArv f248 f255 (wd hw 11 rfl))
   have q276 : y ≠ l2 := Exa.ne f256 f248 (by decide)
   have q277 : by_ ≠ l2 := Ne.symm (Exa.neArv f248 f259 (wd hw 11 rfl))
   have q279 : a2 ≠ d1 := arv_ne f251 f249 (Or.inl (by decide))
   have q280 : x ≠ d1 := Exa.neArv f252 f249 (wd hw 84 rfl)
   have q281 : bx ≠ d1 := own_arvty f255 f249 (by decide)
   have q282 : y ≠ d1 := Exa.neArv f256 f249 (wd hw 84 rfl)
   have q283 : by_ ≠ d1 := own_arvty f259 f249 (by decide)
   have q285 : a2 ≠ d2 := arv_ne f251 f250 (Or.inl (by decide))
   have q286 : x ≠ d2 := Exa.neArv f252 f250 (wd hw 84 rfl)
   have q287 : bx ≠ d2 := own_arvty f255 f250 (by decide)
   have q288 : y ≠ d2 := Exa.neArv f256 f250 (wd hw 84 rfl)
   have q289 : by_ ≠ d2 := own_arvty f259 f250 (by decide)
   have z290 := Nat.le_trans z236 K260.1
   have z291 := Nat.le_trans y236 K260.1
   have C292 := C236.trans (CHr.keep K260 (sfS (Safe.exa hZ.alike f244 (by decide) (by decide)) (sfS (Safe.exa hZ.alike f248 (by decide) (by decide)) (sfS (Safe.arv hZ.alike f249 (by decide)) (sfS (Safe.arv hZ.alike f250 (by decide)) sf0)))) C236.1)
   have f293 := f237.keep K260 (allS G_l1 (allS G_l2 (allS G_d1 (allS G_d2 all0))))
   have f307 := f251.keep K260 (ninS q265 (ninS q273 (ninS q279 (ninS q285 nin0))))
   have f308 := f252.keep K260
   have f309 := f253.keep K260 (ninS q266 (ninS q274 (ninS q280 (ninS q286 nin0))))
   have f310 := f254.keep K260 (ninS q266 (ninS q274 (ninS q280 (ninS q286 nin0))))
   have f311 := f255.keep K260 (ninS q267 (ninS q275 (ninS q281 (ninS q287 nin0))))
   have f312 := f256.keep K260
   have f313 := f257.keep K260 (ninS q268 (ninS q276 (ninS q282 (ninS q288 nin0))))
   have f314 := f258.keep K260 (ninS q268 (ninS q276 (ninS q282 (ninS q288 nin0))))
   have f315 := f259.keep K260 (ninS q269 (ninS q277 (ninS q283 (ninS q289 nin0))))
   refine Goes.of (fun t k => st260.trans k) ?_
   refine gO (fun t k => XS.pop X260.here hx rfl (hb hby d6_97) rfl rfl k) ?_
   refine gO (fun t k => XS.iloadN X260.here hx rfl (hb hby d6_98) rfl k) ?_
   show Goes p e below (T260.setTop (mkF m 99 #[.val (.ref a1), .val (.ref a2), .val (.int p3), .val (.int 1), .val (.int p5), .val (.int p6), .val (.int c1), .val (.int c2), .val (.int v100), .val (.int v102), .val (.ref x), .val (.ref y), .unset] [(.int p3)])) _
   refine gO (fun t k => XS.istore X260.here hx rfl (hb hby d6_99) rfl (l' := #[.val (.ref a1), .val (.ref a2), .val (.int p3), .val (.int 1), .val (.int p5), .val (.int p6), .val (.int c1), .val (.int c2), .val (.int v100), .val (.int v102), .val (.ref x), .val (.ref y), .val (.int p3)]) rfl k) ?_
   refine gO (fun t k => XS.iload X260.here hx rfl (hb hby d6_101) rfl k) ?_
   have J357 : ∀ (T357 : State) (L357 : List Loc) (h357 : Heap) (v357 : Vm) (k357 : Nat) (n3 : Int32) (X357 : Stand p l e (⟨3, 4, 10, 42⟩ : Room) (s.setVm v357) m #[(.ref a1), (.ref a2), (.int p3), (.int 1), (.int p5), (.int p6)] below meth c T357 L357 4 10) (e357 : T357.heap = h357) (N357 : Fr n0 L357) (K357 : Keep h0 h357 [l1, l2, d1, d2, a2]) (z357 : n0 ≤ h357.size) (hS357 : s.Since v357 k357) (y357 : k357 ≤ h357.size) (hZ : Z.Warmed39 (s.setVm v357).vm) (hown : (s.setVm v357).vm.findClass "com/example/hinta/hinta/StatementTextPinLaw" = some m.cls) (C357 : CHr Z consts_1 s.vm h0 v357 h357) (f358 : Old Z n0 h357) (f359 : Fl3 Z h357 a1 (.ref l1)) (f360 : Fl4 Z h357 a1 (.ref l2)) (f361 : Exa Z h357 a1 "com/example/hinta/hinta/Statement") (f362 : Exa Z h357 l1 "java/util/ArrayList") (f363 : Exa Z h357 l2 "java/util/ArrayList") (f364 : Arv Z h357 a2 kc .char (12 : Int32) (own_vc (us ++ ks)) (.int (0 : Int32))) (f365 : Exa Z h357 x "java/lang/String") (f366 : Fl5 Z h357 x (.int 0)) (f367 : Fl6 Z h357 x (.ref bx)) (f368 : Arv Z h357 bx kx .byte zx (own_vb ks) (.int (0 : Int32))) (f369 : Exa Z h357 y "java/lang/String") (f370 : Fl5 Z h357 y (.int 0)) (f371 : Fl6 Z h357 y (.ref by_)) (f372 : Arv Z h357 by_ ky .byte zy (own_vb vs) (.int (0 : Int32))) (f373 : Fl0 Z h357 l1 (.ref d1)) (f374 : Fl1 Z h357 l1 (.int 2)) (f375 : Fl2 Z h357 l1 (.int 2)) (f376 : Arv Z h357 d1 k1 (.object "java/lang/Object") (10 : Int32) [(.ref x0), (.ref x), .null, .null, .null, .null, .null, .null, .null, .null] .null) (f377 : Fl0 Z h357 l2 (.ref d2)) (f378 : Fl1 Z h357 l2 (.int 2)) (f379 : Fl2 Z h357 l2 (.int 2)) (f380 : Arv Z h357 d2 k2 (.object "java/lang/Object") (10 : Int32) [(.ref y0), (.ref y), .null, .null, .null, .null, .null, .null, .null, .null] .null) (hn3 : n3.toInt = ((us ++ ks) : List Int32).length), Goes p e below (T357.setTop (mkF m 118 #[.val (.ref a1), .val (.ref a2), .val (.int p3), .val (.int 1), .val (.int p5), .val (.int p6), .val (.int c1), .val (.int c2), .val (.int v100), .val (.int v102), .val (.ref x), .val (.ref y), .val (.int n3)] [])) (FinH Z consts_1 s (Q6_74 Z a1 a2 p3 p5 p6 cmS kc us l1 l2 d1 k1 d2 k2 x0 y0 h0 n0) (⟨3, 4, 10, 42⟩ : Room).cells (⟨3, 4, 10, 42⟩ : Room).slots) := by
    intro T357 L357 h357 v357 k357 n3 X357 e357 N357 K357 z357 hS357 y357 hZ hown C357 f358 f359 f360 f361 f362 f363 f364 f365 f366 f367 f368 f369 f370 f371 f372 f373 f374 f375 f376 f377 f378 f379 f380 hn3
    refine gO (fun t k => XS.aloadN X357.here hx rfl (hb hby d6_118) rfl rfl k) ?_
    refine gO (fun t k => XS.iload X357.here hx rfl (hb hby d6_119) rfl k) ?_
    refine gO (fun t k => XS.bipush X357.here hx rfl (hb hby d6_121) k) ?_
    have Vc381 := f364
    obtain ⟨clc381, Arc381, qc381, Sc381, Nc381, Hc381, Gc381⟩ := Vc381
    have hin382j : (n3).toNatClampNeg = (own_vc (us ++ ks)).length := (own_cl hn3).trans (own_lvc _).symm
    have hin382 : ¬ (n3 < 0 ∨ clc381.slots.size ≤ (n3).toNatClampNeg) := inb_of Sc381 ⟨own_nn hn3, Int32.lt_iff_toInt_lt.mpr (by have e : (12 : Int32).toInt = 12 := (by decide); have e1 : (n3).toInt = ((us ++ ks) : List Int32).length := hn3; revert e1; (try simp only [List.length_append, List.length_nil, List.length_cons]); intro e1; omega)⟩
    obtain ⟨T383, h383, X383, e383, W383, st383⟩ := stC X357 hx hZ e357 Arc381 (j := n3) hin382 (g := (mkF m 123 #[.val (.ref a1), .val (.ref a2), .val (.int p3), .val (.int 1), .val (.int p5), .val (.int p6), .val (.int c1), .val (.int c2), .val (.int v100), .val (.int v102), .val (.ref x), .val (.ref y), .val (.int n3)] [(.int 32), (.int n3), (.ref a2)])) rfl rfl (hb hby d6_123)
    have V383 := own_push Arc381 qc381 Sc381 Nc381 Hc381 Gc381 (fits_nar_char _) W383 hin382j
    have V383 : Arv Z h383 a2 kc .char (12 : Int32) (own_vc ((us ++ ks) ++ [32])) (.int (0 : Int32)) := by have q : Arv Z _ _ _ .char (12 : Int32) (own_vc (us ++ ks) ++ [.int (nar .char 32)]) (.int (0 : Int32)) := V383; rw [own_nch 32 (by decide) (by decide)] at q; rw [← own_vcc]; exact q
    have K384 : Keep h0 h383 [l1, l2, d1, d2, a2] := K357.wr W383 (Or.inl (List.mem_of_getElem? (i := 4) rfl))
    have q385 : a1 ≠ a2 := Exa.neArv f361 f364 (wd hw 2 rfl)
    have q386 : x ≠ a2 := Exa.neArv f365 f364 (wd hw 84 rfl)
    have q387 : bx ≠ a2 := own_arvty f368 f364 (by decide)
    have q388 : y ≠ a2 := Exa.neArv f369 f364 (wd hw 84 rfl)
    have q389 : by_ ≠ a2 := own_arvty f372 f364 (by decide)
    have z390 := Nat.le_trans z357 (Keep.of_wr W383).1
    have z391 := Nat.le_trans y357 (Keep.of_wr W383).1
    have C392 := C357.trans (CHr.wr W383 (Safe.arv hZ.alike f364 (by decide)) C357.1)
    have f393 := f358.wr W383 G_a2
    have f394 := f359.other W383 (Or.inl q385)
    have f395 := f360.other W383 (Or.inl q385)
    have f396 := f361.wr W383
    have f397 := f362.wr W383
    have f398 := f363.wr W383
    have f400 := f365.wr W383
    have f401 := f366.other W383 (Or.inl q386)
    have f402 := f367.other W383 (Or.inl q386)
    have f403 := f368.other W383 q387
    have f404 := f369.wr W383
    have f405 := f370.other W383 (Or.inl q388)
    have f406 := f371.other W383 (Or.inl q388)
    have f407 := f372.other W383 q389
    have f408 := f373.other W383 (Or.inl (Ne.symm q265))
    have f409 := f374.other W383 (Or.inl (Ne.symm q265))
    have f410 := f375.other W383 (Or.inl (Ne.symm q265))
    have f411 := f376.other W383 (Ne.symm q279)
    have f412 := f377.other W383 (Or.inl (Ne.symm q273))
    have f413 := f378.other W383 (Or.inl (Ne.symm q273))
    have f414 := f379.other W383 (Or.inl (Ne.symm q273))
    have f415 := f380.other W383 (Ne.symm q285)
    have N383 := Fr.snoc X383 N357 G_a2
    refine Goes.of st383 ?_
    have hi416 : (n3 + (1 : Int32)).toInt = (((us ++ ks) ++ [32]) : List Int32).length := by
      have e1 : (1 : Int32).toInt = 1 := by decide
      have e2 : (n3).toInt = ((us ++ ks) : List Int32).length := hn3
      have e3 := hn3
      revert e2; (try simp only [List.length_append, List.length_nil, List.length_cons]); intro e2
      rw [Jvm.Kit.i32_add (by omega) (by omega)]; omega
    refine gO (fun t k => XS.iload X383.here hx rfl (hb hby d6_124) rfl k) ?_
    show Goes p e below (T383.setTop (mkF m 126 #[.val (.ref a1), .val (.ref a2), .val (.int p3), .val (.int 1), .val (.int p5), .val (.int p6), .val (.int c1), .val (.int c2), .val (.int v100), .val (.int v102), .val (.ref x), .val (.ref y), .val (.int n3)] [(.int n3)])) _
    refine gO (fun t k => XS.iconst X383.here hx rfl (hb hby d6_126) k) ?_
    refine gO (fun t k => XS.iadd X383.here hx rfl (hb hby d6_127) rfl k) ?_
    refine gO (fun t k => XS.istore X383.here hx rfl (hb hby d6_128) rfl (l' := #[.val (.ref a1), .val (.ref a2), .val (.int p3), .val (.int 1), .val (.int p5), .val (.int p6), .val (.int c1), .val (.int c2), .val (.int v100), .val (.int v102), .val (.ref x), .val (.ref y), .val (.int (n3 + (1 : Int32)))]) rfl k) ?_
    refine gO (fun t k => XS.iload X383.here hx rfl (hb hby d6_130) rfl k) ?_
    have J453 : ∀ (T453 : State) (L453 : List Loc) (h453 : Heap) (v453 : Vm) (k453 : Nat) (n4 : Int32) (X453 : Stand p l e (⟨3, 4, 10, 42⟩ : Room) (s.setVm v453) m #[(.ref a1), (.ref a2), (.int p3), (.int 1), (.int p5), (.int p6)] below meth c T453 L453 4 10) (e453 : T453.heap = h453) (N453 : Fr n0 L453) (K453 : Keep h0 h453 [l1, l2, d1, d2, a2]) (z453 : n0 ≤ h453.size) (hS453 : s.Since v453 k453) (y453 : k453 ≤ h453.size) (hZ : Z.Warmed39 (s.setVm v453).vm) (hown : (s.setVm v453).vm.findClass "com/example/hinta/hinta/StatementTextPinLaw" = some m.cls) (C453 : CHr Z consts_1 s.vm h0 v453 h453) (f454 : Old Z n0 h453) (f455 : Fl3 Z h453 a1 (.ref l1)) (f456 : Fl4 Z h453 a1 (.ref l2)) (f457 : Exa Z h453 a1 "com/example/hinta/hinta/Statement") (f458 : Exa Z h453 l1 "java/util/ArrayList") (f459 : Exa Z h453 l2 "java/util/ArrayList") (f460 : Arv Z h453 a2 kc .char (12 : Int32) (own_vc (((us ++ ks) ++ [32]) ++ vs)) (.int (0 : Int32))) (f461 : Exa Z h453 x "java/lang/String") (f462 : Fl5 Z h453 x (.int 0)) (f463 : Fl6 Z h453 x (.ref bx)) (f464 : Arv Z h453 bx kx .byte zx (own_vb ks) (.int (0 : Int32))) (f465 : Exa Z h453 y "java/lang/String") (f466 : Fl5 Z h453 y (.int 0)) (f467 : Fl6 Z h453 y (.ref by_)) (f468 : Arv Z h453 by_ ky .byte zy (own_vb vs) (.int (0 : Int32))) (f469 : Fl0 Z h453 l1 (.ref d1)) (f470 : Fl1 Z h453 l1 (.int 2)) (f471 : Fl2 Z h453 l1 (.int 2)) (f472 : Arv Z h453 d1 k1 (.object "java/lang/Object") (10 : Int32) [(.ref x0), (.ref x), .null, .null, .null, .null, .null, .null, .null, .null] .null) (f473 : Fl0 Z h453 l2 (.ref d2)) (f474 : Fl1 Z h453 l2 (.int 2)) (f475 : Fl2 Z h453 l2 (.int 2)) (f476 : Arv Z h453 d2 k2 (.object "java/lang/Object") (10 : Int32) [(.ref y0), (.ref y), .null, .null, .null, .null, .null, .null, .null, .null] .null) (hn4 : n4.toInt = ((((us ++ ks) ++ [32]) ++ vs) : List Int32).length), Goes p e below (T453.setTop (mkF m 147 #[.val (.ref a1), .val (.ref a2), .val (.int p3), .val (.int 1), .val (.int p5), .val (.int p6), .val (.int c1), .val (.int c2), .val (.int v100), .val (.int v102), .val (.ref x), .val (.ref y), .val (.int n4)] [])) (FinH Z consts_1 s (Q6_74 Z a1 a2 p3 p5 p6 cmS kc us l1 l2 d1 k1 d2 k2 x0 y0 h0 n0) (⟨3, 4, 10, 42⟩ : Room).cells (⟨3, 4, 10, 42⟩ : Room).slots) := by
     intro T453 L453 h453 v453 k453 n4 X453 e453 N453 K453 z453 hS453 y453 hZ hown C453 f454 f455 f456 f457 f458 f459 f460 f461 f462 f463 f464 f465 f466 f467 f468 f469 f470 f471 f472 f473 f474 f475 f476 hn4
     refine gO (fun t k => XS.aloadN X453.here hx rfl (hb hby d6_147) rfl rfl k) ?_
     refine gO (fun t k => XS.iload X453.here hx rfl (hb hby d6_148) rfl k) ?_
     refine gO (fun t k => XS.bipush X453.here hx rfl (hb hby d6_150) k) ?_
     have Vc477 := f460
     obtain ⟨clc477, Arc477, qc477, Sc477, Nc477, Hc477, Gc477⟩ := Vc477
     have hin478j : (n4).toNatClampNeg = (own_vc (((us ++ ks) ++ [32]) ++ vs)).length := (own_cl hn4).trans (own_lvc _).symm
     have hin478 : ¬ (n4 < 0 ∨ clc477.slots.size ≤ (n4).toNatClampNeg) := inb_of Sc477 ⟨own_nn hn4, Int32.lt_iff_toInt_lt.mpr (by have e : (12 : Int32).toInt = 12 := (by decide); have e1 : (n4).toInt = ((((us ++ ks) ++ [32]) ++ vs) : List Int32).length := hn4; revert e1; (try simp only [List.length_append, List.length_nil, List.length_cons]); intro e1; omega)⟩
     obtain ⟨T479, h479, X479, e479, W479, st479⟩ := stC X453 hx hZ e453 Arc477 (j := n4) hin478 (g := (mkF m 152 #[.val (.ref a1), .val (.ref a2), .val (.int p3), .val (.int 1), .val (.int p5), .val (.int p6), .val (.int c1), .val (.int c2), .val (.int v100), .val (.int v102), .val (.ref x), .val (.ref y), .val (.int n4)] [(.int 10), (.int n4), (.ref a2)])) rfl rfl (hb hby d6_152)
     have V479 := own_push Arc477 qc477 Sc477 Nc477 Hc477 Gc477 (fits_nar_char _) W479 hin478j
     have V479 : Arv Z h479 a2 kc .char (12 : Int32) (own_vc ((((us ++ ks) ++ [32]) ++ vs) ++ [10])) (.int (0 : Int32)) := by have q : Arv Z _ _ _ .char (12 : Int32) (own_vc (((us ++ ks) ++ [32]) ++ vs) ++ [.int (nar .char 10)]) (.int (0 : Int32)) := V479; rw [own_nch 10 (by decide) (by decide)] at q; rw [← own_vcc]; exact q
     have K480 : Keep h0 h479 [l1, l2, d1, d2, a2] := K453.wr W479 (Or.inl (List.mem_of_getElem? (i := 4) rfl))
     have z482 := Nat.le_trans y453 (Keep.of_wr W479).1
     have C483 := C453.trans (CHr.wr W479 (Safe.arv hZ.alike f460 (by decide)) C453.1)
     have f485 := f455.other W479 (Or.inl q385)
     have f486 := f456.other W479 (Or.inl q385)
     have f487 := f457.wr W479
     have f488 := f458.wr W479
     have f489 := f459.wr W479
     have f491 := f461.wr W479
     have f492 := f462.other W479 (Or.inl q386)
     have f493 := f463.other W479 (Or.inl q386)
     have f494 := f464.other W479 q387
     have f495 := f465.wr W479
     have f496 := f466.other W479 (Or.inl q388)
     have f497 := f467.other W479 (Or.inl q388)
     have f498 := f468.other W479 q389
     have f499 := f469.other W479 (Or.inl (Ne.symm q265))
     have f500 := f470.other W479 (Or.inl (Ne.symm q265))
     have f501 := f471.other W479 (Or.inl (Ne.symm q265))
     have f502 := f472.other W479 (Ne.symm q279)
     have f503 := f473.other W479 (Or.inl (Ne.symm q273))
     have f504 := f474.other W479 (Or.inl (Ne.symm q273))
     have f505 := f475.other W479 (Or.inl (Ne.symm q273))
     have f506 := f476.other W479 (Ne.symm q285)
     have N479 := Fr.snoc X479 N453 G_a2
     refine Goes.of st479 ?_
     have hi507 : (n4 + (1 : Int32)).toInt = (((((us ++ ks) ++ [32]) ++ vs) ++ [10]) : List Int32).length := by
       have e1 : (1 : Int32).toInt = 1 := by decide
       have e2 : (n4).toInt = ((((us ++ ks) ++ [32]) ++ vs) : List Int32).length := hn4
       have e3 := hn4
       revert e2; (try simp only [List.length_append, List.length_nil, List.length_cons]); intro e2
       rw [Jvm.Kit.i32_add (by omega) (by omega)]; omega
     refine gO (fun t k => XS.iload X479.here hx rfl (hb hby d6_153) rfl k) ?_
     show Goes p e below (T479.setTop (mkF m 155 #[.val (.ref a1), .val (.ref a2), .val (.int p3), .val (.int 1), .val (.int p5), .val (.int p6), .val (.int c1), .val (.int c2), .val (.int v100), .val (.int v102), .val (.ref x), .val (.ref y), .val (.int n4)] [(.int n4)])) _
     refine gO (fun t k => XS.iconst X479.here hx rfl (hb hby d6_155) k) ?_
     refine gO (fun t k => XS.iadd X479.here hx rfl (hb hby d6_156) rfl k) ?_
     refine gO (fun t k => XS.istore X479.here hx rfl (hb hby d6_157) rfl (l' := #[.val (.ref a1), .val (.ref a2), .val (.int p3), .val (.int 1), .val (.int p5), .val (.int p6), .val (.int c1), .val (.int c2), .val (.int v100), .val (.int v102), .val (.ref x), .val (.ref y), .val (.int (n4 + (1 : Int32)))]) rfl k) ?_
     refine gO (fun t k => XS.iload X479.here hx rfl (hb hby d6_159) rfl k) ?_
     show Goes p e below (T479.setTop (mkF m 161 #[.val (.ref a1), .val (.ref a2), .val (.int p3), .val (.int 1), .val (.int p5), .val (.int p6), .val (.int c1), .val (.int c2), .val (.int v100), .val (.int v102), .val (.ref x), .val (.ref y), .val (.int (n4 + (1 : Int32)))] [(.int (n4 + (1 : Int32)))])) _
     have eh : T479.heap = h479 := e479
     have eh : T479.heap = h479 := e479
     have hCH : CHr Z consts_1 s.vm s.heap T479.vm T479.heap := by rw [eh, hh]; exact C483.trans (CHv.at X479 hZ (own_EW hw) C483.1)
     exact Goes.retIH X479 hS453 (by rw [e479]; exact z482) hx Bd.returns hlocks (hb hby d6_161) (⟨x, bx, _, zx, ks, y, by_, _, zy, vs, _, rfl, N479, by rw [eh]; exact K480, hi507, hzk, hlk, ltk, hzv, hlv, ltv, by rw [eh]; exact f491, by rw [eh]; exact f492, by rw [eh]; exact f493, by rw [eh]; exact f494, by rw [eh]; exact f495, by rw [eh]; exact f496, by rw [eh]; exact f497, by rw [eh]; exact f498, by rw [eh]; exact f487, by rw [eh]; exact f485, by rw [eh]; exact f486, by rw [eh]; exact f488, by rw [eh]; exact f499, by rw [eh]; exact f500, by rw [eh]; exact f501, by rw [eh]; exact f489, by rw [eh]; exact f503, by rw [eh]; exact f504, by rw [eh]; exact f505, by rw [eh]; exact f502, by rw [eh]; exact f506, by rw [eh]; exact V479⟩) (hCH) (by decide) (by decide)
    by_cases hc132_417 : v102 = (0 : Int32)
    ·refine gO (fun t k => XS.ifYes X383.here hx rfl (pc0 := 132) (pc' := 147) rfl (hb hby d6_132) rfl ((if0 _ _).trans (teq hc132_417).1) (by decide) (by decide) k) ?_
     show Goes p e below (T383.setTop (mkF m 147 #[.val (.ref a1), .val (.ref a2), .val (.int p3), .val (.int 1), .val (.int p5), .val (.int p6), .val (.int c1), .val (.int c2), .val (.int v100), .val (.int v102), .val (.ref x), .val (.ref y), .val (.int (n3 + (1 : Int32)))] [])) _
     have V418 : Arv Z h383 a2 kc .char (12 : Int32) (own_vc (((us ++ ks) ++ [32]) ++ vs)) (.int (0 : Int32)) := by rw [hkv.1 hc132_417, List.append_nil]; exact V383
     show Goes p e below (T383.setTop (mkF m 147 #[.val (.ref a1), .val (.ref a2), .val (.int p3), .val (.int 1), .val (.int p5), .val (.int p6), .val (.int c1), .val (.int c2), .val (.int v100), .val (.int v102), .val (.ref x), .val (.ref y), .val (.int (n3 + (1 : Int32)))] [])) _
     exact J453 _ _ _ _ _ (n3 + (1 : Int32)) X383 e383 N383 K384 z390 hS357 z391 hZ hown C392 f393 f394 f395 f396 f397 f398 V418 f400 f401 f402 f403 f404 f405 f406 f407 f408 f409 f410 f411 f412 f413 f414 f415 (by rw [hkv.1 hc132_417, List.append_nil]; exact hi416)
    ·refine gO (fun t k => XS.ifNo X383.here hx rfl (hb hby d6_132) rfl ((if0 _ _).trans (feq hc132_417).1) k) ?_
     show Goes p e below (T383.setTop (mkF m 135 #[.val (.ref a1), .val (.ref a2), .val (.int p3), .val (.int 1), .val (.int p5), .val (.int p6), .val (.int c1), .val (.int c2), .val (.int v100), .val (.int v102), .val (.ref x), .val (.ref y), .val (.int (n3 + (1 : Int32)))] [])) _
     refine gO (fun t k => XS.aloadN X383.here hx rfl (hb hby d6_135) rfl rfl k) ?_
     refine gO (fun t k => XS.iload X383.here hx rfl (hb hby d6_136) rfl k) ?_
     refine gO (fun t k => XS.iload X383.here hx rfl (hb hby d6_138) rfl k) ?_
     have Vc420 := V383
     obtain ⟨clc420, Arc420, qc420, Sc420, Nc420, Hc420, Gc420⟩ := Vc420
     have hin421j : ((n3 + (1 : Int32))).toNatClampNeg = (own_vc ((us ++ ks) ++ [32])).length := (own_cl hi416).trans (own_lvc _).symm
     have hin421 : ¬ ((n3 + (1 : Int32)) < 0 ∨ clc420.slots.size ≤ ((n3 + (1 : Int32))).toNatClampNeg) := inb_of Sc420 ⟨own_nn hi416, Int32.lt_iff_toInt_lt.mpr (by have e : (12 : Int32).toInt = 12 := (by decide); have e1 : ((n3 + (1 : Int32))).toInt = (((us ++ ks) ++ [32]) : List Int32).length := hi416; revert e1; (try simp only [List.length_append, List.length_nil, List.length_cons]); intro e1; omega)⟩
     obtain ⟨T422, h422, X422, e422, W422, st422⟩ := stC X383 hx hZ e383 Arc420 (j := (n3 + (1 : Int32))) hin421 (g := (mkF m 140 #[.val (.ref a1), .val (.ref a2), .val (.int p3), .val (.int 1), .val (.int p5), .val (.int p6), .val (.int c1), .val (.int c2), .val (.int v100), .val (.int v102), .val (.ref x), .val (.ref y), .val (.int (n3 + (1 : Int32)))] [(.int c2), (.int (n3 + (1 : Int32))), (.ref a2)])) rfl rfl (hb hby d6_140)
     have V422 := own_push Arc420 qc420 Sc420 Nc420 Hc420 Gc420 (fits_nar_char _) W422 hin421j
     have V422 : Arv Z h422 a2 kc .char (12 : Int32) (own_vc (((us ++ ks) ++ [32]) ++ [c2])) (.int (0 : Int32)) := by have q : Arv Z _ _ _ .char (12 : Int32) (own_vc ((us ++ ks) ++ [32]) ++ [.int (nar .char c2)]) (.int (0 : Int32)) := V422; rw [own_nch c2 r2.1 r2.2] at q; rw [← own_vcc]; exact q
     have K423 : Keep h0 h422 [l1, l2, d1, d2, a2] := K384.wr W422 (Or.inl (List.mem_of_getElem? (i := 4) rfl))
     have z424 := Nat.le_trans z390 (Keep.of_wr W422).1
     have z425 := Nat.le_trans z391 (Keep.of_wr W422).1
     have C426 := C392.trans (CHr.wr W422 (Safe.arv hZ.alike V383 (by decide)) C392.1)
     have f427 := f393.wr W422 G_a2
     have f428 := f394.other W422 (Or.inl q385)
     have f429 := f395.other W422 (Or.inl q385)
     have f430 := f396.wr W422
     have f431 := f397.wr W422
     have f432 := f398.wr W422
     have f434 := f400.wr W422
     have f435 := f401.other W422 (Or.inl q386)
     have f436 := f402.other W422 (Or.inl q386)
     have f437 := f403.other W422 q387
     have f438 := f404.wr W422
     have f439 := f405.other W422 (Or.inl q388)
     have f440 := f406.other W422 (Or.inl q388)
     have f441 := f407.other W422 q389
     have f442 := f408.other W422 (Or.inl (Ne.symm q265))
     have f443 := f409.other W422 (Or.inl (Ne.symm q265))
     have f444 := f410.other W422 (Or.inl (Ne.symm q265))
     have f445 := f411.other W422 (Ne.symm q279)
     have f446 := f412.other W422 (Or.inl (Ne.symm q273))
     have f447 := f413.other W422 (Or.inl (Ne.symm q273))
     have f448 := f414.other W422 (Or.inl (Ne.symm q273))
     have f449 := f415.other W422 (Ne.symm q285)
     have N422 := Fr.snoc X422 N383 G_a2
     refine Goes.of st422 ?_
     have hi450 : ((n3 + (1 : Int32)) + (1 : Int32)).toInt = ((((us ++ ks) ++ [32]) ++ [c2]) : List Int32).length := by
       have e1 : (1 : Int32).toInt = 1 := by decide
       have e2 : ((n3 + (1 : Int32))).toInt = (((us ++ ks) ++ [32]) : List Int32).length := hi416
       have e3 := hi416
       revert e2; (try simp only [List.length_append, List.length_nil, List.length_cons]); intro e2
       rw [Jvm.Kit.i32_add (by omega) (by omega)]; omega
     have V451 : Arv Z h422 a2 kc .char (12 : Int32) (own_vc (((us ++ ks) ++ [32]) ++ vs)) (.int (0 : Int32)) := by rw [hkv.2 hc132_417]; exact V422
     refine gO (fun t k => XS.iload X422.here hx rfl (hb hby d6_141) rfl k) ?_
     show Goes p e below (T422.setTop (mkF m 143 #[.val (.ref a1), .val (.ref a2), .val (.int p3), .val (.int 1), .val (.int p5), .val (.int p6), .val (.int c1), .val (.int c2), .val (.int v100), .val (.int v102), .val (.ref x), .val (.ref y), .val (.int (n3 + (1 : Int32)))] [(.int (n3 + (1 : Int32)))])) _
     refine gO (fun t k => XS.iconst X422.here hx rfl (hb hby d6_143) k) ?_
     refine gO (fun t k => XS.iadd X422.here hx rfl (hb hby d6_144) rfl k) ?_
     refine gO (fun t k => XS.istore X422.here hx rfl (hb hby d6_145) rfl (l' := #[.val (.ref a1), .val (.ref a2), .val (.int p3), .val (.int 1), .val (.int p5), .val (.int p6), .val (.int c1), .val (.int c2), .val (.int v100), .val (.int v102), .val (.ref x), .val (.ref y), .val (.int ((n3 + (1 : Int32)) + (1 : Int32)))]) rfl k) ?_
     show Goes p e below (T422.setTop (mkF m 147 #[.val (.ref a1), .val (.ref a2), .val (.int p3), .val (.int 1), .val (.int p5), .val (.int p6), .val (.int c1), .val (.int c2), .val (.int v100), .val (.int v102), .val (.ref x), .val (.ref y), .val (.int ((n3 + (1 : Int32)) + (1 : Int32)))] [])) _
     exact J453 _ _ _ _ _ ((n3 + (1 : Int32)) + (1 : Int32)) X422 e422 N422 K423 z424 hS357 z425 hZ hown C426 f427 f428 f429 f430 f431 f432 V451 f434 f435 f436 f437 f438 f439 f440 f441 f442 f443 f444 f445 f446 f447 f448 f449 (by rw [hkv.2 hc132_417]; exact hi450)
   by_cases hc103_316 : v100 = (0 : Int32)
   ·refine gO (fun t k => XS.ifYes X260.here hx rfl (pc0 := 103) (pc' := 118) rfl (hb hby d6_103) rfl ((if0 _ _).trans (teq hc103_316).1) (by decide) (by decide) k) ?_
    have V317 : Arv Z T260.heap a2 kc .char (12 : Int32) (own_vc (us ++ ks)) (.int (0 : Int32)) := by rw [hkk.1 hc103_316, List.append_nil]; exact f307
    show Goes p e below (T260.setTop (mkF m 118 #[.val (.ref a1), .val (.ref a2), .val (.int p3), .val (.int 1), .val (.int p5), .val (.int p6), .val (.int c1), .val (.int c2), .val (.int v100), .val (.int v102), .val (.ref x), .val (.ref y), .val (.int p3)] [])) _
    exact J357 _ _ _ _ _ p3 X260 rfl N260 K261 z290 hS236 z291 hZ hown C292 f293 F260s_k F260s_v E260s E260l1 E260l2 V317 f308 f309 f310 f311 f312 f313 f314 f315 F260l1_e F260l1_s F260l1_m V1260 F260l2_e F260l2_s F260l2_m V2260 (by rw [hkk.1 hc103_316, List.append_nil]; exact hn)
   ·refine gO (fun t k => XS.ifNo X260.here hx rfl (hb hby d6_103) rfl ((if0 _ _).trans (feq hc103_316).1) k) ?_
    refine gO (fun t k => XS.aloadN X260.here hx rfl (hb hby d6_106) rfl rfl k) ?_
    refine gO (fun t k => XS.iload X260.here hx rfl (hb hby d6_107) rfl k) ?_
    show Goes p e below (T260.setTop (mkF m 109 #[.val (.ref a1), .val (.ref a2), .val (.int p3), .val (.int 1), .val (.int p5), .val (.int p6), .val (.int c1), .val (.int c2), .val (.int v100), .val (.int v102), .val (.ref x), .val (.ref y), .val (.int p3)] [(.int p3), (.ref a2)])) _
    refine gO (fun t k => XS.iload X260.here hx rfl (hb hby d6_109) rfl k) ?_
    have Vc319 := f307
    obtain ⟨clc319, Arc319, qc319, Sc319, Nc319, Hc319, Gc319⟩ := Vc319
    have hin320j : (p3).toNatClampNeg = (own_vc us).length := (own_cl hn).trans (own_lvc _).symm
    have hin320 : ¬ (p3 < 0 ∨ clc319.slots.size ≤ (p3).toNatClampNeg) := inb_of Sc319 ⟨own_nn hn, Int32.lt_iff_toInt_lt.mpr (by have e : (12 : Int32).toInt = 12 := (by decide); have e1 : (p3).toInt = (us : List Int32).length := hn; revert e1; (try simp only [List.length_append, List.length_nil, List.length_cons]); intro e1; omega)⟩
    obtain ⟨T321, h321, X321, e321, W321, st321⟩ := stC X260 hx hZ rfl Arc319 (j := p3) hin320 (g := (mkF m 111 #[.val (.ref a1), .val (.ref a2), .val (.int p3), .val (.int 1), .val (.int p5), .val (.int p6), .val (.int c1), .val (.int c2), .val (.int v100), .val (.int v102), .val (.ref x), .val (.ref y), .val (.int p3)] [(.int c1), (.int p3), (.ref a2)])) rfl rfl (hb hby d6_111)
    have V321 := own_push Arc319 qc319 Sc319 Nc319 Hc319 Gc319 (fits_nar_char _) W321 hin320j
    have V321 : Arv Z h321 a2 kc .char (12 : Int32) (own_vc (us ++ [c1])) (.int (0 : Int32)) := by have q : Arv Z _ _ _ .char (12 : Int32) (own_vc us ++ [.int (nar .char c1)]) (.int (0 : Int32)) := V321; rw [own_nch c1 r1.1 r1.2] at q; rw [← own_vcc]; exact q
    have K322 : Keep h0 h321 [l1, l2, d1, d2, a2] := K261.wr W321 (Or.inl (List.mem_of_getElem? (i := 4) rfl))
    have q323 : a1 ≠ a2 := Exa.neArv E260s f307 (wd hw 2 rfl)
    have q324 : x ≠ a2 := Exa.neArv f308 f307 (wd hw 84 rfl)
    have q325 : bx ≠ a2 := own_arvty f311 f307 (by decide)
    have q326 : y ≠ a2 := Exa.neArv f312 f307 (wd hw 84 rfl)
    have q327 : by_ ≠ a2 := own_arvty f315 f307 (by decide)
    have z328 := Nat.le_trans z290 (Keep.of_wr W321).1
    have z329 := Nat.le_trans z291 (Keep.of_wr W321).1
    have C330 := C292.trans (CHr.wr W321 (Safe.arv hZ.alike f307 (by decide)) C292.1)
    have f331 := f293.wr W321 G_a2
    have f332 := F260s_k.other W321 (Or.inl q323)
    have f333 := F260s_v.other W321 (Or.inl q323)
    have f334 := E260s.wr W321
    have f335 := E260l1.wr W321
    have f336 := E260l2.wr W321
    have f338 := f308.wr W321
    have f339 := f309.other W321 (Or.inl q324)
    have f340 := f310.other W321 (Or.inl q324)
    have f341 := f311.other W321 q325
    have f342 := f312.wr W321
    have f343 := f313.other W321 (Or.inl q326)
    have f344 := f314.other W321 (Or.inl q326)
    have f345 := f315.other W321 q327
    have f346 := F260l1_e.other W321 (Or.inl (Ne.symm q265))
    have f347 := F260l1_s.other W321 (Or.inl (Ne.symm q265))
    have f348 := F260l1_m.other W321 (Or.inl (Ne.symm q265))
    have f349 := V1260.other W321 (Ne.symm q279)
    have f350 := F260l2_e.other W321 (Or.inl (Ne.symm q273))
    have f351 := F260l2_s.other W321 (Or.inl (Ne.symm q273))
    have f352 := F260l2_m.other W321 (Or.inl (Ne.symm q273))
    have f353 := V2260.other W321 (Ne.symm q285)
    have N321 := Fr.snoc X321 N260 G_a2
    refine Goes.of st321 ?_
    have hi354 : (p3 + (1 : Int32)).toInt = ((us ++ [c1]) : List Int32).length := by
      have e1 : (1 : Int32).toInt = 1 := by decide
      have e2 : (p3).toInt = (us : List Int32).length := hn
      have e3 := hn
      revert e2; (try simp only [List.length_append, List.length_nil, List.length_cons]); intro e2
      rw [Jvm.Kit.i32_add (by omega) (by omega)]; omega
    have V355 : Arv Z h321 a2 kc .char (12 : Int32) (own_vc (us ++ ks)) (.int (0 : Int32)) := by rw [hkk.2 hc103_316]; exact V321
    refine gO (fun t k => XS.iload X321.here hx rfl (hb hby d6_112) rfl k) ?_
    refine gO (fun t k => XS.iconst X321.here hx rfl (hb hby d6_114) k) ?_
    refine gO (fun t k => XS.iadd X321.here hx rfl (hb hby d6_115) rfl k) ?_
    show Goes p e below (T321.setTop (mkF m 116 #[.val (.ref a1), .val (.ref a2), .val (.int p3), .val (.int 1), .val (.int p5), .val (.int p6), .val (.int c1), .val (.int c2), .val (.int v100), .val (.int v102), .val (.ref x), .val (.ref y), .val (.int p3)] [(.int (p3 + (1 : Int32)))])) _
    refine gO (fun t k => XS.istore X321.here hx rfl (hb hby d6_116) rfl (l' := #[.val (.ref a1), .val (.ref a2), .val (.int p3), .val (.int 1), .val (.int p5), .val (.int p6), .val (.int c1), .val (.int c2), .val (.int v100), .val (.int v102), .val (.ref x), .val (.ref y), .val (.int (p3 + (1 : Int32)))]) rfl k) ?_
    show Goes p e below (T321.setTop (mkF m 118 #[.val (.ref a1), .val (.ref a2), .val (.int p3), .val (.int 1), .val (.int p5), .val (.int p6), .val (.int c1), .val (.int c2), .val (.int v100), .val (.int v102), .val (.ref x), .val (.ref y), .val (.int (p3 + (1 : Int32)))] [])) _
    exact J357 _ _ _ _ _ (p3 + (1 : Int32)) X321 e321 N321 K322 z328 hS236 z329 hZ hown C330 f331 f332 f333 f334 f335 f336 V355 f338 f339 f340 f341 f342 f343 f344 f345 f346 f347 f348 f349 f350 f351 f352 f353 (by rw [hkk.2 hc103_316]; exact hi354)
  by_cases hc74_175 : v102 = (0 : Int32)
  ·refine gO (fun t k => XS.ifYes X155.here hx rfl (pc0 := 74) (pc' := 85) rfl (hb hby d6_74) rfl ((if0 _ _).trans (teq hc74_175).1) (by decide) (by decide) k) ?_
   show Goes p e below (T155.setTop (mkF m 85 #[.val (.ref a1), .val (.ref a2), .val (.int p3), .val (.int 1), .val (.int p5), .val (.int p6), .val (.int c1), .val (.int c2), .val (.int v100), .val (.int v102), .val (.ref x), .unset, .unset] [])) _
   obtain ⟨a176, T176, h176, k176, b176, c176, X176, e176, E176, hS176, kS176, hZ, hown, S176, F176c, F176v, V176, -, -, C176, -, ne176, st176⟩ := ldcCH (EL := consts_1) X155 hx hZ hown (wd hw 200 rfl) (own_wS hw) e155 hS155 y155 (own_EW hw) (by decide) C155.1 (vs := []) (z := (0 : Int32)) ⟨by decide, by rfl⟩ (by decide) (by decide) (g := (mkF m 85 #[.val (.ref a1), .val (.ref a2), .val (.int p3), .val (.int 1), .val (.int p5), .val (.int p6), .val (.int c1), .val (.int c2), .val (.int v100), .val (.int v102), .val (.ref x), .unset, .unset] [])) rfl (hb hby d6_85) (n := 0) (by decide) (by decide) (by decide) (by decide)
   have C177 := C155.trans C176
   have z178 := Nat.le_trans z155 E176.1
   have f180 := f156.ext E176
   have f181 := f157.ext E176
   have f182 := f158.ext E176
   have f183 := f159.ext E176
   have f184 := f160.ext E176
   have f185 := f161.ext E176
   have f186 := f162.ext E176
   have f187 := f163.ext E176
   have f188 := f164.ext E176
   have f189 := f165.ext E176
   have f190 := f166.ext E176
   have f191 := f167.ext E176
   have f192 := f168.ext E176
   have f193 := f169.ext E176
   have f194 := f170.ext E176
   have f195 := f171.ext E176
   have f196 := f172.ext E176
   have f197 := f173.ext E176
   have f198 := f174.ext E176
   have K199 : Keep h0 h176 [l1, l2, d1, d2, a2] := K155.ext E176
   refine Goes.of st176 ?_
   refine gO (fun t k => XS.astore X176.here hx rfl (hb hby d6_87) rfl rfl (l' := #[.val (.ref a1), .val (.ref a2), .val (.int p3), .val (.int 1), .val (.int p5), .val (.int p6), .val (.int c1), .val (.int c2), .val (.int v100), .val (.int v102), .val (.ref x), .val (.ref a176), .unset]) rfl k) ?_
   show Goes p e below (T176.setTop (mkF m 89 #[.val (.ref a1), .val (.ref a2), .val (.int p3), .val (.int 1), .val (.int p5), .val (.int p6), .val (.int c1), .val (.int c2), .val (.int v100), .val (.int v102), .val (.ref x), .val (.ref a176), .unset] [])) _
   exact J236 _ _ _ _ _ a176 b176 _ 0 [] (X176.mono (by decide) (by decide)) e176 N155 K199 z178 hS176 kS176 hZ hown C177 f180 f181 f182 f183 f184 f185 f186 f187 f188 f189 f190 f191 f192 f193 f194 f195 f196 f197 f198 S176 F176c F176v V176 (by decide) (by simp) (own_lat0) (⟨fun _ => rfl, fun q => absurd hc74_175 q⟩)
  ·refine gO (fun t k => XS.ifNo X155.here hx rfl (hb hby d6_74) rfl ((if0 _ _).trans (feq hc74_175).1) k) ?_
   refine gO (fun t k => XS.iload X155.here hx rfl (hb hby d6_77) rfl k) ?_
   obtain ⟨_, _, ⟨T201, L201, k201, n201⟩, -, X201, ⟨Lc201, hQ201, l201, y201, z201⟩, st201⟩ := Jvm.LawKit.callS X155 hx (y := mn19) hown (mvT hZ (wd hw 150 rfl)) (mvT hZ (wd hw 151 rfl)) (mvT hZ (wd hw 61 rfl)) (mvT hZ (wd hw 152 rfl)) (by decide) (backOf (W := 0) (rm25 l Z a0 hw [] c2 cmS h155 n0 z155 f156 SC cs0 r2.2) hZ (wd hw 152 rfl) (wd hw 61 rfl) (by decide) (by decide)) (g := (mkF m 79 #[.val (.ref a1), .val (.ref a2), .val (.int p3), .val (.int 1), .val (.int p5), .val (.int p6), .val (.int c1), .val (.int c2), .val (.int v100), .val (.int v102), .val (.ref x), .unset, .unset] [(.int c2)])) rfl (by rw [hml]; rfl) (argsL := [(.int c2)]) (rest := []) (lenOf pd_42 rfl) rfl (wr0 rfl rfl) (hb hby d6_79) (fun _ _ => ⟨rfl, e155, (by decide : 2 + 2 ≤ _), (by decide : 5 + 5 ≤ _)⟩)
   dsimp only [Pt.U, Pt.locs, Pt.cells, Pt.slots] at X201 l201 y201 z201 st201 hQ201
   subst l201 y201 z201
   obtain ⟨a201, b201, k201b, rfl, N201q, K201, z201a, E201, F201_c, F201_w, V201⟩ := hQ201
   have N201 := Fr.app N155 N201q
   have K212 : Keep h0 T201.heap [l1, l2, d1, d2, a2] := K155.trans K201 all0
   have z213 := Nat.le_trans z155 K201.1
   have z214 := Nat.le_trans y155 K201.1
   have C215 := C155.trans (CHr.keep K201 sf0 C155.1)
   have f216 := f156.keep K201 all0
   have f217 := f157.keep K201 nin0
   have f218 := f158.keep K201 nin0
   have f219 := f159.keep K201
   have f220 := f160.keep K201 nin0
   have f221 := f161.keep K201 nin0
   have f222 := f162.keep K201 nin0
   have f223 := f163.keep K201
   have f224 := f164.keep K201 nin0
   have f225 := f165.keep K201 nin0
   have f226 := f166.keep K201 nin0
   have f227 := f167.keep K201
   have f228 := f168.keep K201 nin0
   have f229 := f169.keep K201 nin0
   have f230 := f170.keep K201 nin0
   have f231 := f171.keep K201
   have f232 := f172.keep K201 nin0
   have f233 := f173.keep K201 nin0
   have f234 := f174.keep K201 nin0
   refine Goes.of st201 ?_
   refine gO (fun t k => XS.goto X201.here hx rfl (pc0 := 82) (pc' := 87) rfl (hb hby d6_82) (by decide) (by decide) k) ?_
   refine gO (fun t k => XS.astore X201.here hx rfl (hb hby d6_87) rfl rfl (l' := #[.val (.ref a1), .val (.ref a2), .val (.int p3), .val (.int 1), .val (.int p5), .val (.int p6), .val (.int c1), .val (.int c2), .val (.int v100), .val (.int v102), .val (.ref x), .val (.ref a201), .unset]) rfl k) ?_
   show Goes p e below (T201.setTop (mkF m 89 #[.val (.ref a1), .val (.ref a2), .val (.int p3), .val (.int 1), .val (.int p5), .val (.int p6), .val (.int c1), .val (.int c2), .val (.int v100), .val (.int v102), .val (.ref x), .val (.ref a201), .unset] [])) _
   show Goes p e below (T201.setTop (mkF m 89 #[.val (.ref a1), .val (.ref a2), .val (.int p3), .val (.int 1), .val (.int p5), .val (.int p6), .val (.int c1), .val (.int c2), .val (.int v100), .val (.int v102), .val (.ref x), .val (.ref a201), .unset] [])) _
   exact J236 _ _ _ _ _ a201 b201 _ 1 [c2] X201 rfl N201 K212 z213 hS155 z214 hZ hown C215 f216 f217 f218 f219 f220 f221 f222 f223 f224 f225 f226 f227 f228 f229 f230 f231 f232 f233 f234 E201 F201_c F201_w V201 (rfl) (by simp) (own_lat1 r2) (⟨fun q => absurd q hc74_175, fun _ => rfl⟩)
 by_cases hc57_104 : v100 = (0 : Int32)
 ·refine gO (fun t k => XS.ifYes X0.here hx rfl (pc0 := 57) (pc' := 68) rfl (hb hby d6_57) rfl ((if0 _ _).trans (teq hc57_104).1) (by decide) (by decide) k) ?_
  show Goes p e below (s₁.setTop (mkF m 68 #[.val (.ref a1), .val (.ref a2), .val (.int p3), .val (.int 1), .val (.int p5), .val (.int p6), .val (.int c1), .val (.int c2), .val (.int v100), .val (.int v102), .unset, .unset, .unset] [])) _
  obtain ⟨a105, T105, h105, k105, b105, c105, X105, e105, E105, hS105, kS105, hZ, hown, S105, F105c, F105v, V105, -, -, C105, -, ne105, st105⟩ := ldcCH (EL := consts_1) X0 hx hZ hown (wd hw 200 rfl) (own_wS hw) e0 hS0 kS0 (own_EW hw) (by decide) C0.1 (vs := []) (z := (0 : Int32)) ⟨by decide, by rfl⟩ (by decide) (by decide) (g := (mkF m 68 #[.val (.ref a1), .val (.ref a2), .val (.int p3), .val (.int 1), .val (.int p5), .val (.int p6), .val (.int c1), .val (.int c2), .val (.int v100), .val (.int v102), .unset, .unset, .unset] [])) rfl (hb hby d6_68) (n := 0) (by decide) (by decide) (by decide) (by decide)
  have C106 := C0.trans C105
  have z107 := Nat.le_trans Z0 E105.1
  have f109 := O0.ext E105
  have f110 := F_k_a1.ext E105
  have f111 := F_v_a1.ext E105
  have f112 := E_a1.ext E105
  have f113 := F_e_l1.ext E105
  have f114 := F_s_l1.ext E105
  have f115 := F_m_l1.ext E105
  have f116 := E_l1.ext E105
  have f117 := F_e_l2.ext E105
  have f118 := F_s_l2.ext E105
  have f119 := F_m_l2.ext E105
  have f120 := E_l2.ext E105
  have f121 := A1.ext E105
  have f122 := A2.ext E105
  have f123 := V_a2.ext E105
  have K124 : Keep h0 h105 [l1, l2, d1, d2, a2] := K0.ext E105
  refine Goes.of st105 ?_
  refine gO (fun t k => XS.astore X105.here hx rfl (hb hby d6_70) rfl rfl (l' := #[.val (.ref a1), .val (.ref a2), .val (.int p3), .val (.int 1), .val (.int p5), .val (.int p6), .val (.int c1), .val (.int c2), .val (.int v100), .val (.int v102), .val (.ref a105), .unset, .unset]) rfl k) ?_
  show Goes p e below (T105.setTop (mkF m 72 #[.val (.ref a1), .val (.ref a2), .val (.int p3), .val (.int 1), .val (.int p5), .val (.int p6), .val (.int c1), .val (.int c2), .val (.int v100), .val (.int v102), .val (.ref a105), .unset, .unset] [])) _
  exact J155 _ _ _ _ _ a105 b105 _ 0 [] (X105.mono (by decide) (by decide)) e105 N0 K124 z107 hS105 kS105 hZ hown C106 f109 f110 f111 f112 f113 f114 f115 f116 f117 f118 f119 f120 f121 f122 f123 S105 F105c F105v V105 (by decide) (by simp) (own_lat0) (⟨fun _ => rfl, fun q => absurd hc57_104 q⟩)
 ·refine gO (fun t k => XS.ifNo X0.here hx rfl (hb hby d6_57) rfl ((if0 _ _).trans (feq hc57_104).1) k) ?_
  refine gO (fun t k => XS.iload X0.here hx rfl (hb hby d6_60) rfl k) ?_
  obtain ⟨_, _, ⟨T126, L126, k126, n126⟩, -, X126, ⟨Lc126, hQ126, l126, y126, z126⟩, st126⟩ := Jvm.LawKit.callS X0 hx (y := mn19) hown (mvT hZ (wd hw 150 rfl)) (mvT hZ (wd hw 151 rfl)) (mvT hZ (wd hw 61 rfl)) (mvT hZ (wd hw 152 rfl)) (by decide) (backOf (W := 0) (rm25 l Z a0 hw [] c1 cmS h0 n0 Z0 O0 SC cs0 r1.2) hZ (wd hw 152 rfl) (wd hw 61 rfl) (by decide) (by decide)) (g := (mkF m 62 #[.val (.ref a1), .val (.ref a2), .val (.int p3), .val (.int 1), .val (.int p5), .val (.int p6), .val (.int c1), .val (.int c2), .val (.int v100), .val (.int v102), .unset, .unset, .unset] [(.int c1)])) rfl (by rw [hml]; rfl) (argsL := [(.int c1)]) (rest := []) (lenOf pd_42 rfl) rfl (wr0 rfl rfl) (hb hby d6_62) (fun _ _ => ⟨rfl, e0, (by decide : 0 + 2 ≤ _), (by decide : 0 + 5 ≤ _)⟩)
  dsimp only [Pt.U, Pt.locs, Pt.cells, Pt.slots] at X126 l126 y126 z126 st126 hQ126
  subst l126 y126 z126
  obtain ⟨a126, b126, k126b, rfl, N126q, K126, z126a, E126, F126_c, F126_w, V126⟩ := hQ126
  have N126 := Fr.app N0 N126q
  have K135 : Keep h0 T126.heap [l1, l2, d1, d2, a2] := K0.trans K126 all0
  have z136 := Nat.le_trans Z0 K126.1
  have z137 := Nat.le_trans kS0 K126.1
  have C138 := C0.trans (CHr.keep K126 sf0 C0.1)
  have f139 := O0.keep K126 all0
  have f140 := F_k_a1.keep K126 nin0
  have f141 := F_v_a1.keep K126 nin0
  have f142 := E_a1.keep K126
  have f143 := F_e_l1.keep K126 nin0
  have f144 := F_s_l1.keep K126 nin0
  have f145 := F_m_l1.keep K126 nin0
  have f146 := E_l1.keep K126
  have f147 := F_e_l2.keep K126 nin0
  have f148 := F_s_l2.keep K126 nin0
  have f149 := F_m_l2.keep K126 nin0
  have f150 := E_l2.keep K126
  have f151 := A1.keep K126 nin0
  have f152 := A2.keep K126 nin0
  have f153 := V_a2.keep K126 nin0
  refine Goes.of st126 ?_
  refine gO (fun t k => XS.goto X126.here hx rfl (pc0 := 65) (pc' := 70) rfl (hb hby d6_65) (by decide) (by decide) k) ?_
  refine gO (fun t k => XS.astore X126.here hx rfl (hb hby d6_70) rfl rfl (l' := #[.val (.ref a1), .val (.ref a2), .val (.int p3), .val (.int 1), .val (.int p5), .val (.int p6), .val (.int c1), .val (.int c2), .val (.int v100), .val (.int v102), .val (.ref a126), .unset, .unset]) rfl k) ?_
  show Goes p e below (T126.setTop (mkF m 72 #[.val (.ref a1), .val (.ref a2), .val (.int p3), .val (.int 1), .val (.int p5), .val (.int p6), .val (.int c1), .val (.int c2), .val (.int v100), .val (.int v102), .val (.ref a126), .unset, .unset] [])) _
  show Goes p e below (T126.setTop (mkF m 72 #[.val (.ref a1), .val (.ref a2), .val (.int p3), .val (.int 1), .val (.int p5), .val (.int p6), .val (.int c1), .val (.int c2), .val (.int v100), .val (.int v102), .val (.ref a126), .unset, .unset] [])) _
  exact J155 _ _ _ _ _ a126 b126 _ 1 [c1] X126 rfl N126 K135 z136 hS0 z137 hZ hown C138 f139 f140 f141 f142 f143 f144 f145 f146 f147 f148 f149 f150 f151 f152 f153 E126 F126_c F126_w V126 (rfl) (by simp) (own_lat1 r1) (⟨fun q => absurd q hc57_104, fun _ => rfl⟩)
theorem ef_6_75 (m : MethodId) (x0 x1 : Addr) (x2 x3 x4 x5 : Int32) : entryFrame m #[(.ref x0), (.ref x1), (.int x2), (.int x3), (.int x4), (.int x5)] 13 = mkF m 0 #[.val (.ref x0), .val (.ref x1), .val (.int x2), .val (.int x3), .val (.int x4), .val (.int x5), .unset, .unset, .unset, .unset, .unset, .unset, .unset] [] := by first | (simp [entryFrame, mkF, argsToLocals, Value.category]; done) | rfl
def Q6_75 (Z : State) (a1 a2 : Addr) (p3 p5 p6 cmS : Int32) (kc : ClassId) (us : List Int32) (l1 l2 d1 : Addr) (k1 : ClassId) (d2 : Addr) (k2 : ClassId) (x0 x1 y0 y1 : Addr) (h0 : Heap) (n0 : Nat) (v : Option Value) (h : Heap) (L : List Loc) : Prop := ∃ (x bx : Addr) (kx : ClassId) (zx : Int32) (ks : List Int32) (y by_ : Addr) (ky : ClassId) (zy : Int32) (vs : List Int32) (n' : Int32), v = some (.int n') ∧ Fr n0 L ∧ Keep h0 h [l1, l2, d1, d2, a2] ∧ n'.toInt = (((((us ++ ks) ++ [32]) ++ vs) ++ [10]) : List Int32).length ∧ zx.toInt = ks.length ∧ ks.length ≤ 1 ∧ own_lat ks ∧ zy.toInt = vs.length ∧ vs.length ≤ 1 ∧ own_lat vs ∧ Exa Z h x "java/lang/String" ∧ Fl5 Z h x (.int 0) ∧ Fl6 Z h x (.ref bx) ∧ Arv Z h bx kx .byte zx (own_vb (ks)) (.int (0 : Int32)) ∧ Exa Z h y "java/lang/String" ∧ Fl5 Z h y (.int 0) ∧ Fl6 Z h y (.ref by_) ∧ Arv Z h by_ ky .byte zy (own_vb (vs)) (.int (0 : Int32)) ∧ Exa Z h a1 "com/example/hinta/hinta/Statement" ∧ Fl3 Z h a1 (.ref l1) ∧ Fl4 Z h a1 (.ref l2) ∧ Exa Z h l1 "java/util/ArrayList" ∧ Fl0 Z h l1 (.ref d1) ∧ Fl1 Z h l1 (.int 3) ∧ Fl2 Z h l1 (.int 3) ∧ Exa Z h l2 "java/util/ArrayList" ∧ Fl0 Z h l2 (.ref d2) ∧ Fl1 Z h l2 (.int 3) ∧ Fl2 Z h l2 (.int 3) ∧ Arv Z h d1 k1 (.object "java/lang/Object") (10 : Int32) [(.ref x0), (.ref x1), (.ref x), .null, .null, .null, .null, .null, .null, .null] .null ∧ Arv Z h d2 k2 (.object "java/lang/Object") (10 : Int32) [(.ref y0), (.ref y1), (.ref y), .null, .null, .null, .null, .null, .null, .null] .null ∧ Arv Z h a2 kc .char (12 : Int32) (own_vc (((((us ++ ks) ++ [32]) ++ vs) ++ [10]))) (.int (0 : Int32))
theorem rm6_75 (l : Launch) (Z : State) (a0 : Array Value) (hw : ∀ d ∈ tables_1, d.before a0 Z = true) (ws : List Jvm.Cond) (a1 a2 : Addr) (p3 p5 p6 cmS : Int32) (kc : ClassId) (us : List Int32) (l1 l2 d1 : Addr) (k1 : ClassId) (d2 : Addr) (k2 : ClassId) (x0 x1 y0 y1 : Addr) (h0 : Heap) (n0 : Nat) (Z0 : n0 ≤ h0.size) (O0 : Old Z n0 h0) (SC : Sta Z Z.heap "java/lang/String" "COMPACT_STRINGS" "Z" (.int cmS)) (cs0 : cmS ≠ 0) (E_a1 : Exa Z h0 a1 "com/example/hinta/hinta/Statement") (F_k_a1 : Fl3 Z h0 a1 (.ref l1)) (F_v_a1 : Fl4 Z h0 a1 (.ref l2)) (E_l1 : Exa Z h0 l1 "java/util/ArrayList") (F_e_l1 : Fl0 Z h0 l1 (.ref d1)) (F_s_l1 : Fl1 Z h0 l1 (.int 2)) (F_m_l1 : Fl2 Z h0 l1 (.int 2)) (E_l2 : Exa Z h0 l2 "java/util/ArrayList") (F_e_l2 : Fl0 Z h0 l2 (.ref d2)) (F_s_l2 : Fl1 Z h0 l2 (.int 2)) (F_m_l2 : Fl2 Z h0 l2 (.int 2)) (A1 : Arv Z h0 d1 k1 (.object "java/lang/Object") (10 : Int32) [(.ref x0), (.ref x1), .null, .null, .null, .null, .null, .null, .null, .null] .null) (A2 : Arv Z h0 d2 k2 (.object "java/lang/Object") (10 : Int32) [(.ref y0), (.ref y1), .null, .null, .null, .null, .null, .null, .null, .null] .null) (ne : l1 ≠ l2) (G_l1 : n0 ≤ l1) (G_l2 : n0 ≤ l2) (nd : d1 ≠ d2) (G_d1 : n0 ≤ d1) (G_d2 : n0 ≤ d2) (Ov1 : Ovr Z k1 "java/lang/Object") (Ov2 : Ovr Z k2 "java/lang/Object") (V_a2 : Arv Z h0 a2 kc .char (12 : Int32) (own_vc (us)) (.int (0 : Int32))) (G_a2 : n0 ≤ a2) (hn : p3.toInt = us.length) (hc : us.length ≤ 8) :
 CTH l Z mn51 method_3_code 13 (some .int) ws (⟨3, 4, 10, 42⟩ : Room) #[(.ref a1), (.ref a2), (.int p3), (.int 1), (.int p5), (.int p6)] h0 (Q6_75 Z a1 a2 p3 p5 p6 cmS kc us l1 l2 d1 k1 d2 k2 x0 x1 y0 y1 h0 n0) := by
 refine MetFree.of_bodySF (plainFor_of_name pn_37) hisR ?_
 intro p e s m args below meth c s₁ Bd hml0 hP hK
 obtain ⟨rfl, hZ, hh, hCH0⟩ := hP
 have hx := Bd.exec
 have hby := Bd.bytes
 have hml : c.maxLocals = 13 := hml0
 have hown : s.vm.findClass "com/example/hinta/hinta/StatementTextPinLaw" = some m.cls := findClass_of_methodNamed Bd.named
 have hnm := (name_of_methodNamed Bd.named Bd.method).1
 have hlocks : meth.locks = false := BodyLoose.notSynchronized Bd
 have X0 : Stand p l e (⟨3, 4, 10, 42⟩ : Room) s m #[(.ref a1), (.ref a2), (.int p3), (.int 1), (.int p5), (.int p6)] below meth c s₁ [] 0 0 := Stand.of_body Bd
 have e0 : s₁.heap = h0 := by rw [← hh, Bd.state]; rfl
 have N0 := Fr.nil n0
 show Goes p e below (s₁.setTop (entryFrame m #[(.ref a1), (.ref a2), (.int p3), (.int 1), (.int p5), (.int p6)] 13)) (FinH Z consts_1 s (Q6_75 Z a1 a2 p3 p5 p6 cmS kc us l1 l2 d1 k1 d2 k2 x0 x1 y0 y1 h0 n0) (⟨3, 4, 10, 42⟩ : Room).cells (⟨3, 4, 10, 42⟩ : Room).slots)
 refine Goes.of (fun t k => castTop (ef_6_75 m a1 a2 p3 (1 : Int32) p5 p6) k) ?_
 have X0 : Stand p l e (⟨3, 4, 10, 42⟩ : Room) (s.setVm s.vm) m #[(.ref a1), (.ref a2), (.int p3), (.int 1), (.int p5), (.int p6)] below meth c s₁ [] 0 0 := X0
 have hS0 : s.Since s.vm 0 := (State.WarmedH.refl s).since 0
 have kS0 : 0 ≤ h0.size := Nat.zero_le _
 have hZ : Z.Warmed39 (s.setVm s.vm).vm := hZ
 have hown : (s.setVm s.vm).vm.findClass "com/example/hinta/hinta/StatementTextPinLaw" = some m.cls := hown
 have C0 : CHr Z consts_1 s.vm h0 s.vm h0 := CHr.refl hCH0
 have K0 : Keep h0 h0 [l1, l2, d1, d2, a2] := Keep.refl _ _
 refine gO (fun t k => XS.iloadN X0.here hx rfl (hb hby d6_0) rfl k) ?_
 refine gO (fun t k => XS.ifYes X0.here hx rfl (pc0 := 1) (pc' := 6) rfl (hb hby d6_1) rfl ((if0 _ _).trans (feq (by decide)).2) (by decide) (by decide) k) ?_
 refine gO (fun t k => XS.iload X0.here hx rfl (hb hby d6_6) rfl k) ?_
 refine gO (fun t k => XS.sipush X0.here hx rfl (hb hby d6_8) k) ?_
 show Goes p e below (s₁.setTop (mkF m 11 #[.val (.ref a1), .val (.ref a2), .val (.int p3), .val (.int 1), .val (.int p5), .val (.int p6), .unset, .unset, .unset, .unset, .unset, .unset, .unset] [(.int 255), (.int p5)])) _
 refine gO (fun t k => XS.iand X0.here hx rfl (hb hby d6_11) rfl k) ?_
 refine gO (fun t k => XS.i2c X0.here hx rfl (hb hby d6_12) rfl k) ?_
 refine gO (fun t k => XS.istore X0.here hx rfl (hb hby d6_13) rfl (l' := #[.val (.ref a1), .val (.ref a2), .val (.int p3), .val (.int 1), .val (.int p5), .val (.int p6), .val (.int ((p5 &&& (255 : Int32)).toUInt32.toUInt16.toUInt32.toInt32)), .unset, .unset, .unset, .unset, .unset, .unset]) rfl k) ?_
 show Goes p e below (s₁.setTop (mkF m 15 #[.val (.ref a1), .val (.ref a2), .val (.int p3), .val (.int 1), .val (.int p5), .val (.int p6), .val (.int (own_c1 p5)), .unset, .unset, .unset, .unset, .unset, .unset] [])) _
 have r1 := own_c1r p5
 generalize own_c1 p5 = c1 at r1 ⊢
 refine gO (fun t k => XS.iload X0.here hx rfl (hb hby d6_15) rfl k) ?_
 refine gO (fun t k => XS.bipush X0.here hx rfl (hb hby d6_17) k) ?_
 refine gO (fun t k => XS.iushr X0.here hx rfl (hb hby d6_19) rfl k) ?_
 refine gO (fun t k => XS.sipush X0.here hx rfl (hb hby d6_20) k) ?_
 refine gO (fun t k => XS.iand X0.here hx rfl (hb hby d6_23) rfl k) ?_
 show Goes p e below (s₁.setTop (mkF m 24 #[.val (.ref a1), .val (.ref a2), .val (.int p3), .val (.int 1), .val (.int p5), .val (.int p6), .val (.int c1), .unset, .unset, .unset, .unset, .unset, .unset] [(.int (((p5.toUInt32 >>> ((8 : Int32) &&& 31).toUInt32).toInt32) &&& (255 : Int32)))])) _
 refine gO (fun t k => XS.i2c X0.here hx rfl (hb hby d6_24) rfl k) ?_
 refine gO (fun t k => XS.istore X0.here hx rfl (hb hby d6_25) rfl (l' := #[.val (.ref a1), .val (.ref a2), .val (.int p3), .val (.int 1), .val (.int p5), .val (.int p6), .val (.int c1), .val (.int ((((p5.toUInt32 >>> ((8 : Int32) &&& 31).toUInt32).toInt32) &&& (255 : Int32)).toUInt32.toUInt16.toUInt32.toInt32)), .unset, .unset, .unset, .unset, .unset]) rfl k) ?_
 show Goes p e below (s₁.setTop (mkF m 27 #[.val (.ref a1), .val (.ref a2), .val (.int p3), .val (.int 1), .val (.int p5), .val (.int p6), .val (.int c1), .val (.int (own_c1 ((p5.toUInt32 >>> ((8 : Int32) &&& 31).toUInt32).toInt32))), .unset, .unset, .unset, .unset, .unset] [])) _
 have r2 := own_c1r (((p5.toUInt32 >>> ((8 : Int32) &&& 31).toUInt32).toInt32))
 generalize own_c1 ((p5.toUInt32 >>> ((8 : Int32) &&& 31).toUInt32).toInt32) = c2 at r2 ⊢
 refine gO (fun t k => XS.iload X0.here hx rfl (hb hby d6_27) rfl k) ?_
 refine gO (fun t k => XS.iconst X0.here hx rfl (hb hby d6_29) k) ?_
 refine gO (fun t k => XS.iand X0.here hx rfl (hb hby d6_30) rfl k) ?_
 obtain ⟨v100, hv100⟩ : ∃ z : Int32, z = (if (p6 &&& (1 : Int32)) = (0 : Int32) then (0 : Int32) else (1 : Int32)) := ⟨_, rfl⟩
 refine Goes.of (S' := s₁.setTop (mkF m 39 #[.val (.ref a1), .val (.ref a2), .val (.int p3), .val (.int 1), .val (.int p5), .val (.int p6), .val (.int c1), .val (.int c2), .unset, .unset, .unset, .unset, .unset] [(.int v100)])) (fun t k => ?_) ?_
 ·by_cases hb101 : (p6 &&& (1 : Int32)) = (0 : Int32)
  ·refine XS.ifYes X0.here hx rfl (pc0 := 31) (pc' := 38) rfl (hb hby d6_31) rfl ((if0 _ _).trans (teq hb101).1) (by decide) (by decide) ?_
   show Steps p.tables e below (s₁.setTop (mkF m 38 #[.val (.ref a1), .val (.ref a2), .val (.int p3), .val (.int 1), .val (.int p5), .val (.int p6), .val (.int c1), .val (.int c2), .unset, .unset, .unset, .unset, .unset] [])) _
   refine XS.iconst X0.here hx rfl (hb hby d6_38) ?_
   show Steps p.tables e below (s₁.setTop (mkF m 39 #[.val (.ref a1), .val (.ref a2), .val (.int p3), .val (.int 1), .val (.int p5), .val (.int p6), .val (.int c1), .val (.int c2), .unset, .unset, .unset, .unset, .unset] [(.int 0)])) _
   simp only [if_pos hb101] at hv100; subst hv100
   exact k
  ·refine XS.ifNo X0.here hx rfl (hb hby d6_31) rfl ((if0 _ _).trans (feq hb101).1) ?_
   show Steps p.tables e below (s₁.setTop (mkF m 34 #[.val (.ref a1), .val (.ref a2), .val (.int p3), .val (.int 1), .val (.int p5), .val (.int p6), .val (.int c1), .val (.int c2), .unset, .unset, .unset, .unset, .unset] [])) _
   refine XS.iconst X0.here hx rfl (hb hby d6_34) ?_
   show Steps p.tables e below (s₁.setTop (mkF m 35 #[.val (.ref a1), .val (.ref a2), .val (.int p3), .val (.int 1), .val (.int p5), .val (.int p6), .val (.int c1), .val (.int c2), .unset, .unset, .unset, .unset, .unset] [(.int 1)])) _
   refine XS.goto X0.here hx rfl (pc0 := 35) (pc' := 39) rfl (hb hby d6_35) (by decide) (by decide) ?_
   show Steps p.tables e below (s₁.setTop (mkF m 39 #[.val (.ref a1), .val (.ref a2), .val (.int p3), .val (.int 1), .val (.int p5), .val (.int p6), .val (.int c1), .val (.int c2), .unset, .unset, .unset, .unset, .unset] [(.int 1)])) _
   simp only [if_neg hb101] at hv100; subst hv100
   exact k
 refine gO (fun t k => XS.istore X0.here hx rfl (hb hby d6_39) rfl (l' := #[.val (.ref a1), .val (.ref a2), .val (.int p3), .val (.int 1), .val (.int p5), .val (.int p6), .val (.int c1), .val (.int c2), .val (.int v100), .unset, .unset, .unset, .unset]) rfl k) ?_
 show Goes p e below (s₁.setTop (mkF m 41 #[.val (.ref a1), .val (.ref a2), .val (.int p3), .val (.int 1), .val (.int p5), .val (.int p6), .val (.int c1), .val (.int c2), .val (.int v100), .unset, .unset, .unset, .unset] [])) _
 refine gO (fun t k => XS.iload X0.here hx rfl (hb hby d6_41) rfl k) ?_
 refine gO (fun t k => XS.iconst X0.here hx rfl (hb hby d6_43) k) ?_
 refine gO (fun t k => XS.iand X0.here hx rfl (hb hby d6_44) rfl k) ?_
 obtain ⟨v102, hv102⟩ : ∃ z : Int32, z = (if (p6 &&& (2 : Int32)) = (0 : Int32) then (0 : Int32) else (1 : Int32)) := ⟨_, rfl⟩
 refine Goes.of (S' := s₁.setTop (mkF m 53 #[.val (.ref a1), .val (.ref a2), .val (.int p3), .val (.int 1), .val (.int p5), .val (.int p6), .val (.int c1), .val (.int c2), .val (.int v100), .unset, .unset, .unset, .unset] [(.int v102)])) (fun t k => ?_) ?_
 ·by_cases hb103 : (p6 &&& (2 : Int32)) = (0 : Int32)
  ·refine XS.ifYes X0.here hx rfl (pc0 := 45) (pc' := 52) rfl (hb hby d6_45) rfl ((if0 _ _).trans (teq hb103).1) (by decide) (by decide) ?_
   show Steps p.tables e below (s₁.setTop (mkF m 52 #[.val (.ref a1), .val (.ref a2), .val (.int p3), .val (.int 1), .val (.int p5), .val (.int p6), .val (.int c1), .val (.int c2), .val (.int v100), .unset, .unset, .unset, .unset] [])) _
   refine XS.iconst X0.here hx rfl (hb hby d6_52) ?_
   show Steps p.tables e below (s₁.setTop (mkF m 53 #[.val (.ref a1), .val (.ref a2), .val (.int p3), .val (.int 1), .val (.int p5), .val (.int p6), .val (.int c1), .val (.int c2), .val (.int v100), .unset, .unset, .unset, .unset] [(.int 0)])) _
   simp only [if_pos hb103] at hv102; subst hv102
   exact k
  ·refine XS.ifNo X0.here hx rfl (hb hby d6_45) rfl ((if0 _ _).trans (feq hb103).1) ?_
   show Steps p.tables e below (s₁.setTop (mkF m 48 #[.val (.ref a1), .val (.ref a2), .val (.int p3), .val (.int 1), .val (.int p5), .val (.int p6), .val (.int c1), .val (.int c2), .val (.int v100), .unset, .unset, .unset, .unset] [])) _
   refine XS.iconst X0.here hx rfl (hb hby d6_48) ?_
   show Steps p.tables e below (s₁.setTop (mkF m 49 #[.val (.ref a1), .val (.ref a2), .val (.int p3), .val (.int 1), .val (.int p5), .val (.int p6), .val (.int c1), .val (.int c2), .val (.int v100), .unset, .unset, .unset, .unset] [(.int 1)])) _
   refine XS.goto X0.here hx rfl (pc0 := 49) (pc' := 53) rfl (hb hby d6_49) (by decide) (by decide) ?_
   show Steps p.tables e below (s₁.setTop (mkF m 53 #[.val (.ref a1), .val (.ref a2), .val (.int p3), .val (.int 1), .val (.int p5), .val (.int p6), .val (.int c1), .val (.int c2), .val (.int v100), .unset, .unset, .unset, .unset] [(.int 1)])) _
   simp only [if_neg hb103] at hv102; subst hv102
   exact k
 refine gO (fun t k => XS.istore X0.here hx rfl (hb hby d6_53) rfl (l' := #[.val (.ref a1), .val (.ref a2), .val (.int p3), .val (.int 1), .val (.int p5), .val (.int p6), .val (.int c1), .val (.int c2), .val (.int v100), .val (.int v102), .unset, .unset, .unset]) rfl k) ?_
 show Goes p e below (s₁.setTop (mkF m 55 #[.val (.ref a1), .val (.ref a2), .val (.int p3), .val (.int 1), .val (.int p5), .val (.int p6), .val (.int c1), .val (.int c2), .val (.int v100), .val (.int v102), .unset, .unset, .unset] [])) _
 refine gO (fun t k => XS.iload X0.here hx rfl (hb hby d6_55) rfl k) ?_
 have J155 : ∀ (T155 : State) (L155 : List Loc) (h155 : Heap) (v155 : Vm) (k155 : Nat) (x bx : Addr) (kx : ClassId) (zx : Int32) (ks : List Int32) (X155 : Stand p l e (⟨3, 4, 10, 42⟩ : Room) (s.setVm v155) m #[(.ref a1), (.ref a2), (.int p3), (.int 1), (.int p5), (.int p6)] below meth c T155 L155 2 5) (e155 : T155.heap = h155) (N155 : Fr n0 L155) (K155 : Keep h0 h155 [l1, l2, d1, d2, a2]) (z155 : n0 ≤ h155.size) (hS155 : s.Since v155 k155) (y155 : k155 ≤ h155.size) (hZ : Z.Warmed39 (s.setVm v155).vm) (hown : (s.setVm v155).vm.findClass "com/example/hinta/hinta/StatementTextPinLaw" = some m.cls) (C155 : CHr Z consts_1 s.vm h0 v155 h155) (f156 : Old Z n0 h155) (f157 : Fl3 Z h155 a1 (.ref l1)) (f158 : Fl4 Z h155 a1 (.ref l2)) (f159 : Exa Z h155 a1 "com/example/hinta/hinta/Statement") (f160 : Fl0 Z h155 l1 (.ref d1)) (f161 : Fl1 Z h155 l1 (.int 2)) (f162 : Fl2 Z h155 l1 (.int 2)) (f163 : Exa Z h155 l1 "java/util/ArrayList") (f164 : Fl0 Z h155 l2 (.ref d2)) (f165 : Fl1 Z h155 l2 (.int 2)) (f166 : Fl2 Z h155 l2 (.int 2)) (f167 : Exa Z h155 l2 "java/util/ArrayList") (f168 : Arv Z h155 d1 k1 (.object "java/lang/Object") (10 : Int32) [(.ref x0), (.ref x1), .null, .null, .null, .null, .null, .null, .null, .null] .null) (f169 : Arv Z h155 d2 k2 (.object "java/lang/Object") (10 : Int32) [(.ref y0), (.ref y1), .null, .null, .null, .null, .null, .null, .null, .null] .null) (f170 : Arv Z h155 a2 kc .char (12 : Int32) (own_vc us) (.int (0 : Int32))) (f171 : Exa Z h155 x "java/lang/String") (f172 : Fl5 Z h155 x (.int 0)) (f173 : Fl6 Z h155 x (.ref bx)) (f174 : Arv Z h155 bx kx .byte zx (own_vb ks) (.int (0 : Int32))) (hzk : zx.toInt = ks.length) (hlk : ks.length ≤ 1) (ltk : own_lat ks) (hkk : (v100 = 0 → ks = []) ∧ (v100 ≠ 0 → ks = [c1])), Goes p e below (T155.setTop (mkF m 72 #[.val (.ref a1), .val (.ref a2), .val (.int p3), .val (.int 1), .val (.int p5), .val (.int p6), .val (.int c1), .val (.int c2), .val (.int v100), .val (.int v102), .val (.ref x), .unset, .unset] [])) (FinH Z consts_1 s (Q6_75 Z a1 a2 p3 p5 p6 cmS kc us l1 l2 d1 k1 d2 k2 x0 x1 y0 y1 h0 n0) (⟨3, 4, 10, 42⟩ : Room).cells (⟨3, 4, 10, 42⟩ : Room).slots) := by
  intro T155 L155 h155 v155 k155 x bx kx zx ks X155 e155 N155 K155 z155 hS155 y155 hZ hown C155 f156 f157 f158 f159 f160 f161 f162 f163 f164 f165 f166 f167 f168 f169 f170 f171 f172 f173 f174 hzk hlk ltk hkk
  refine gO (fun t k => XS.iload X155.here hx rfl (hb hby d6_72) rfl k) ?_
  have J236 : ∀ (T236 : State) (L236 : List Loc) (h236 : Heap) (v236 : Vm) (k236 : Nat) (y by_ : Addr) (ky : ClassId) (zy : Int32) (vs : List Int32) (X236 : Stand p l e (⟨3, 4, 10, 42⟩ : Room) (s.setVm v236) m #[(.ref a1), (.ref a2), (.int p3), (.int 1), (.int p5), (.int p6)] below meth c T236 L236 4 10) (e236 : T236.heap = h236) (N236 : Fr n0 L236) (K236 : Keep h0 h236 [l1, l2, d1, d2, a2]) (z236 : n0 ≤ h236.size) (hS236 : s.Since v236 k236) (y236 : k236 ≤ h236.size) (hZ : Z.Warmed39 (s.setVm v236).vm) (hown : (s.setVm v236).vm.findClass "com/example/hinta/hinta/StatementTextPinLaw" = some m.cls) (C236 : CHr Z consts_1 s.vm h0 v236 h236) (f237 : Old Z n0 h236) (f238 : Fl3 Z h236 a1 (.ref l1)) (f239 : Fl4 Z h236 a1 (.ref l2)) (f240 : Exa Z h236 a1 "com/example/hinta/hinta/Statement") (f241 : Fl0 Z h236 l1 (.ref d1)) (f242 : Fl1 Z h236 l1 (.int 2)) (f243 : Fl2 Z h236 l1 (.int 2)) (f244 : Exa Z h236 l1 "java/util/ArrayList") (f245 : Fl0 Z h236 l2 (.ref d2)) (f246 : Fl1 Z h236 l2 (.int 2)) (f247 : Fl2 Z h236 l2 (.int 2)) (f248 : Exa Z h236 l2 "java/util/ArrayList") (f249 : Arv Z h236 d1 k1 (.object "java/lang/Object") (10 : Int32) [(.ref x0), (.ref x1), .null, .null, .null, .null, .null, .null, .null, .null] .null) (f250 : Arv Z h236 d2 k2 (.object "java/lang/Object") (10 : Int32) [(.ref y0), (.ref y1), .null, .null, .null, .null, .null, .null, .null, .null] .null) (f251 : Arv Z h236 a2 kc .char (12 : Int32) (own_vc us) (.int (0 : Int32))) (f252 : Exa Z h236 x "java/lang/String") (f253 : Fl5 Z h236 x (.int 0)) (f254 : Fl6 Z h236 x (.ref bx)) (f255 : Arv Z h236 bx kx .byte zx (own_vb ks) (.int (0 : Int32))) (f256 : Exa Z h236 y "java/lang/String") (f257 : Fl5 Z h236 y (.int 0)) (f258 : Fl6 Z h236 y (.ref by_)) (f259 : Arv Z h236 by_ ky .byte zy (own_vb vs) (.int (0 : Int32))) (hzv : zy.toInt = vs.length) (hlv : vs.length ≤ 1) (ltv : own_lat vs) (hkv : (v102 = 0 → vs = []) ∧ (v102 ≠ 0 → vs = [c2])), Goes p e below (T236.setTop (mkF m 89 #[.val (.ref a1), .val (.ref a2), .val (.int p3), .val (.int 1), .val (.int p5), .val (.int p6), .val (.int c1), .val (.int c2), .val (.int v100), .val (.int v102), .val (.ref x), .val (.ref y), .unset] [])) (FinH Z consts_1 s (Q6_75 Z a1 a2 p3 p5 p6 cmS kc us l1 l2 d1 k1 d2 k2 x0 x1 y0 y1 h0 n0) (⟨3, 4, 10, 42⟩ : Room).cells (⟨3, 4, 10, 42⟩ : Room).slots) := by
   intro T236 L236 h236 v236 k236 y by_ ky zy vs X236 e236 N236 K236 z236 hS236 y236 hZ hown C236 f237 f238 f239 f240 f241 f242 f243 f244 f245 f246 f247 f248 f249 f250 f251 f252 f253 f254 f255 f256 f257 f258 f259 hzv hlv ltv hkv
   refine gO (fun t k => XS.aloadN X236.here hx rfl (hb hby d6_89) rfl rfl k) ?_
   refine gO (fun t k => XS.aload X236.here hx rfl (hb hby d6_90) rfl rfl k) ?_
   refine gO (fun t k => XS.aload X236.here hx rfl (hb hby d6_92) rfl rfl k) ?_
   obtain ⟨cq260, kq260, q260a, q260b, q260c⟩ := isOf hZ e236 f240
   obtain ⟨_, _, ⟨T260, L260, k260, n260⟩, -, X260, ⟨Lc260, hQ260, l260, y260, z260⟩, st260⟩ := X236.virtualBack hx (y := mn9) (z := mn9) hown (mvT hZ (wd hw 164 rfl)) (mvT hZ (wd hw 165 rfl)) (notFace_of_selects (args := #[]) (mvT hZ (wd hw 167 rfl))) (mvT hZ (wd hw 167 rfl)) (mvT hZ (wd hw 166 rfl)) (by decide) (backOf (W := 0) (rm29_16 l Z a0 hw [] a1 x y l1 l2 d1 k1 d2 k2 x0 x1 y0 y1 h236 n0 z236 f240 f238 f239 f244 f241 f242 f243 f248 f245 f246 f247 f249 f250 ne G_l1 G_l2 nd G_d1 G_d2 Ov1 Ov2 f252 f256) hZ (wd hw 168 rfl) (wd hw 3 rfl) (by decide) (by decide)) q260a q260c (g := (mkF m 94 #[.val (.ref a1), .val (.ref a2), .val (.int p3), .val (.int 1), .val (.int p5), .val (.int p6), .val (.int c1), .val (.int c2), .val (.int v100), .val (.int v102), .val (.ref x), .val (.ref y), .unset] [(.ref y), (.ref x), (.ref a1)])) rfl (by rw [hml]; rfl) (Steps.refl _) (argsL := [(.ref x), (.ref y)]) (rest := []) (lenOf pd_43 rfl) rfl (wr0 rfl rfl) (hb hby d6_94) (fun _ _ => ⟨rfl, e236, (by decide : 4 + 0 ≤ _), (by decide : 10 + 0 ≤ _)⟩)
   dsimp only [Pt.U, Pt.locs, Pt.cells, Pt.slots] at X260 l260 y260 z260 st260 hQ260
   subst l260 y260 z260
   obtain ⟨rfl, N260q, K260, E260s, F260s_k, F260s_v, E260l1, F260l1_e, F260l1_s, F260l1_m, E260l2, F260l2_e, F260l2_s, F260l2_m, V1260, V2260⟩ := hQ260
   have N260 := Fr.app N236 N260q
   have K261 : Keep h0 T260.heap [l1, l2, d1, d2, a2] := K236.trans K260 (allS (Or.inl (List.mem_of_getElem? (i := 0) rfl)) (allS (Or.inl (List.mem_of_getElem? (i := 1) rfl)) (allS (Or.inl (List.mem_of_getElem? (i := 2) rfl)) (allS (Or.inl (List.mem_of_getElem? (i := 3) rfl)) all0))))
   have q265 : a2 ≠ l1 := Ne.symm (Exa.neArv f244 f251 (wd hw 11 rfl))
   have q266 : x ≠ l1 := Exa.ne f252 f244 (by decide)
   have q267 : bx ≠ l1 := Ne.symm (Exa.neArv f244 f255 (wd hw 11 rfl))
   have q268 : y ≠ l1 := Exa.ne f256 f244 (by decide)
   have q269 : by_ ≠ l1 := Ne.symm (Exa.neArv f244 f259 (wd hw 11 rfl))
   have q273 : a2 ≠ l2 := Ne.symm (Exa.neArv f248 f251 (wd hw 11 rfl))
   have q274 : x ≠ l2 := Exa.ne f252 f248 (by decide)
   have q275 : bx ≠ l2 := Ne.symm (Exa.neArv f248 f255 (wd hw 11 rfl))
   have q276 : y ≠ l2 := Exa.ne f256 f248 (by decide)
   have q277 : by_ ≠ l2 := Ne.symm (Exa.neArv f248 f259 (wd hw 11 rfl))
   have q279 : a2 ≠ d1 := arv_ne f251 f249 (Or.inl (by decide))
   have q280 : x ≠ d1 := Exa.neArv f252 f249 (wd hw 84 rfl)
   have q281 : bx ≠ d1 := own_arvty f255 f249 (by decide)
   have q282 : y ≠ d1 := Exa.neArv f256 f249 (wd hw 84 rfl)
   have q283 : by_ ≠ d1 := own_arvty f259 f249 (by decide)
   have q285 : a2 ≠ d2 := arv_ne f251 f250 (Or.inl (by decide))
   have q286 : x ≠ d2 := Exa.neArv f252 f250 (wd hw 84 rfl)
   have q287 : bx ≠ d2 := own_arvty f255 f250 (by decide)
   have q288 : y ≠ d2 := Exa.neArv f256 f250 (wd hw 84 rfl)
   have q289 : by_ ≠ d2 := own_arvty f259 f250 (by decide)
   have z290 := Nat.le_trans z236 K260.1
   have z291 := Nat.le_trans y236 K260.1
   have C292 := C236.trans (CHr.keep K260 (sfS (Safe.exa hZ.alike f244 (by decide) (by decide)) (sfS (Safe.exa hZ.alike f248 (by decide) (by decide)) (sfS (Safe.arv hZ.alike f249 (by decide)) (sfS (Safe.arv hZ.alike f250 (by decide)) sf0)))) C236.1)
   have f293 := f237.keep K260 (allS G_l1 (allS G_l2 (allS G_d1 (allS G_d2 all0))))
   have f307 := f251.keep K260 (ninS q265 (ninS q273 (ninS q279 (ninS q285 nin0))))
   have f308 := f252.keep K260
   have f309 := f253.keep K260 (ninS q266 (ninS q274 (ninS q280 (ninS q286 nin0))))
   have f310 := f254.keep K260 (ninS q266 (ninS q274 (ninS q280 (ninS q286 nin0))))
   have f311 := f255.keep K260 (ninS q267 (ninS q275 (ninS q281 (ninS q287 nin0))))
   have f312 := f256.keep K260
   have f313 := f257.keep K260 (ninS q268 (ninS q276 (ninS q282 (ninS q288 nin0))))
   have f314 := f258.keep K260 (ninS q268 (ninS q276 (ninS q282 (ninS q288 nin0))))
   have f315 := f259.keep K260 (ninS q269 (ninS q277 (ninS q283 (ninS q289 nin0))))
   refine Goes.of (fun t k => st260.trans k) ?_
   refine gO (fun t k => XS.pop X260.here hx rfl (hb hby d6_97) rfl rfl k) ?_
   refine gO (fun t k => XS.iloadN X260.here hx rfl (hb hby d6_98) rfl k) ?_
   show Goes p e below (T260.setTop (mkF m 99 #[.val (.ref a1), .val (.ref a2), .val (.int p3), .val (.int 1), .val (.int p5), .val (.int p6), .val (.int c1), .val (.int c2), .val (.int v100), .val (.int v102), .val (.ref x), .val (.ref y), .unset] [(.int p3)])) _
   refine gO (fun t k => XS.istore X260.here hx rfl (hb hby d6_99) rfl (l' := #[.val (.ref a1), .val (.ref a2), .val (.int p3), .val (.int 1), .val (.int p5), .val (.int p6), .val (.int c1), .val (.int c2), .val (.int v100), .val (.int v102), .val (.ref x), .val (.ref y), .val (.int p3)]) rfl k) ?_
   refine gO (fun t k => XS.iload X260.here hx rfl (hb hby d6_101) rfl k) ?_
   have J357 : ∀ (T357 : State) (L357 : List Loc) (h357 : Heap) (v357 : Vm) (k357 : Nat) (n3 : Int32) (X357 : Stand p l e (⟨3, 4, 10, 42⟩ : Room) (s.setVm v357) m #[(.ref a1), (.ref a2), (.int p3), (.int 1), (.int p5), (.int p6)] below meth c T357 L357 4 10) (e357 : T357.heap = h357) (N357 : Fr n0 L357) (K357 : Keep h0 h357 [l1, l2, d1, d2, a2]) (z357 : n0 ≤ h357.size) (hS357 : s.Since v357 k357) (y357 : k357 ≤ h357.size) (hZ : Z.Warmed39 (s.setVm v357).vm) (hown : (s.setVm v357).vm.findClass "com/example/hinta/hinta/StatementTextPinLaw" = some m.cls) (C357 : CHr Z consts_1 s.vm h0 v357 h357) (f358 : Old Z n0 h357) (f359 : Fl3 Z h357 a1 (.ref l1)) (f360 : Fl4 Z h357 a1 (.ref l2)) (f361 : Exa Z h357 a1 "com/example/hinta/hinta/Statement") (f362 : Exa Z h357 l1 "java/util/ArrayList") (f363 : Exa Z h357 l2 "java/util/ArrayList") (f364 : Arv Z h357 a2 kc .char (12 : Int32) (own_vc (us ++ ks)) (.int (0 : Int32))) (f365 : Exa Z h357 x "java/lang/String") (f366 : Fl5 Z h357 x (.int 0)) (f367 : Fl6 Z h357 x (.ref bx)) (f368 : Arv Z h357 bx kx .byte zx (own_vb ks) (.int (0 : Int32))) (f369 : Exa Z h357 y "java/lang/String") (f370 : Fl5 Z h357 y (.int 0)) (f371 : Fl6 Z h357 y (.ref by_)) (f372 : Arv Z h357 by_ ky .byte zy (own_vb vs) (.int (0 : Int32))) (f373 : Fl0 Z h357 l1 (.ref d1)) (f374 : Fl1 Z h357 l1 (.int 3)) (f375 : Fl2 Z h357 l1 (.int 3)) (f376 : Arv Z h357 d1 k1 (.object "java/lang/Object") (10 : Int32) [(.ref x0), (.ref x1), (.ref x), .null, .null, .null, .null, .null, .null, .null] .null) (f377 : Fl0 Z h357 l2 (.ref d2)) (f378 : Fl1 Z h357 l2 (.int 3)) (f379 : Fl2 Z h357 l2 (.int 3)) (f380 : Arv Z h357 d2 k2 (.object "java/lang/Object") (10 : Int32) [(.ref y0), (.ref y1), (.ref y), .null, .null, .null, .null, .null, .null, .null] .null) (hn3 : n3.toInt = ((us ++ ks) : List Int32).length), Goes p e below (T357.setTop (mkF m 118 #[.val (.ref a1), .val (.ref a2), .val (.int p3), .val (.int 1), .val (.int p5), .val (.int p6), .val (.int c1), .val (.int c2), .val (.int v100), .val (.int v102), .val (.ref x), .val (.ref y), .val (.int n3)] [])) (FinH Z consts_1 s (Q6_75 Z a1 a2 p3 p5 p6 cmS kc us l1 l2 d1 k1 d2 k2 x0 x1 y0 y1 h0 n0) (⟨3, 4, 10, 42⟩ : Room).cells (⟨3, 4, 10, 42⟩ : Room).slots) := by
    intro T357 L357 h357 v357 k357 n3 X357 e357 N357 K357 z357 hS357 y357 hZ hown C357 f358 f359 f360 f361 f362 f363 f364 f365 f366 f367 f368 f369 f370 f371 f372 f373 f374 f375 f376 f377 f378 f379 f380 hn3
    refine gO (fun t k => XS.aloadN X357.here hx rfl (hb hby d6_118) rfl rfl k) ?_
    refine gO (fun t k => XS.iload X357.here hx rfl (hb hby d6_119) rfl k) ?_
    refine gO (fun t k => XS.bipush X357.here hx rfl (hb hby d6_121) k) ?_
    have Vc381 := f364
    obtain ⟨clc381, Arc381, qc381, Sc381, Nc381, Hc381, Gc381⟩ := Vc381
    have hin382j : (n3).toNatClampNeg = (own_vc (us ++ ks)).length := (own_cl hn3).trans (own_lvc _).symm
    have hin382 : ¬ (n3 < 0 ∨ clc381.slots.size ≤ (n3).toNatClampNeg) := inb_of Sc381 ⟨own_nn hn3, Int32.lt_iff_toInt_lt.mpr (by have e : (12 : Int32).toInt = 12 := (by decide); have e1 : (n3).toInt = ((us ++ ks) : List Int32).length := hn3; revert e1; (try simp only [List.length_append, List.length_nil, List.length_cons]); intro e1; omega)⟩
    obtain ⟨T383, h383, X383, e383, W383, st383⟩ := stC X357 hx hZ e357 Arc381 (j := n3) hin382 (g := (mkF m 123 #[.val (.ref a1), .val (.ref a2), .val (.int p3), .val (.int 1), .val (.int p5), .val (.int p6), .val (.int c1), .val (.int c2), .val (.int v100), .val (.int v102), .val (.ref x), .val (.ref y), .val (.int n3)] [(.int 32), (.int n3), (.ref a2)])) rfl rfl (hb hby d6_123)
    have V383 := own_push Arc381 qc381 Sc381 Nc381 Hc381 Gc381 (fits_nar_char _) W383 hin382j
    have V383 : Arv Z h383 a2 kc .char (12 : Int32) (own_vc ((us ++ ks) ++ [32])) (.int (0 : Int32)) := by have q : Arv Z _ _ _ .char (12 : Int32) (own_vc (us ++ ks) ++ [.int (nar .char 32)]) (.int (0 : Int32)) := V383; rw [own_nch 32 (by decide) (by decide)] at q; rw [← own_vcc]; exact q
    have K384 : Keep h0 h383 [l1, l2, d1, d2, a2] := K357.wr W383 (Or.inl (List.mem_of_getElem? (i := 4) rfl))
    have q385 : a1 ≠ a2 := Exa.neArv f361 f364 (wd hw 2 rfl)
    have q386 : x ≠ a2 := Exa.neArv f365 f364 (wd hw 84 rfl)
    have q387 : bx ≠ a2 := own_arvty f368 f364 (by decide)
    have q388 : y ≠ a2 := Exa.neArv f369 f364 (wd hw 84 rfl)
    have q389 : by_ ≠ a2 := own_arvty f372 f364 (by decide)
    have z390 := Nat.le_trans z357 (Keep.of_wr W383).1
    have z391 := Nat.le_trans y357 (Keep.of_wr W383).1
    have C392 := C357.trans (CHr.wr W383 (Safe.arv hZ.alike f364 (by decide)) C357.1)
    have f393 := f358.wr W383 G_a2
    have f394 := f359.other W383 (Or.inl q385)
    have f395 := f360.other W383 (Or.inl q385)
    have f396 := f361.wr W383
    have f397 := f362.wr W383
    have f398 := f363.wr W383
    have f400 := f365.wr W383
    have f401 := f366.other W383 (Or.inl q386)
    have f402 := f367.other W383 (Or.inl q386)
    have f403 := f368.other W383 q387
    have f404 := f369.wr W383
    have f405 := f370.other W383 (Or.inl q388)
    have f406 := f371.other W383 (Or.inl q388)
    have f407 := f372.other W383 q389
    have f408 := f373.other W383 (Or.inl (Ne.symm q265))
    have f409 := f374.other W383 (Or.inl (Ne.symm q265))
    have f410 := f375.other W383 (Or.inl (Ne.symm q265))
    have f411 := f376.other W383 (Ne.symm q279)
    have f412 := f377.other W383 (Or.inl (Ne.symm q273))
    have f413 := f378.other W383 (Or.inl (Ne.symm q273))
    have f414 := f379.other W383 (Or.inl (Ne.symm q273))
    have f415 := f380.other W383 (Ne.symm q285)
    have N383 := Fr.snoc X383 N357 G_a2
    refine Goes.of st383 ?_
    have hi416 : (n3 + (1 : Int32)).toInt = (((us ++ ks) ++ [32]) : List Int32).length := by
      have e1 : (1 : Int32).toInt = 1 := by decide
      have e2 : (n3).toInt = ((us ++ ks) : List Int32).length := hn3
      have e3 := hn3
      revert e2; (try simp only [List.length_append, List.length_nil, List.length_cons]); intro e2
      rw [Jvm.Kit.i32_add (by omega) (by omega)]; omega
    refine gO (fun t k => XS.iload X383.here hx rfl (hb hby d6_124) rfl k) ?_
    show Goes p e below (T383.setTop (mkF m 126 #[.val (.ref a1), .val (.ref a2), .val (.int p3), .val (.int 1), .val (.int p5), .val (.int p6), .val (.int c1), .val (.int c2), .val (.int v100), .val (.int v102), .val (.ref x), .val (.ref y), .val (.int n3)] [(.int n3)])) _
    refine gO (fun t k => XS.iconst X383.here hx rfl (hb hby d6_126) k) ?_
    refine gO (fun t k => XS.iadd X383.here hx rfl (hb hby d6_127) rfl k) ?_
    refine gO (fun t k => XS.istore X383.here hx rfl (hb hby d6_128) rfl (l' := #[.val (.ref a1), .val (.ref a2), .val (.int p3), .val (.int 1), .val (.int p5), .val (.int p6), .val (.int c1), .val (.int c2), .val (.int v100), .val (.int v102), .val (.ref x), .val (.ref y), .val (.int (n3 + (1 : Int32)))]) rfl k) ?_
    refine gO (fun t k => XS.iload X383.here hx rfl (hb hby d6_130) rfl k) ?_
    have J453 : ∀ (T453 : State) (L453 : List Loc) (h453 : Heap) (v453 : Vm) (k453 : Nat) (n4 : Int32) (X453 : Stand p l e (⟨3, 4, 10, 42⟩ : Room) (s.setVm v453) m #[(.ref a1), (.ref a2), (.int p3), (.int 1), (.int p5), (.int p6)] below meth c T453 L453 4 10) (e453 : T453.heap = h453) (N453 : Fr n0 L453) (K453 : Keep h0 h453 [l1, l2, d1, d2, a2]) (z453 : n0 ≤ h453.size) (hS453 : s.Since v453 k453) (y453 : k453 ≤ h453.size) (hZ : Z.Warmed39 (s.setVm v453).vm) (hown : (s.setVm v453).vm.findClass "com/example/hinta/hinta/StatementTextPinLaw" = some m.cls) (C453 : CHr Z consts_1 s.vm h0 v453 h453) (f454 : Old Z n0 h453) (f455 : Fl3 Z h453 a1 (.ref l1)) (f456 : Fl4 Z h453 a1 (.ref l2)) (f457 : Exa Z h453 a1 "com/example/hinta/hinta/Statement") (f458 : Exa Z h453 l1 "java/util/ArrayList") (f459 : Exa Z h453 l2 "java/util/ArrayList") (f460 : Arv Z h453 a2 kc .char (12 : Int32) (own_vc (((us ++ ks) ++ [32]) ++ vs)) (.int (0 : Int32))) (f461 : Exa Z h453 x "java/lang/String") (f462 : Fl5 Z h453 x (.int 0)) (f463 : Fl6 Z h453 x (.ref bx)) (f464 : Arv Z h453 bx kx .byte zx (own_vb ks) (.int (0 : Int32))) (f465 : Exa Z h453 y "java/lang/String") (f466 : Fl5 Z h453 y (.int 0)) (f467 : Fl6 Z h453 y (.ref by_)) (f468 : Arv Z h453 by_ ky .byte zy (own_vb vs) (.int (0 : Int32))) (f469 : Fl0 Z h453 l1 (.ref d1)) (f470 : Fl1 Z h453 l1 (.int 3)) (f471 : Fl2 Z h453 l1 (.int 3)) (f472 : Arv Z h453 d1 k1 (.object "java/lang/Object") (10 : Int32) [(.ref x0), (.ref x1), (.ref x), .null, .null, .null, .null, .null, .null, .null] .null) (f473 : Fl0 Z h453 l2 (.ref d2)) (f474 : Fl1 Z h453 l2 (.int 3)) (f475 : Fl2 Z h453 l2 (.int 3)) (f476 : Arv Z h453 d2 k2 (.object "java/lang/Object") (10 : Int32) [(.ref y0), (.ref y1), (.ref y), .null, .null, .null, .null, .null, .null, .null] .null) (hn4 : n4.toInt = ((((us ++ ks) ++ [32]) ++ vs) : List Int32).length), Goes p e below (T453.setTop (mkF m 147 #[.val (.ref a1), .val (.ref a2), .val (.int p3), .val (.int 1), .val (.int p5), .val (.int p6), .val (.int c1), .val (.int c2), .val (.int v100), .val (.int v102), .val (.ref x), .val (.ref y), .val (.int n4)] [])) (FinH Z consts_1 s (Q6_75 Z a1 a2 p3 p5 p6 cmS kc us l1 l2 d1 k1 d2 k2 x0 x1 y0 y1 h0 n0) (⟨3, 4, 10, 42⟩ : Room).cells (⟨3, 4, 10, 42⟩ : Room).slots) := by
     intro T453 L453 h453 v453 k453 n4 X453 e453 N453 K453 z453 hS453 y453 hZ hown C453 f454 f455 f456 f457 f458 f459 f460 f461 f462 f463 f464 f465 f466 f467 f468 f469 f470 f471 f472 f473 f474 f475 f476 hn4
     refine gO (fun t k => XS.aloadN X453.here hx rfl (hb hby d6_147) rfl rfl k) ?_
     refine gO (fun t k => XS.iload X453.here hx rfl (hb hby d6_148) rfl k) ?_
     refine gO (fun t k => XS.bipush X453.here hx rfl (hb hby d6_150) k) ?_
     have Vc477 := f460
     obtain ⟨clc477, Arc477, qc477, Sc477, Nc477, Hc477, Gc477⟩ := Vc477
     have hin478j : (n4).toNatClampNeg = (own_vc (((us ++ ks) ++ [32]) ++ vs)).length := (own_cl hn4).trans (own_lvc _).symm
     have hin478 : ¬ (n4 < 0 ∨ clc477.slots.size ≤ (n4).toNatClampNeg) := inb_of Sc477 ⟨own_nn hn4, Int32.lt_iff_toInt_lt.mpr (by have e : (12 : Int32).toInt = 12 := (by decide); have e1 : (n4).toInt = ((((us ++ ks) ++ [32]) ++ vs) : List Int32).length := hn4; revert e1; (try simp only [List.length_append, List.length_nil, List.length_cons]); intro e1; omega)⟩
     obtain ⟨T479, h479, X479, e479, W479, st479⟩ := stC X453 hx hZ e453 Arc477 (j := n4) hin478 (g := (mkF m 152 #[.val (.ref a1), .val (.ref a2), .val (.int p3), .val (.int 1), .val (.int p5), .val (.int p6), .val (.int c1), .val (.int c2), .val (.int v100), .val (.int v102), .val (.ref x), .val (.ref y), .val (.int n4)] [(.int 10), (.int n4), (.ref a2)])) rfl rfl (hb hby d6_152)
     have V479 := own_push Arc477 qc477 Sc477 Nc477 Hc477 Gc477 (fits_nar_char _) W479 hin478j
     have V479 : Arv Z h479 a2 kc .char (12 : Int32) (own_vc ((((us ++ ks) ++ [32]) ++ vs) ++ [10])) (.int (0 : Int32)) := by have q : Arv Z _ _ _ .char (12 : Int32) (own_vc (((us ++ ks) ++ [32]) ++ vs) ++ [.int (nar .char 10)]) (.int (0 : Int32)) := V479; rw [own_nch 10 (by decide) (by decide)] at q; rw [← own_vcc]; exact q
     have K480 : Keep h0 h479 [l1, l2, d1, d2, a2] := K453.wr W479 (Or.inl (List.mem_of_getElem? (i := 4) rfl))
     have z482 := Nat.le_trans y453 (Keep.of_wr W479).1
     have C483 := C453.trans (CHr.wr W479 (Safe.arv hZ.alike f460 (by decide)) C453.1)
     have f485 := f455.other W479 (Or.inl q385)
     have f486 := f456.other W479 (Or.inl q385)
     have f487 := f457.wr W479
     have f488 := f458.wr W479
     have f489 := f459.wr W479
     have f491 := f461.wr W479
     have f492 := f462.other W479 (Or.inl q386)
     have f493 := f463.other W479 (Or.inl q386)
     have f494 := f464.other W479 q387
     have f495 := f465.wr W479
     have f496 := f466.other W479 (Or.inl q388)
     have f497 := f467.other W479 (Or.inl q388)
     have f498 := f468.other W479 q389
     have f499 := f469.other W479 (Or.inl (Ne.symm q265))
     have f500 := f470.other W479 (Or.inl (Ne.symm q265))
     have f501 := f471.other W479 (Or.inl (Ne.symm q265))
     have f502 := f472.other W479 (Ne.symm q279)
     have f503 := f473.other W479 (Or.inl (Ne.symm q273))
     have f504 := f474.other W479 (Or.inl (Ne.symm q273))
     have f505 := f475.other W479 (Or.inl (Ne.symm q273))
     have f506 := f476.other W479 (Ne.symm q285)
     have N479 := Fr.snoc X479 N453 G_a2
     refine Goes.of st479 ?_
     have hi507 : (n4 + (1 : Int32)).toInt = (((((us ++ ks) ++ [32]) ++ vs) ++ [10]) : List Int32).length := by
       have e1 : (1 : Int32).toInt = 1 := by decide
       have e2 : (n4).toInt = ((((us ++ ks) ++ [32]) ++ vs) : List Int32).length := hn4
       have e3 := hn4
       revert e2; (try simp only [List.length_append, List.length_nil, List.length_cons]); intro e2
       rw [Jvm.Kit.i32_add (by omega) (by omega)]; omega
     refine gO (fun t k => XS.iload X479.here hx rfl (hb hby d6_153) rfl k) ?_
     show Goes p e below (T479.setTop (mkF m 155 #[.val (.ref a1), .val (.ref a2), .val (.int p3), .val (.int 1), .val (.int p5), .val (.int p6), .val (.int c1), .val (.int c2), .val (.int v100), .val (.int v102), .val (.ref x), .val (.ref y), .val (.int n4)] [(.int n4)])) _
     refine gO (fun t k => XS.iconst X479.here hx rfl (hb hby d6_155) k) ?_
     refine gO (fun t k => XS.iadd X479.here hx rfl (hb hby d6_156) rfl k) ?_
     refine gO (fun t k => XS.istore X479.here hx rfl (hb hby d6_157) rfl (l' := #[.val (.ref a1), .val (.ref a2), .val (.int p3), .val (.int 1), .val (.int p5), .val (.int p6), .val (.int c1), .val (.int c2), .val (.int v100), .val (.int v102), .val (.ref x), .val (.ref y), .val (.int (n4 + (1 : Int32)))]) rfl k) ?_
     refine gO (fun t k => XS.iload X479.here hx rfl (hb hby d6_159) rfl k) ?_
     show Goes p e below (T479.setTop (mkF m 161 #[.val (.ref a1), .val (.ref a2), .val (.int p3), .val (.int 1), .val (.int p5), .val (.int p6), .val (.int c1), .val (.int c2), .val (.int v100), .val (.int v102), .val (.ref x), .val (.ref y), .val (.int (n4 + (1 : Int32)))] [(.int (n4 + (1 : Int32)))])) _
     have eh : T479.heap = h479 := e479
     have eh : T479.heap = h479 := e479
     have hCH : CHr Z consts_1 s.vm s.heap T479.vm T479.heap := by rw [eh, hh]; exact C483.trans (CHv.at X479 hZ (own_EW hw) C483.1)
     exact Goes.retIH X479 hS453 (by rw [e479]; exact z482) hx Bd.returns hlocks (hb hby d6_161) (⟨x, bx, _, zx, ks, y, by_, _, zy, vs, _, rfl, N479, by rw [eh]; exact K480, hi507, hzk, hlk, ltk, hzv, hlv, ltv, by rw [eh]; exact f491, by rw [eh]; exact f492, by rw [eh]; exact f493, by rw [eh]; exact f494, by rw [eh]; exact f495, by rw [eh]; exact f496, by rw [eh]; exact f497, by rw [eh]; exact f498, by rw [eh]; exact f487, by rw [eh]; exact f485, by rw [eh]; exact f486, by rw [eh]; exact f488, by rw [eh]; exact f499, by rw [eh]; exact f500, by rw [eh]; exact f501, by rw [eh]; exact f489, by rw [eh]; exact f503, by rw [eh]; exact f504, by rw [eh]; exact f505, by rw [eh]; exact f502, by rw [eh]; exact f506, by rw [eh]; exact V479⟩) (hCH) (by decide) (by decide)
    by_cases hc132_417 : v102 = (0 : Int32)
    ·refine gO (fun t k => XS.ifYes X383.here hx rfl (pc0 := 132) (pc' := 147) rfl (hb hby d6_132) rfl ((if0 _ _).trans (teq hc132_417).1) (by decide) (by decide) k) ?_
     show Goes p e below (T383.setTop (mkF m 147 #[.val (.ref a1), .val (.ref a2), .val (.int p3), .val (.int 1), .val (.int p5), .val (.int p6), .val (.int c1), .val (.int c2), .val (.int v100), .val (.int v102), .val (.ref x), .val (.ref y), .val (.int (n3 + (1 : Int32)))] [])) _
     have V418 : Arv Z h383 a2 kc .char (12 : Int32) (own_vc (((us ++ ks) ++ [32]) ++ vs)) (.int (0 : Int32)) := by rw [hkv.1 hc132_417, List.append_nil]; exact V383
     show Goes p e below (T383.setTop (mkF m 147 #[.val (.ref a1), .val (.ref a2), .val (.int p3), .val (.int 1), .val (.int p5), .val (.int p6), .val (.int c1), .val (.int c2), .val (.int v100), .val (.int v102), .val (.ref x), .val (.ref y), .val (.int (n3 + (1 : Int32)))] [])) _
     exact J453 _ _ _ _ _ (n3 + (1 : Int32)) X383 e383 N383 K384 z390 hS357 z391 hZ hown C392 f393 f394 f395 f396 f397 f398 V418 f400 f401 f402 f403 f404 f405 f406 f407 f408 f409 f410 f411 f412 f413 f414 f415 (by rw [hkv.1 hc132_417, List.append_nil]; exact hi416)
    ·refine gO (fun t k => XS.ifNo X383.here hx rfl (hb hby d6_132) rfl ((if0 _ _).trans (feq hc132_417).1) k) ?_
     show Goes p e below (T383.setTop (mkF m 135 #[.val (.ref a1), .val (.ref a2), .val (.int p3), .val (.int 1), .val (.int p5), .val (.int p6), .val (.int c1), .val (.int c2), .val (.int v100), .val (.int v102), .val (.ref x), .val (.ref y), .val (.int (n3 + (1 : Int32)))] [])) _
     refine gO (fun t k => XS.aloadN X383.here hx rfl (hb hby d6_135) rfl rfl k) ?_
     refine gO (fun t k => XS.iload X383.here hx rfl (hb hby d6_136) rfl k) ?_
     refine gO (fun t k => XS.iload X383.here hx rfl (hb hby d6_138) rfl k) ?_
     have Vc420 := V383
     obtain ⟨clc420, Arc420, qc420, Sc420, Nc420, Hc420, Gc420⟩ := Vc420
     have hin421j : ((n3 + (1 : Int32))).toNatClampNeg = (own_vc ((us ++ ks) ++ [32])).length := (own_cl hi416).trans (own_lvc _).symm
     have hin421 : ¬ ((n3 + (1 : Int32)) < 0 ∨ clc420.slots.size ≤ ((n3 + (1 : Int32))).toNatClampNeg) := inb_of Sc420 ⟨own_nn hi416, Int32.lt_iff_toInt_lt.mpr (by have e : (12 : Int32).toInt = 12 := (by decide); have e1 : ((n3 + (1 : Int32))).toInt = (((us ++ ks) ++ [32]) : List Int32).length := hi416; revert e1; (try simp only [List.length_append, List.length_nil, List.length_cons]); intro e1; omega)⟩
     obtain ⟨T422, h422, X422, e422, W422, st422⟩ := stC X383 hx hZ e383 Arc420 (j := (n3 + (1 : Int32))) hin421 (g := (mkF m 140 #[.val (.ref a1), .val (.ref a2), .val (.int p3), .val (.int 1), .val (.int p5), .val (.int p6), .val (.int c1), .val (.int c2), .val (.int v100), .val (.int v102), .val (.ref x), .val (.ref y), .val (.int (n3 + (1 : Int32)))] [(.int c2), (.int (n3 + (1 : Int32))), (.ref a2)])) rfl rfl (hb hby d6_140)
     have V422 := own_push Arc420 qc420 Sc420 Nc420 Hc420 Gc420 (fits_nar_char _) W422 hin421j
     have V422 : Arv Z h422 a2 kc .char (12 : Int32) (own_vc (((us ++ ks) ++ [32]) ++ [c2])) (.int (0 : Int32)) := by have q : Arv Z _ _ _ .char (12 : Int32) (own_vc ((us ++ ks) ++ [32]) ++ [.int (nar .char c2)]) (.int (0 : Int32)) := V422; rw [own_nch c2 r2.1 r2.2] at q; rw [← own_vcc]; exact q
     have K423 : Keep h0 h422 [l1, l2, d1, d2, a2] := K384.wr W422 (Or.inl (List.mem_of_getElem? (i := 4) rfl))
     have z424 := Nat.le_trans z390 (Keep.of_wr W422).1
     have z425 := Nat.le_trans z391 (Keep.of_wr W422).1
     have C426 := C392.trans (CHr.wr W422 (Safe.arv hZ.alike V383 (by decide)) C392.1)
     have f427 := f393.wr W422 G_a2
     have f428 := f394.other W422 (Or.inl q385)
     have f429 := f395.other W422 (Or.inl q385)
     have f430 := f396.wr W422
     have f431 := f397.wr W422
     have f432 := f398.wr W422
     have f434 := f400.wr W422
     have f435 := f401.other W422 (Or.inl q386)
     have f436 := f402.other W422 (Or.inl q386)
     have f437 := f403.other W422 q387
     have f438 := f404.wr W422
     have f439 := f405.other W422 (Or.inl q388)
     have f440 := f406.other W422 (Or.inl q388)
     have f441 := f407.other W422 q389
     have f442 := f408.other W422 (Or.inl (Ne.symm q265))
     have f443 := f409.other W422 (Or.inl (Ne.symm q265))
     have f444 := f410.other W422 (Or.inl (Ne.symm q265))
     have f445 := f411.other W422 (Ne.symm q279)
     have f446 := f412.other W422 (Or.inl (Ne.symm q273))
     have f447 := f413.other W422 (Or.inl (Ne.symm q273))
     have f448 := f414.other W422 (Or.inl (Ne.symm q273))
     have f449 := f415.other W422 (Ne.symm q285)
     have N422 := Fr.snoc X422 N383 G_a2
     refine Goes.of st422 ?_
     have hi450 : ((n3 + (1 : Int32)) + (1 : Int32)).toInt = ((((us ++ ks) ++ [32]) ++ [c2]) : List Int32).length := by
       have e1 : (1 : Int32).toInt = 1 := by decide
       have e2 : ((n3 + (1 : Int32))).toInt = (((us ++ ks) ++ [32]) : List Int32).length := hi416
       have e3 := hi416
       revert e2; (try simp only [List.length_append, List.length_nil, List.length_cons]); intro e2
       rw [Jvm.Kit.i32_add (by omega) (by omega)]; omega
     have V451 : Arv Z h422 a2 kc .char (12 : Int32) (own_vc (((us ++ ks) ++ [32]) ++ vs)) (.int (0 : Int32)) := by rw [hkv.2 hc132_417]; exact V422
     refine gO (fun t k => XS.iload X422.here hx rfl (hb hby d6_141) rfl k) ?_
     show Goes p e below (T422.setTop (mkF m 143 #[.val (.ref a1), .val (.ref a2), .val (.int p3), .val (.int 1), .val (.int p5), .val (.int p6), .val (.int c1), .val (.int c2), .val (.int v100), .val (.int v102), .val (.ref x), .val (.ref y), .val (.int (n3 + (1 : Int32)))] [(.int (n3 + (1 : Int32)))])) _
     refine gO (fun t k => XS.iconst X422.here hx rfl (hb hby d6_143) k) ?_
     refine gO (fun t k => XS.iadd X422.here hx rfl (hb hby d6_144) rfl k) ?_
     refine gO (fun t k => XS.istore X422.here hx rfl (hb hby d6_145) rfl (l' := #[.val (.ref a1), .val (.ref a2), .val (.int p3), .val (.int 1), .val (.int p5), .val (.int p6), .val (.int c1), .val (.int c2), .val (.int v100), .val (.int v102), .val (.ref x), .val (.ref y), .val (.int ((n3 + (1 : Int32)) + (1 : Int32)))]) rfl k) ?_
     show Goes p e below (T422.setTop (mkF m 147 #[.val (.ref a1), .val (.ref a2), .val (.int p3), .val (.int 1), .val (.int p5), .val (.int p6), .val (.int c1), .val (.int c2), .val (.int v100), .val (.int v102), .val (.ref x), .val (.ref y), .val (.int ((n3 + (1 : Int32)) + (1 : Int32)))] [])) _
     exact J453 _ _ _ _ _ ((n3 + (1 : Int32)) + (1 : Int32)) X422 e422 N422 K423 z424 hS357 z425 hZ hown C426 f427 f428 f429 f430 f431 f432 V451 f434 f435 f436 f437 f438 f439 f440 f441 f442 f443 f444 f445 f446 f447 f448 f449 (by rw [hkv.2 hc132_417]; exact hi450)
   by_cases hc103_316 : v100 = (0 : Int32)
   ·refine gO (fun t k => XS.ifYes X260.here hx rfl (pc0 := 103) (pc' := 118) rfl (hb hby d6_103) rfl ((if0 _ _).trans (teq hc103_316).1) (by decide) (by decide) k) ?_
    have V317 : Arv Z T260.heap a2 kc .char (12 : Int32) (own_vc (us ++ ks)) (.int (0 : Int32)) := by rw [hkk.1 hc103_316, List.append_nil]; exact f307
    show Goes p e below (T260.setTop (mkF m 118 #[.val (.ref a1), .val (.ref a2), .val (.int p3), .val (.int 1), .val (.int p5), .val (.int p6), .val (.int c1), .val (.int c2), .val (.int v100), .val (.int v102), .val (.ref x), .val (.ref y), .val (.int p3)] [])) _
    exact J357 _ _ _ _ _ p3 X260 rfl N260 K261 z290 hS236 z291 hZ hown C292 f293 F260s_k F260s_v E260s E260l1 E260l2 V317 f308 f309 f310 f311 f312 f313 f314 f315 F260l1_e F260l1_s F260l1_m V1260 F260l2_e F260l2_s F260l2_m V2260 (by rw [hkk.1 hc103_316, List.append_nil]; exact hn)
   ·refine gO (fun t k => XS.ifNo X260.here hx rfl (hb hby d6_103) rfl ((if0 _ _).trans (feq hc103_316).1) k) ?_
    refine gO (fun t k => XS.aloadN X260.here hx rfl (hb hby d6_106) rfl rfl k) ?_
    refine gO (fun t k => XS.iload X260.here hx rfl (hb hby d6_107) rfl k) ?_
    show Goes p e below (T260.setTop (mkF m 109 #[.val (.ref a1), .val (.ref a2), .val (.int p3), .val (.int 1), .val (.int p5), .val (.int p6), .val (.int c1), .val (.int c2), .val (.int v100), .val (.int v102), .val (.ref x), .val (.ref y), .val (.int p3)] [(.int p3), (.ref a2)])) _
    refine gO (fun t k => XS.iload X260.here hx rfl (hb hby d6_109) rfl k) ?_
    have Vc319 := f307
    obtain ⟨clc319, Arc319, qc319, Sc319, Nc319, Hc319, Gc319⟩ := Vc319
    have hin320j : (p3).toNatClampNeg = (own_vc us).length := (own_cl hn).trans (own_lvc _).symm
    have hin320 : ¬ (p3 < 0 ∨ clc319.slots.size ≤ (p3).toNatClampNeg) := inb_of Sc319 ⟨own_nn hn, Int32.lt_iff_toInt_lt.mpr (by have e : (12 : Int32).toInt = 12 := (by decide); have e1 : (p3).toInt = (us : List Int32).length := hn; revert e1; (try simp only [List.length_append, List.length_nil, List.length_cons]); intro e1; omega)⟩
    obtain ⟨T321, h321, X321, e321, W321, st321⟩ := stC X260 hx hZ rfl Arc319 (j := p3) hin320 (g := (mkF m 111 #[.val (.ref a1), .val (.ref a2), .val (.int p3), .val (.int 1), .val (.int p5), .val (.int p6), .val (.int c1), .val (.int c2), .val (.int v100), .val (.int v102), .val (.ref x), .val (.ref y), .val (.int p3)] [(.int c1), (.int p3), (.ref a2)])) rfl rfl (hb hby d6_111)
    have V321 := own_push Arc319 qc319 Sc319 Nc319 Hc319 Gc319 (fits_nar_char _) W321 hin320j
    have V321 : Arv Z h321 a2 kc .char (12 : Int32) (own_vc (us ++ [c1])) (.int (0 : Int32)) := by have q : Arv Z _ _ _ .char (12 : Int32) (own_vc us ++ [.int (nar .char c1)]) (.int (0 : Int32)) := V321; rw [own_nch c1 r1.1 r1.2] at q; rw [← own_vcc]; exact q
    have K322 : Keep h0 h321 [l1, l2, d1, d2, a2] := K261.wr W321 (Or.inl (List.mem_of_getElem? (i := 4) rfl))
    have q323 : a1 ≠ a2 := Exa.neArv E260s f307 (wd hw 2 rfl)
    have q324 : x ≠ a2 := Exa.neArv f308 f307 (wd hw 84 rfl)
    have q325 : bx ≠ a2 := own_arvty f311 f307 (by decide)
    have q326 : y ≠ a2 := Exa.neArv f312 f307 (wd hw 84 rfl)
    have q327 : by_ ≠ a2 := own_arvty f315 f307 (by decide)
    have z328 := Nat.le_trans z290 (Keep.of_wr W321).1
    have z329 := Nat.le_trans z291 (Keep.of_wr W321).1
    have C330 := C292.trans (CHr.wr W321 (Safe.arv hZ.alike f307 (by decide)) C292.1)
    have f331 := f293.wr W321 G_a2
    have f332 := F260s_k.other W321 (Or.inl q323)
    have f333 := F260s_v.other W321 (Or.inl q323)
    have f334 := E260s.wr W321
    have f335 := E260l1.wr W321
    have f336 := E260l2.wr W321
    have f338 := f308.wr W321
    have f339 := f309.other W321 (Or.inl q324)
    have f340 := f310.other W321 (Or.inl q324)
    have f341 := f311.other W321 q325
    have f342 := f312.wr W321
    have f343 := f313.other W321 (Or.inl q326)
    have f344 := f314.other W321 (Or.inl q326)
    have f345 := f315.other W321 q327
    have f346 := F260l1_e.other W321 (Or.inl (Ne.symm q265))
    have f347 := F260l1_s.other W321 (Or.inl (Ne.symm q265))
    have f348 := F260l1_m.other W321 (Or.inl (Ne.symm q265))
    have f349 := V1260.other W321 (Ne.symm q279)
    have f350 := F260l2_e.other W321 (Or.inl (Ne.symm q273))
    have f351 := F260l2_s.other W321 (Or.inl (Ne.symm q273))
    have f352 := F260l2_m.other W321 (Or.inl (Ne.symm q273))
    have f353 := V2260.other W321 (Ne.symm q285)
    have N321 := Fr.snoc X321 N260 G_a2
    refine Goes.of st321 ?_
    have hi354 : (p3 + (1 : Int32)).toInt = ((us ++ [c1]) : List Int32).length := by
      have e1 : (1 : Int32).toInt = 1 := by decide
      have e2 : (p3).toInt = (us : List Int32).length := hn
      have e3 := hn
      revert e2; (try simp only [List.length_append, List.length_nil, List.length_cons]); intro e2
      rw [Jvm.Kit.i32_add (by omega) (by omega)]; omega
    have V355 : Arv Z h321 a2 kc .char (12 : Int32) (own_vc (us ++ ks)) (.int (0 : Int32)) := by rw [hkk.2 hc103_316]; exact V321
    refine gO (fun t k => XS.iload X321.here hx rfl (hb hby d6_112) rfl k) ?_
    refine gO (fun t k => XS.iconst X321.here hx rfl (hb hby d6_114) k) ?_
    refine gO (fun t k => XS.iadd X321.here hx rfl (hb hby d6_115) rfl k) ?_
    show Goes p e below (T321.setTop (mkF m 116 #[.val (.ref a1), .val (.ref a2), .val (.int p3), .val (.int 1), .val (.int p5), .val (.int p6), .val (.int c1), .val (.int c2), .val (.int v100), .val (.int v102), .val (.ref x), .val (.ref y), .val (.int p3)] [(.int (p3 + (1 : Int32)))])) _
    refine gO (fun t k => XS.istore X321.here hx rfl (hb hby d6_116) rfl (l' := #[.val (.ref a1), .val (.ref a2), .val (.int p3), .val (.int 1), .val (.int p5), .val (.int p6), .val (.int c1), .val (.int c2), .val (.int v100), .val (.int v102), .val (.ref x), .val (.ref y), .val (.int (p3 + (1 : Int32)))]) rfl k) ?_
    show Goes p e below (T321.setTop (mkF m 118 #[.val (.ref a1), .val (.ref a2), .val (.int p3), .val (.int 1), .val (.int p5), .val (.int p6), .val (.int c1), .val (.int c2), .val (.int v100), .val (.int v102), .val (.ref x), .val (.ref y), .val (.int (p3 + (1 : Int32)))] [])) _
    exact J357 _ _ _ _ _ (p3 + (1 : Int32)) X321 e321 N321 K322 z328 hS236 z329 hZ hown C330 f331 f332 f333 f334 f335 f336 V355 f338 f339 f340 f341 f342 f343 f344 f345 f346 f347 f348 f349 f350 f351 f352 f353 (by rw [hkk.2 hc103_316]; exact hi354)
  by_cases hc74_175 : v102 = (0 : Int32)
  ·refine gO (fun t k => XS.ifYes X155.here hx rfl (pc0 := 74) (pc' := 85) rfl (hb hby d6_74) rfl ((if0 _ _).trans (teq hc74_175).1) (by decide) (by decide) k) ?_
   show Goes p e below (T155.setTop (mkF m 85 #[.val (.ref a1), .val (.ref a2), .val (.int p3), .val (.int 1), .val (.int p5), .val (.int p6), .val (.int c1), .val (.int c2), .val (.int v100), .val (.int v102), .val (.ref x), .unset, .unset] [])) _
   obtain ⟨a176, T176, h176, k176, b176, c176, X176, e176, E176, hS176, kS176, hZ, hown, S176, F176c, F176v, V176, -, -, C176, -, ne176, st176⟩ := ldcCH (EL := consts_1) X155 hx hZ hown (wd hw 200 rfl) (own_wS hw) e155 hS155 y155 (own_EW hw) (by decide) C155.1 (vs := []) (z := (0 : Int32)) ⟨by decide, by rfl⟩ (by decide) (by decide) (g := (mkF m 85 #[.val (.ref a1), .val (.ref a2), .val (.int p3), .val (.int 1), .val (.int p5), .val (.int p6), .val (.int c1), .val (.int c2), .val (.int v100), .val (.int v102), .val (.ref x), .unset, .unset] [])) rfl (hb hby d6_85) (n := 0) (by decide) (by decide) (by decide) (by decide)
   have C177 := C155.trans C176
   have z178 := Nat.le_trans z155 E176.1
   have f180 := f156.ext E176
   have f181 := f157.ext E176
   have f182 := f158.ext E176
   have f183 := f159.ext E176
   have f184 := f160.ext E176
   have f185 := f161.ext E176
   have f186 := f162.ext E176
   have f187 := f163.ext E176
   have f188 := f164.ext E176
   have f189 := f165.ext E176
   have f190 := f166.ext E176
   have f191 := f167.ext E176
   have f192 := f168.ext E176
   have f193 := f169.ext E176
   have f194 := f170.ext E176
   have f195 := f171.ext E176
   have f196 := f172.ext E176
   have f197 := f173.ext E176
   have f198 := f174.ext E176
   have K199 : Keep h0 h176 [l1, l2, d1, d2, a2] := K155.ext E176
   refine Goes.of st176 ?_
   refine gO (fun t k => XS.astore X176.here hx rfl (hb hby d6_87) rfl rfl (l' := #[.val (.ref a1), .val (.ref a2), .val (.int p3), .val (.int 1), .val (.int p5), .val (.int p6), .val (.int c1), .val (.int c2), .val (.int v100), .val (.int v102), .val (.ref x), .val (.ref a176), .unset]) rfl k) ?_
   show Goes p e below (T176.setTop (mkF m 89 #[.val (.ref a1), .val (.ref a2), .val (.int p3), .val (.int 1), .val (.int p5), .val (.int p6), .val (.int c1), .val (.int c2), .val (.int v100), .val (.int v102), .val (.ref x), .val (.ref a176), .unset] [])) _
   exact J236 _ _ _ _ _ a176 b176 _ 0 [] (X176.mono (by decide) (by decide)) e176 N155 K199 z178 hS176 kS176 hZ hown C177 f180 f181 f182 f183 f184 f185 f186 f187 f188 f189 f190 f191 f192 f193 f194 f195 f196 f197 f198 S176 F176c F176v V176 (by decide) (by simp) (own_lat0) (⟨fun _ => rfl, fun q => absurd hc74_175 q⟩)
  ·refine gO (fun t k => XS.ifNo X155.here hx rfl (hb hby d6_74) rfl ((if0 _ _).trans (feq hc74_175).1) k) ?_
   refine gO (fun t k => XS.iload X155.here hx rfl (hb hby d6_77) rfl k) ?_
   obtain ⟨_, _, ⟨T201, L201, k201, n201⟩, -, X201, ⟨Lc201, hQ201, l201, y201, z201⟩, st201⟩ := Jvm.LawKit.callS X155 hx (y := mn19) hown (mvT hZ (wd hw 150 rfl)) (mvT hZ (wd hw 151 rfl)) (mvT hZ (wd hw 61 rfl)) (mvT hZ (wd hw 152 rfl)) (by decide) (backOf (W := 0) (rm25 l Z a0 hw [] c2 cmS h155 n0 z155 f156 SC cs0 r2.2) hZ (wd hw 152 rfl) (wd hw 61 rfl) (by decide) (by decide)) (g := (mkF m 79 #[.val (.ref a1), .val (.ref a2), .val (.int p3), .val (.int 1), .val (.int p5), .val (.int p6), .val (.int c1), .val (.int c2), .val (.int v100), .val (.int v102), .val (.ref x), .unset, .unset] [(.int c2)])) rfl (by rw [hml]; rfl) (argsL := [(.int c2)]) (rest := []) (lenOf pd_42 rfl) rfl (wr0 rfl rfl) (hb hby d6_79) (fun _ _ => ⟨rfl, e155, (by decide : 2 + 2 ≤ _), (by decide : 5 + 5 ≤ _)⟩)
   dsimp only [Pt.U, Pt.locs, Pt.cells, Pt.slots] at X201 l201 y201 z201 st201 hQ201
   subst l201 y201 z201
   obtain ⟨a201, b201, k201b, rfl, N201q, K201, z201a, E201, F201_c, F201_w, V201⟩ := hQ201
   have N201 := Fr.app N155 N201q
   have K212 : Keep h0 T201.heap [l1, l2, d1, d2, a2] := K155.trans K201 all0
   have z213 := Nat.le_trans z155 K201.1
   have z214 := Nat.le_trans y155 K201.1
   have C215 := C155.trans (CHr.keep K201 sf0 C155.1)
   have f216 := f156.keep K201 all0
   have f217 := f157.keep K201 nin0
   have f218 := f158.keep K201 nin0
   have f219 := f159.keep K201
   have f220 := f160.keep K201 nin0
   have f221 := f161.keep K201 nin0
   have f222 := f162.keep K201 nin0
   have f223 := f163.keep K201
   have f224 := f164.keep K201 nin0
   have f225 := f165.keep K201 nin0
   have f226 := f166.keep K201 nin0
   have f227 := f167.keep K201
   have f228 := f168.keep K201 nin0
   have f229 := f169.keep K201 nin0
   have f230 := f170.keep K201 nin0
   have f231 := f171.keep K201
   have f232 := f172.keep K201 nin0
   have f233 := f173.keep K201 nin0
   have f234 := f174.keep K201 nin0
   refine Goes.of st201 ?_
   refine gO (fun t k => XS.goto X201.here hx rfl (pc0 := 82) (pc' := 87) rfl (hb hby d6_82) (by decide) (by decide) k) ?_
   refine gO (fun t k => XS.astore X201.here hx rfl (hb hby d6_87) rfl rfl (l' := #[.val (.ref a1), .val (.ref a2), .val (.int p3), .val (.int 1), .val (.int p5), .val (.int p6), .val (.int c1), .val (.int c2), .val (.int v100), .val (.int v102), .val (.ref x), .val (.ref a201), .unset]) rfl k) ?_
   show Goes p e below (T201.setTop (mkF m 89 #[.val (.ref a1), .val (.ref a2), .val (.int p3), .val (.int 1), .val (.int p5), .val (.int p6), .val (.int c1), .val (.int c2), .val (.int v100), .val (.int v102), .val (.ref x), .val (.ref a201), .unset] [])) _
   show Goes p e below (T201.setTop (mkF m 89 #[.val (.ref a1), .val (.ref a2), .val (.int p3), .val (.int 1), .val (.int p5), .val (.int p6), .val (.int c1), .val (.int c2), .val (.int v100), .val (.int v102), .val (.ref x), .val (.ref a201), .unset] [])) _
   exact J236 _ _ _ _ _ a201 b201 _ 1 [c2] X201 rfl N201 K212 z213 hS155 z214 hZ hown C215 f216 f217 f218 f219 f220 f221 f222 f223 f224 f225 f226 f227 f228 f229 f230 f231 f232 f233 f234 E201 F201_c F201_w V201 (rfl) (by simp) (own_lat1 r2) (⟨fun q => absurd q hc74_175, fun _ => rfl⟩)
 by_cases hc57_104 : v100 = (0 : Int32)
 ·refine gO (fun t k => XS.ifYes X0.here hx rfl (pc0 := 57) (pc' := 68) rfl (hb hby d6_57) rfl ((if0 _ _).trans (teq hc57_104).1) (by decide) (by decide) k) ?_
  show Goes p e below (s₁.setTop (mkF m 68 #[.val (.ref a1), .val (.ref a2), .val (.int p3), .val (.int 1), .val (.int p5), .val (.int p6), .val (.int c1), .val (.int c2), .val (.int v100), .val (.int v102), .unset, .unset, .unset] [])) _
  obtain ⟨a105, T105, h105, k105, b105, c105, X105, e105, E105, hS105, kS105, hZ, hown, S105, F105c, F105v, V105, -, -, C105, -, ne105, st105⟩ := ldcCH (EL := consts_1) X0 hx hZ hown (wd hw 200 rfl) (own_wS hw) e0 hS0 kS0 (own_EW hw) (by decide) C0.1 (vs := []) (z := (0 : Int32)) ⟨by decide, by rfl⟩ (by decide) (by decide) (g := (mkF m 68 #[.val (.ref a1), .val (.ref a2), .val (.int p3), .val (.int 1), .val (.int p5), .val (.int p6), .val (.int c1), .val (.int c2), .val (.int v100), .val (.int v102), .unset, .unset, .unset] [])) rfl (hb hby d6_68) (n := 0) (by decide) (by decide) (by decide) (by decide)
  have C106 := C0.trans C105
  have z107 := Nat.le_trans Z0 E105.1
  have f109 := O0.ext E105
  have f110 := F_k_a1.ext E105
  have f111 := F_v_a1.ext E105
  have f112 := E_a1.ext E105
  have f113 := F_e_l1.ext E105
  have f114 := F_s_l1.ext E105
  have f115 := F_m_l1.ext E105
  have f116 := E_l1.ext E105
  have f117 := F_e_l2.ext E105
  have f118 := F_s_l2.ext E105
  have f119 := F_m_l2.ext E105
  have f120 := E_l2.ext E105
  have f121 := A1.ext E105
  have f122 := A2.ext E105
  have f123 := V_a2.ext E105
  have K124 : Keep h0 h105 [l1, l2, d1, d2, a2] := K0.ext E105
  refine Goes.of st105 ?_
  refine gO (fun t k => XS.astore X105.here hx rfl (hb hby d6_70) rfl rfl (l' := #[.val (.ref a1), .val (.ref a2), .val (.int p3), .val (.int 1), .val (.int p5), .val (.int p6), .val (.int c1), .val (.int c2), .val (.int v100), .val (.int v102), .val (.ref a105), .unset, .unset]) rfl k) ?_
  show Goes p e below (T105.setTop (mkF m 72 #[.val (.ref a1), .val (.ref a2), .val (.int p3), .val (.int 1), .val (.int p5), .val (.int p6), .val (.int c1), .val (.int c2), .val (.int v100), .val (.int v102), .val (.ref a105), .unset, .unset] [])) _
  exact J155 _ _ _ _ _ a105 b105 _ 0 [] (X105.mono (by decide) (by decide)) e105 N0 K124 z107 hS105 kS105 hZ hown C106 f109 f110 f111 f112 f113 f114 f115 f116 f117 f118 f119 f120 f121 f122 f123 S105 F105c F105v V105 (by decide) (by simp) (own_lat0) (⟨fun _ => rfl, fun q => absurd hc57_104 q⟩)
 ·refine gO (fun t k => XS.ifNo X0.here hx rfl (hb hby d6_57) rfl ((if0 _ _).trans (feq hc57_104).1) k) ?_
  refine gO (fun t k => XS.iload X0.here hx rfl (hb hby d6_60) rfl k) ?_
  obtain ⟨_, _, ⟨T126, L126, k126, n126⟩, -, X126, ⟨Lc126, hQ126, l126, y126, z126⟩, st126⟩ := Jvm.LawKit.callS X0 hx (y := mn19) hown (mvT hZ (wd hw 150 rfl)) (mvT hZ (wd hw 151 rfl)) (mvT hZ (wd hw 61 rfl)) (mvT hZ (wd hw 152 rfl)) (by decide) (backOf (W := 0) (rm25 l Z a0 hw [] c1 cmS h0 n0 Z0 O0 SC cs0 r1.2) hZ (wd hw 152 rfl) (wd hw 61 rfl) (by decide) (by decide)) (g := (mkF m 62 #[.val (.ref a1), .val (.ref a2), .val (.int p3), .val (.int 1), .val (.int p5), .val (.int p6), .val (.int c1), .val (.int c2), .val (.int v100), .val (.int v102), .unset, .unset, .unset] [(.int c1)])) rfl (by rw [hml]; rfl) (argsL := [(.int c1)]) (rest := []) (lenOf pd_42 rfl) rfl (wr0 rfl rfl) (hb hby d6_62) (fun _ _ => ⟨rfl, e0, (by decide : 0 + 2 ≤ _), (by decide : 0 + 5 ≤ _)⟩)
  dsimp only [Pt.U, Pt.locs, Pt.cells, Pt.slots] at X126 l126 y126 z126 st126 hQ126
  subst l126 y126 z126
  obtain ⟨a126, b126, k126b, rfl, N126q, K126, z126a, E126, F126_c, F126_w, V126⟩ := hQ126
  have N126 := Fr.app N0 N126q
  have K135 : Keep h0 T126.heap [l1, l2, d1, d2, a2] := K0.trans K126 all0
  have z136 := Nat.le_trans Z0 K126.1
  have z137 := Nat.le_trans kS0 K126.1
  have C138 := C0.trans (CHr.keep K126 sf0 C0.1)
  have f139 := O0.keep K126 all0
  have f140 := F_k_a1.keep K126 nin0
  have f141 := F_v_a1.keep K126 nin0
  have f142 := E_a1.keep K126
  have f143 := F_e_l1.keep K126 nin0
  have f144 := F_s_l1.keep K126 nin0
  have f145 := F_m_l1.keep K126 nin0
  have f146 := E_l1.keep K126
  have f147 := F_e_l2.keep K126 nin0
  have f148 := F_s_l2.keep K126 nin0
  have f149 := F_m_l2.keep K126 nin0
  have f150 := E_l2.keep K126
  have f151 := A1.keep K126 nin0
  have f152 := A2.keep K126 nin0
  have f153 := V_a2.keep K126 nin0
  refine Goes.of st126 ?_
  refine gO (fun t k => XS.goto X126.here hx rfl (pc0 := 65) (pc' := 70) rfl (hb hby d6_65) (by decide) (by decide) k) ?_
  refine gO (fun t k => XS.astore X126.here hx rfl (hb hby d6_70) rfl rfl (l' := #[.val (.ref a1), .val (.ref a2), .val (.int p3), .val (.int 1), .val (.int p5), .val (.int p6), .val (.int c1), .val (.int c2), .val (.int v100), .val (.int v102), .val (.ref a126), .unset, .unset]) rfl k) ?_
  show Goes p e below (T126.setTop (mkF m 72 #[.val (.ref a1), .val (.ref a2), .val (.int p3), .val (.int 1), .val (.int p5), .val (.int p6), .val (.int c1), .val (.int c2), .val (.int v100), .val (.int v102), .val (.ref a126), .unset, .unset] [])) _
  show Goes p e below (T126.setTop (mkF m 72 #[.val (.ref a1), .val (.ref a2), .val (.int p3), .val (.int 1), .val (.int p5), .val (.int p6), .val (.int c1), .val (.int c2), .val (.int v100), .val (.int v102), .val (.ref a126), .unset, .unset] [])) _
  exact J155 _ _ _ _ _ a126 b126 _ 1 [c1] X126 rfl N126 K135 z136 hS0 z137 hZ hown C138 f139 f140 f141 f142 f143 f144 f145 f146 f147 f148 f149 f150 f151 f152 f153 E126 F126_c F126_w V126 (rfl) (by simp) (own_lat1 r1) (⟨fun q => absurd q hc57_104, fun _ => rfl⟩)
theorem own_lata {a b : List Int32} (h : own_lat a) (g : own_lat b) : own_lat (a ++ b) := fun c hc => (List.mem_append.mp hc).elim (h c) (g c)
theorem own_lat32 : own_lat [32] := own_lat1 (by decide)
theorem own_lat10 : own_lat [10] := own_lat1 (by decide)
theorem ef_0 (m : MethodId) (x0 x1 x2 x3 : Int32) : entryFrame m #[(.int x0), (.int x1), (.int x2), (.int x3)] maxLocals = mkF m 0 #[.val (.int x0), .val (.int x1), .val (.int x2), .val (.int x3), .unset, .unset, .unset, .unset, .unset] [] := by first | (simp [entryFrame, mkF, argsToLocals, Value.category, maxLocals]; done) | rfl
def Q0 (Z : State) (p1 p2 p3 p4 cmS : Int32) (aE : Addr) (kE : ClassId) (fm : Value) (h0 : Heap) (n0 : Nat) (v : Option Value) (h : Heap) (L : List Loc) : Prop := v = some (.int 1) ∧ Fr n0 L
theorem rm0 (l : Launch) (Z : State) (a0 : Array Value) (hw : ∀ d ∈ tables_1, d.before a0 Z = true) (ws : List Jvm.Cond) (p1 p2 p3 p4 cmS : Int32) (aE : Addr) (kE : ClassId) (fm : Value) (h0 : Heap) (n0 : Nat) (Z0 : n0 ≤ h0.size) (O0 : Old Z n0 h0) (SC : Sta Z Z.heap "java/lang/String" "COMPACT_STRINGS" "Z" (.int cmS)) (cs0 : cmS ≠ 0) (SE : Sta Z Z.heap "java/util/ArrayList" "DEFAULTCAPACITY_EMPTY_ELEMENTDATA" "[Ljava/lang/Object;" (.ref aE)) (AE : Arv Z Z.heap aE kE (.object "java/lang/Object") (0 : Int32) [] .null) (SF : Sta Z Z.heap "jdk/internal/util/Preconditions" "SIOOBE_FORMATTER" "Ljava/util/function/BiFunction;" fm) (hfm : fm = .null ∨ ∃ f : Addr, fm = .ref f) :
    MetFree l x (head1 (Jvm.Cond.code x code maxLocals ret :: ws) room_1) (fun a U => a = #[(.int p1), (.int p2), (.int p3), (.int p4)] ∧ Z.Warmed39 U.vm ∧ U.heap = h0 ∧ CHv Z consts_1 U.vm h0) (fun _ _ _ _ _ => True) (fun _ U o U' => ∃ v L, o = .returned v ∧ Q0 Z p1 p2 p3 p4 cmS aE kE fm h0 n0 v U'.heap L ∧ CHr Z consts_1 U.vm U.heap U'.vm U'.heap ∧ ReturnedEndW U o U' L room_1.cells room_1.slots) := by
 refine MetFree.of_bodySF (plainFor_of_name pn_37) hisR ?_
 intro p e s m args below meth c s₁ Bd hml0 hP hK
 obtain ⟨rfl, hZ, hh, hCH0⟩ := hP
 have hx := Bd.exec
 have hby := Bd.bytes
 have hml : c.maxLocals = 9 := hml0
 have hown : s.vm.findClass "com/example/hinta/hinta/StatementTextPinLaw" = some m.cls := findClass_of_methodNamed Bd.named
 have hnm := (name_of_methodNamed Bd.named Bd.method).1
 have hlocks : meth.locks = false := BodyLoose.notSynchronized Bd
 have X0 : Stand p l e room_1 s m #[(.int p1), (.int p2), (.int p3), (.int p4)] below meth c s₁ [] 0 0 := Stand.of_body Bd
 have e0 : s₁.heap = h0 := by rw [← hh, Bd.state]; rfl
 have N0 := Fr.nil n0
 show Goes p e below (s₁.setTop (entryFrame m #[(.int p1), (.int p2), (.int p3), (.int p4)] maxLocals)) (FinH Z consts_1 s (Q0 Z p1 p2 p3 p4 cmS aE kE fm h0 n0) room_1.cells room_1.slots)
 refine Goes.of (fun t k => castTop (ef_0 m p1 p2 p3 p4) k) ?_
 have X0 : Stand p l e room_1 (s.setVm s.vm) m #[(.int p1), (.int p2), (.int p3), (.int p4)] below meth c s₁ [] 0 0 := X0
 have hS0 : s.Since s.vm 0 := (State.WarmedH.refl s).since 0
 have kS0 : 0 ≤ h0.size := Nat.zero_le _
 have hZ : Z.Warmed39 (s.setVm s.vm).vm := hZ
 have hown : (s.setVm s.vm).vm.findClass "com/example/hinta/hinta/StatementTextPinLaw" = some m.cls := hown
 have C0 : CHr Z consts_1 s.vm h0 s.vm h0 := CHr.refl hCH0
 refine gO (fun t k => XS.iloadN X0.here hx rfl (hb hby at_0) rfl k) ?_
 refine gO (fun t k => XS.iconst X0.here hx rfl (hb hby at_1) k) ?_
 refine gO (fun t k => XS.iand X0.here hx rfl (hb hby at_2) rfl k) ?_
 refine gO (fun t k => XS.istore X0.here hx rfl (hb hby at_3) rfl (l' := #[.val (.int p1), .val (.int p2), .val (.int p3), .val (.int p4), .val (.int (p1 &&& (3 : Int32))), .unset, .unset, .unset, .unset]) rfl k) ?_
 show Goes p e below (s₁.setTop (mkF m 5 #[.val (.int p1), .val (.int p2), .val (.int p3), .val (.int p4), .val (.int (p1 &&& (3 : Int32))), .unset, .unset, .unset, .unset] [])) _
 show Goes p e below (s₁.setTop (mkF m 5 #[.val (.int p1), .val (.int p2), .val (.int p3), .val (.int p4), .val (.int (p1 &&& (3 : Int32))), .unset, .unset, .unset, .unset] [])) _
 generalize (p1 &&& (3 : Int32)) = c0
 refine gO (fun t k => XS.bipush X0.here hx rfl (hb hby at_5) k) ?_
 obtain ⟨T100, h100, k100, X100, e100, E100, A100, st100⟩ := newP X0 hx hZ (wd hw 0 rfl) e0 (g := (mkF m 7 #[.val (.int p1), .val (.int p2), .val (.int p3), .val (.int p4), .val (.int c0), .unset, .unset, .unset, .unset] [(.int 12)])) rfl (hb hby at_7) rfl (by decide) (cap := 12) (by decide) (by decide) (by decide) (by decide)
 obtain ⟨b100, g100⟩ : ∃ z, z = h0.size := ⟨_, rfl⟩
 rw [← g100] at A100 st100
 have g101 : n0 ≤ b100 := Nat.le_trans Z0 (Nat.le_of_eq g100.symm)
 have z102 := Nat.le_trans Z0 E100.1
 have z103 := Nat.le_trans kS0 E100.1
 have C105 := C0.trans (CHr.ext E100 C0.1)
 have f106 := O0.ext E100
 have V100 : Arv Z h100 b100 k100 .char (12 : Int32) (own_vc []) (.int (0 : Int32)) := Arv.new A100 (by decide)
 refine Goes.of st100 ?_
 refine gO (fun t k => XS.astore X100.here hx rfl (hb hby at_9) rfl rfl (l' := #[.val (.int p1), .val (.int p2), .val (.int p3), .val (.int p4), .val (.int c0), .val (.ref b100), .unset, .unset, .unset]) rfl k) ?_
 obtain ⟨T107, h107, X107, e107, E107, A107, D107, -, st107⟩ := newO X100 hx hZ hown (wd hw 1 rfl) (wd hw 2 rfl) (wd hw 3 rfl) e100 (g := (mkF m 11 #[.val (.int p1), .val (.int p2), .val (.int p3), .val (.int p4), .val (.int c0), .val (.ref b100), .unset, .unset, .unset] [])) rfl (hb hby at_11) (by decide) (by decide)
 obtain ⟨b107, g107⟩ : ∃ z, z = h100.size := ⟨_, rfl⟩
 rw [← g107] at A107 D107 st107
 have g108 : n0 ≤ b107 := Nat.le_trans z102 (Nat.le_of_eq g107.symm)
 have z109 := Nat.le_trans z102 E107.1
 have z110 := Nat.le_trans z103 E107.1
 have q112 : b100 ≠ b107 := Nat.ne_of_lt (Nat.lt_of_lt_of_le V100.lt (Nat.le_of_eq g107.symm))
 have C113 := C105.trans (CHr.ext E107 C105.1)
 have f114 := f106.ext E107
 have f115 := V100.ext E107
 have f116 : Fld Z h107 b107 "com/example/hinta/hinta/Statement" "keys" "Ljava/util/List;" .null := D107 (Or.inr (wd hw 35 rfl)) (ty := (.object "java/util/List")) (by decide)
 have f117 : Fld Z h107 b107 "com/example/hinta/hinta/Statement" "values" "Ljava/util/List;" .null := D107 (Or.inr (wd hw 37 rfl)) (ty := (.object "java/util/List")) (by decide)
 refine Goes.of st107 ?_
 refine gO (fun t k => XS.dup X107.here hx rfl (hb hby at_14) rfl rfl k) ?_
 obtain ⟨_, _, ⟨T118, L118, k118, n118⟩, -, X118, ⟨Lc118, hQ118, l118, y118, z118⟩, st118⟩ := X107.specialBack hx (y := mn3) rfl hown (mvT hZ (wd hw 4 rfl)) (mvT hZ (wd hw 5 rfl)) (mvT hZ (wd hw 6 rfl)) (by decide) (backOf (W := 1) (rm1 l Z a0 hw [] b107 aE h107 n0 z109 f114 SE A107 f116 f117 g108) hZ (wd hw 6 rfl) (wd hw 3 rfl) (by decide) (by decide)) (g := (mkF m 15 #[.val (.int p1), .val (.int p2), .val (.int p3), .val (.int p4), .val (.int c0), .val (.ref b100), .unset, .unset, .unset] [(.ref b107), (.ref b107)])) rfl (by rw [hml]; rfl) (Steps.refl _) (a := b107) (argsL := []) (rest := [(.ref b107)]) (lenOf pd_2 rfl) rfl (wr0 rfl rfl) (hb hby at_15) (fun _ _ => ⟨rfl, e107, (by decide : 2 + 2 ≤ _), (by decide : 14 + 6 ≤ _)⟩)
 dsimp only [Pt.U, Pt.locs, Pt.cells, Pt.slots] at X118 l118 y118 z118 st118 hQ118
 subst l118 y118 z118
 obtain ⟨lx118, ly118, rfl, N118q, K118, zx118, zy118, nl118, E118s, F118s_k, F118s_v, E118lx, F118lx_e, F118lx_s, F118lx_m, E118ly, F118ly_e, F118ly_s, F118ly_m⟩ := hQ118
 have N118 := Fr.app N0 N118q
 have g122 : n0 ≤ lx118 := Nat.le_trans z109 zx118
 have g126 : n0 ≤ ly118 := Nat.le_trans z109 zy118
 have z127 := Nat.le_trans z109 K118.1
 have z128 := Nat.le_trans z110 K118.1
 have C129 := C113.trans (CHr.keep K118 (sfS (Safe.exa hZ.alike A107 (by decide) (by decide)) sf0) C113.1)
 have f130 := f114.keep K118 (allS g108 all0)
 have f131 := f115.keep K118 (ninS q112 nin0)
 refine Goes.of (fun t k => st118.trans k) ?_
 obtain ⟨LX135, X135, N135⟩ : ∃ LX, Stand p l e room_1 (s.setVm s.vm) m #[(.int p1), (.int p2), (.int p3), (.int p4)] below meth c T118 LX 4 20 ∧ Fr n0 LX := ⟨_, X118, N118⟩
 refine gO (fun t k => XS.astore X135.here hx rfl (hb hby at_18) rfl rfl (l' := #[.val (.int p1), .val (.int p2), .val (.int p3), .val (.int p4), .val (.int c0), .val (.ref b100), .val (.ref b107), .unset, .unset]) rfl k) ?_
 refine gO (fun t k => XS.iconst X135.here hx rfl (hb hby at_20) k) ?_
 show Goes p e below (T118.setTop (mkF m 21 #[.val (.int p1), .val (.int p2), .val (.int p3), .val (.int p4), .val (.int c0), .val (.ref b100), .val (.ref b107), .unset, .unset] [(.int 0)])) _
 refine gO (fun t k => XS.istore X135.here hx rfl (hb hby at_21) rfl (l' := #[.val (.int p1), .val (.int p2), .val (.int p3), .val (.int p4), .val (.int c0), .val (.ref b100), .val (.ref b107), .val (.int 0), .unset]) rfl k) ?_
 refine gO (fun t k => XS.aload X135.here hx rfl (hb hby at_23) rfl rfl k) ?_
 refine gO (fun t k => XS.aload X135.here hx rfl (hb hby at_25) rfl rfl k) ?_
 refine gO (fun t k => XS.iload X135.here hx rfl (hb hby at_27) rfl k) ?_
 refine gO (fun t k => XS.iload X135.here hx rfl (hb hby at_29) rfl k) ?_
 show Goes p e below (T118.setTop (mkF m 31 #[.val (.int p1), .val (.int p2), .val (.int p3), .val (.int p4), .val (.int c0), .val (.ref b100), .val (.ref b107), .val (.int 0), .unset] [(.int c0), (.int 0), (.ref b100), (.ref b107)])) _
 by_cases hc31_136 : (0 : Int32) < c0
 ·refine gO (fun t k => XS.ifNo X135.here hx rfl (hb hby at_31) rfl ((if0 _ _).trans (tlt hc31_136).2.2.2) k) ?_
  refine gO (fun t k => XS.iconst X135.here hx rfl (hb hby at_34) k) ?_
  refine gO (fun t k => XS.goto X135.here hx rfl (pc0 := 35) (pc' := 39) rfl (hb hby at_35) (by decide) (by decide) k) ?_
  refine gO (fun t k => XS.iloadN X135.here hx rfl (hb hby at_39) rfl k) ?_
  refine gO (fun t k => XS.iloadN X135.here hx rfl (hb hby at_40) rfl k) ?_
  show Goes p e below (T118.setTop (mkF m 41 #[.val (.int p1), .val (.int p2), .val (.int p3), .val (.int p4), .val (.int c0), .val (.ref b100), .val (.ref b107), .val (.int 0), .unset] [(.int p1), (.int p2), (.int 1), (.int 0), (.ref b100), (.ref b107)])) _
  refine gO (fun t k => XS.iconst X135.here hx rfl (hb hby at_41) k) ?_
  refine gO (fun t k => XS.iushr X135.here hx rfl (hb hby at_42) rfl k) ?_
  obtain ⟨_, _, ⟨T137, L137, k137, n137⟩, -, X137, hS137, kS137, ⟨Lc137, hQ137, l137, y137, z137, cc137⟩, st137⟩ := callSS X135 hx (y := mn51) hown (mvT hZ (wd hw 38 rfl)) (mvT hZ (wd hw 39 rfl)) (mvT hZ (wd hw 40 rfl)) (mvT hZ (wd hw 41 rfl)) (by decide) (backOfSH (EL := consts_1) (vm0 := s.vm) (W := 0) (rm6_73 l Z a0 hw [] b107 b100 (0 : Int32) p2 ((p1.toUInt32 >>> ((2 : Int32) &&& 31).toUInt32).toInt32) cmS k100 [] aE kE lx118 ly118 T118.heap n0 z127 f130 SC cs0 SE AE E118s F118s_k F118s_v E118lx F118lx_e F118lx_s F118lx_m E118ly F118ly_e F118ly_s F118ly_m nl118 g122 g126 f131 g101 (by decide) (by decide)) hZ (wd hw 41 rfl) (wd hw 40 rfl) (by decide) (by decide) (own_EW hw) C129.1) (g := (mkF m 43 #[.val (.int p1), .val (.int p2), .val (.int p3), .val (.int p4), .val (.int c0), .val (.ref b100), .val (.ref b107), .val (.int 0), .unset] [(.int ((p1.toUInt32 >>> ((2 : Int32) &&& 31).toUInt32).toInt32)), (.int p2), (.int 1), (.int 0), (.ref b100), (.ref b107)])) rfl (by rw [hml]; rfl) (argsL := [(.ref b107), (.ref b100), (.int 0), (.int 1), (.int p2), (.int ((p1.toUInt32 >>> ((2 : Int32) &&& 31).toUInt32).toInt32))]) (rest := []) (lenOf pd_44 rfl) rfl (wr0 rfl rfl) (hb hby at_43) (fun _ _ => ⟨rfl, rfl, (by decide : 4 + 6 ≤ _), (by decide : 20 + 30 ≤ _)⟩)
  dsimp only [Pt.U, Pt.locs, Pt.cells, Pt.slots] at X137 l137 y137 z137 st137 hQ137 hS137 kS137 cc137
  subst l137 y137 z137
  obtain ⟨X137, hS137, hZ, hown⟩ := rebS hS0 z128 X137 hS137 kS137 hZ hown
  obtain ⟨x137r, bx137, kx137, zx137, ks137, y137r, bw137, ky137, zy137, vs137, n137r, d1137, k1137, d2137, k2137, rfl, N137q, K137, hn137, hzx137, hlx137, ltx137, hzy137, hly137, lty137, z1137, z2137, nd137, O1137, O2137, E137x, F137x_c, F137x_w, Vx137, E137y, F137y_c, F137y_w, Vy137, E137s, F137s_k, F137s_v, E137lx, F137lx_e, F137lx_s, F137lx_m, E137ly, F137ly_e, F137ly_s, F137ly_m, V1137, V2137, Vc137⟩ := hQ137
  have N137 := Fr.app N135 N137q
  have C138 := C129.trans cc137
  have g144 : n0 ≤ d1137 := Nat.le_trans z127 z1137
  have g150 : n0 ≤ d2137 := Nat.le_trans z127 z2137
  have z151 := Nat.le_trans z127 K137.1
  have f153 := f130.keep K137 (allS g122 (allS g126 (allS g101 all0)))
  have kR137 : T137.heap.size ≤ T137.heap.size := Nat.le_refl _
  refine Goes.of (fun t k => st137.trans k) ?_
  obtain ⟨LX166, X166, N166⟩ : ∃ LX, Stand p l e room_1 (s.setVm T137.vm) m #[(.int p1), (.int p2), (.int p3), (.int p4)] below meth c T137 LX 10 50 ∧ Fr n0 LX := ⟨_, X137, N137⟩
  refine gO (fun t k => XS.istore X166.here hx rfl (hb hby at_46) rfl (l' := #[.val (.int p1), .val (.int p2), .val (.int p3), .val (.int p4), .val (.int c0), .val (.ref b100), .val (.ref b107), .val (.int n137r), .unset]) rfl k) ?_
  refine gO (fun t k => XS.aload X166.here hx rfl (hb hby at_48) rfl rfl k) ?_
  refine gO (fun t k => XS.aload X166.here hx rfl (hb hby at_50) rfl rfl k) ?_
  show Goes p e below (T137.setTop (mkF m 52 #[.val (.int p1), .val (.int p2), .val (.int p3), .val (.int p4), .val (.int c0), .val (.ref b100), .val (.ref b107), .val (.int n137r), .unset] [(.ref b100), (.ref b107)])) _
  refine gO (fun t k => XS.iload X166.here hx rfl (hb hby at_52) rfl k) ?_
  refine gO (fun t k => XS.iload X166.here hx rfl (hb hby at_54) rfl k) ?_
  refine gO (fun t k => XS.iconst X166.here hx rfl (hb hby at_56) k) ?_
  by_cases hc57_167 : (1 : Int32) < c0
  ·refine gO (fun t k => XS.icmpNo X166.here hx rfl (hb hby at_57) rfl (tlt hc57_167).2.2.2 k) ?_
   refine gO (fun t k => XS.iconst X166.here hx rfl (hb hby at_60) k) ?_
   show Goes p e below (T137.setTop (mkF m 61 #[.val (.int p1), .val (.int p2), .val (.int p3), .val (.int p4), .val (.int c0), .val (.ref b100), .val (.ref b107), .val (.int n137r), .unset] [(.int 1), (.int n137r), (.ref b100), (.ref b107)])) _
   refine gO (fun t k => XS.goto X166.here hx rfl (pc0 := 61) (pc' := 65) rfl (hb hby at_61) (by decide) (by decide) k) ?_
   refine gO (fun t k => XS.iloadN X166.here hx rfl (hb hby at_65) rfl k) ?_
   refine gO (fun t k => XS.iloadN X166.here hx rfl (hb hby at_66) rfl k) ?_
   refine gO (fun t k => XS.iconst X166.here hx rfl (hb hby at_67) k) ?_
   refine gO (fun t k => XS.iushr X166.here hx rfl (hb hby at_68) rfl k) ?_
   show Goes p e below (T137.setTop (mkF m 69 #[.val (.int p1), .val (.int p2), .val (.int p3), .val (.int p4), .val (.int c0), .val (.ref b100), .val (.ref b107), .val (.int n137r), .unset] [(.int ((p1.toUInt32 >>> ((4 : Int32) &&& 31).toUInt32).toInt32)), (.int p3), (.int 1), (.int n137r), (.ref b100), (.ref b107)])) _
   obtain ⟨_, _, ⟨T168, L168, k168, n168⟩, -, X168, hS168, kS168, ⟨Lc168, hQ168, l168, y168, z168, cc168⟩, st168⟩ := callSS X166 hx (y := mn51) hown (mvT hZ (wd hw 38 rfl)) (mvT hZ (wd hw 39 rfl)) (mvT hZ (wd hw 40 rfl)) (mvT hZ (wd hw 41 rfl)) (by decide) (backOfSH (EL := consts_1) (vm0 := T137.vm) (W := 0) (rm6_74 l Z a0 hw [] b107 b100 n137r p3 ((p1.toUInt32 >>> ((4 : Int32) &&& 31).toUInt32).toInt32) cmS k100 (((([] ++ ks137) ++ [32]) ++ vs137) ++ [10]) lx118 ly118 d1137 k1137 d2137 k2137 x137r y137r T137.heap n0 z151 f153 SC cs0 E137s F137s_k F137s_v E137lx F137lx_e F137lx_s F137lx_m E137ly F137ly_e F137ly_s F137ly_m V1137 V2137 nl118 g122 g126 nd137 g144 g150 O1137 O2137 Vc137 g101 hn137 (by simp only [List.length_append, List.length_nil, List.length_cons]; omega)) hZ (wd hw 41 rfl) (wd hw 40 rfl) (by decide) (by decide) (own_EW hw) C138.1) (g := (mkF m 69 #[.val (.int p1), .val (.int p2), .val (.int p3), .val (.int p4), .val (.int c0), .val (.ref b100), .val (.ref b107), .val (.int n137r), .unset] [(.int ((p1.toUInt32 >>> ((4 : Int32) &&& 31).toUInt32).toInt32)), (.int p3), (.int 1), (.int n137r), (.ref b100), (.ref b107)])) rfl (by rw [hml]; rfl) (argsL := [(.ref b107), (.ref b100), (.int n137r), (.int 1), (.int p3), (.int ((p1.toUInt32 >>> ((4 : Int32) &&& 31).toUInt32).toInt32))]) (rest := []) (lenOf pd_44 rfl) rfl (wr0 rfl rfl) (hb hby at_69) (fun _ _ => ⟨rfl, rfl, (by decide : 10 + 4 ≤ _), (by decide : 50 + 10 ≤ _)⟩)
   dsimp only [Pt.U, Pt.locs, Pt.cells, Pt.slots] at X168 l168 y168 z168 st168 hQ168 hS168 kS168 cc168
   subst l168 y168 z168
   obtain ⟨X168, hS168, hZ, hown⟩ := rebS hS137 kR137 X168 hS168 kS168 hZ hown
   obtain ⟨x168r, bx168, kx168, zx168, ks168, y168r, bw168, ky168, zy168, vs168, n168r, rfl, N168q, K168, hn168, hzx168, hlx168, ltx168, hzy168, hly168, lty168, E168x, F168x_c, F168x_w, Vx168, E168y, F168y_c, F168y_w, Vy168, E168s, F168s_k, F168s_v, E168lx, F168lx_e, F168lx_s, F168lx_m, E168ly, F168ly_e, F168ly_s, F168ly_m, V1168, V2168, Vc168⟩ := hQ168
   have N168 := Fr.app N166 N168q
   have C169 := C138.trans cc168
   have q170 : x137r ≠ lx118 := Exa.ne E137x E137lx (by decide)
   have q171 : bx137 ≠ lx118 := Ne.symm (Exa.neArv E137lx Vx137 (wd hw 11 rfl))
   have q172 : y137r ≠ lx118 := Exa.ne E137y E137lx (by decide)
   have q173 : bw137 ≠ lx118 := Ne.symm (Exa.neArv E137lx Vy137 (wd hw 11 rfl))
   have q174 : x137r ≠ ly118 := Exa.ne E137x E137ly (by decide)
   have q175 : bx137 ≠ ly118 := Ne.symm (Exa.neArv E137ly Vx137 (wd hw 11 rfl))
   have q176 : y137r ≠ ly118 := Exa.ne E137y E137ly (by decide)
   have q177 : bw137 ≠ ly118 := Ne.symm (Exa.neArv E137ly Vy137 (wd hw 11 rfl))
   have q178 : x137r ≠ d1137 := Exa.neArv E137x V1137 (wd hw 84 rfl)
   have q179 : bx137 ≠ d1137 := own_arvty Vx137 V1137 (by decide)
   have q180 : y137r ≠ d1137 := Exa.neArv E137y V1137 (wd hw 84 rfl)
   have q181 : bw137 ≠ d1137 := own_arvty Vy137 V1137 (by decide)
   have q182 : x137r ≠ d2137 := Exa.neArv E137x V2137 (wd hw 84 rfl)
   have q183 : bx137 ≠ d2137 := own_arvty Vx137 V2137 (by decide)
   have q184 : y137r ≠ d2137 := Exa.neArv E137y V2137 (wd hw 84 rfl)
   have q185 : bw137 ≠ d2137 := own_arvty Vy137 V2137 (by decide)
   have q186 : x137r ≠ b100 := Exa.neArv E137x Vc137 (wd hw 84 rfl)
   have q187 : bx137 ≠ b100 := own_arvty Vx137 Vc137 (by decide)
   have q188 : y137r ≠ b100 := Exa.neArv E137y Vc137 (wd hw 84 rfl)
   have q189 : bw137 ≠ b100 := own_arvty Vy137 Vc137 (by decide)
   have z190 := Nat.le_trans z151 K168.1
   have f192 := f153.keep K168 (allS g122 (allS g126 (allS g144 (allS g150 (allS g101 all0)))))
   have f198 := E137x.keep K168
   have f199 := F137x_c.keep K168 (ninS q170 (ninS q174 (ninS q178 (ninS q182 (ninS q186 nin0)))))
   have f200 := F137x_w.keep K168 (ninS q170 (ninS q174 (ninS q178 (ninS q182 (ninS q186 nin0)))))
   have f201 := Vx137.keep K168 (ninS q171 (ninS q175 (ninS q179 (ninS q183 (ninS q187 nin0)))))
   have f202 := E137y.keep K168
   have f203 := F137y_c.keep K168 (ninS q172 (ninS q176 (ninS q180 (ninS q184 (ninS q188 nin0)))))
   have f204 := F137y_w.keep K168 (ninS q172 (ninS q176 (ninS q180 (ninS q184 (ninS q188 nin0)))))
   have f205 := Vy137.keep K168 (ninS q173 (ninS q177 (ninS q181 (ninS q185 (ninS q189 nin0)))))
   have kR168 : T168.heap.size ≤ T168.heap.size := Nat.le_refl _
   refine Goes.of (fun t k => st168.trans k) ?_
   obtain ⟨LX215, X215, N215⟩ : ∃ LX, Stand p l e room_1 (s.setVm T168.vm) m #[(.int p1), (.int p2), (.int p3), (.int p4)] below meth c T168 LX 14 60 ∧ Fr n0 LX := ⟨_, X168, N168⟩
   refine gO (fun t k => XS.istore X215.here hx rfl (hb hby at_72) rfl (l' := #[.val (.int p1), .val (.int p2), .val (.int p3), .val (.int p4), .val (.int c0), .val (.ref b100), .val (.ref b107), .val (.int n168r), .unset]) rfl k) ?_
   refine gO (fun t k => XS.aload X215.here hx rfl (hb hby at_74) rfl rfl k) ?_
   refine gO (fun t k => XS.aload X215.here hx rfl (hb hby at_76) rfl rfl k) ?_
   refine gO (fun t k => XS.iload X215.here hx rfl (hb hby at_78) rfl k) ?_
   show Goes p e below (T168.setTop (mkF m 80 #[.val (.int p1), .val (.int p2), .val (.int p3), .val (.int p4), .val (.int c0), .val (.ref b100), .val (.ref b107), .val (.int n168r), .unset] [(.int n168r), (.ref b100), (.ref b107)])) _
   refine gO (fun t k => XS.iload X215.here hx rfl (hb hby at_80) rfl k) ?_
   refine gO (fun t k => XS.iconst X215.here hx rfl (hb hby at_82) k) ?_
   by_cases hc83_216 : (2 : Int32) < c0
   ·refine gO (fun t k => XS.icmpNo X215.here hx rfl (hb hby at_83) rfl (tlt hc83_216).2.2.2 k) ?_
    refine gO (fun t k => XS.iconst X215.here hx rfl (hb hby at_86) k) ?_
    refine gO (fun t k => XS.goto X215.here hx rfl (pc0 := 87) (pc' := 91) rfl (hb hby at_87) (by decide) (by decide) k) ?_
    show Goes p e below (T168.setTop (mkF m 91 #[.val (.int p1), .val (.int p2), .val (.int p3), .val (.int p4), .val (.int c0), .val (.ref b100), .val (.ref b107), .val (.int n168r), .unset] [(.int 1), (.int n168r), (.ref b100), (.ref b107)])) _
    refine gO (fun t k => XS.iloadN X215.here hx rfl (hb hby at_91) rfl k) ?_
    refine gO (fun t k => XS.iloadN X215.here hx rfl (hb hby at_92) rfl k) ?_
    refine gO (fun t k => XS.bipush X215.here hx rfl (hb hby at_93) k) ?_
    refine gO (fun t k => XS.iushr X215.here hx rfl (hb hby at_95) rfl k) ?_
    show Goes p e below (T168.setTop (mkF m 96 #[.val (.int p1), .val (.int p2), .val (.int p3), .val (.int p4), .val (.int c0), .val (.ref b100), .val (.ref b107), .val (.int n168r), .unset] [(.int ((p1.toUInt32 >>> ((6 : Int32) &&& 31).toUInt32).toInt32)), (.int p4), (.int 1), (.int n168r), (.ref b100), (.ref b107)])) _
    obtain ⟨_, _, ⟨T217, L217, k217, n217⟩, -, X217, hS217, kS217, ⟨Lc217, hQ217, l217, y217, z217, cc217⟩, st217⟩ := callSS X215 hx (y := mn51) hown (mvT hZ (wd hw 38 rfl)) (mvT hZ (wd hw 39 rfl)) (mvT hZ (wd hw 40 rfl)) (mvT hZ (wd hw 41 rfl)) (by decide) (backOfSH (EL := consts_1) (vm0 := T168.vm) (W := 0) (rm6_75 l Z a0 hw [] b107 b100 n168r p4 ((p1.toUInt32 >>> ((6 : Int32) &&& 31).toUInt32).toInt32) cmS k100 (((((((([] ++ ks137) ++ [32]) ++ vs137) ++ [10]) ++ ks168) ++ [32]) ++ vs168) ++ [10]) lx118 ly118 d1137 k1137 d2137 k2137 x137r x168r y137r y168r T168.heap n0 z190 f192 SC cs0 E168s F168s_k F168s_v E168lx F168lx_e F168lx_s F168lx_m E168ly F168ly_e F168ly_s F168ly_m V1168 V2168 nl118 g122 g126 nd137 g144 g150 O1137 O2137 Vc168 g101 hn168 (by simp only [List.length_append, List.length_nil, List.length_cons]; omega)) hZ (wd hw 41 rfl) (wd hw 40 rfl) (by decide) (by decide) (own_EW hw) C169.1) (g := (mkF m 96 #[.val (.int p1), .val (.int p2), .val (.int p3), .val (.int p4), .val (.int c0), .val (.ref b100), .val (.ref b107), .val (.int n168r), .unset] [(.int ((p1.toUInt32 >>> ((6 : Int32) &&& 31).toUInt32).toInt32)), (.int p4), (.int 1), (.int n168r), (.ref b100), (.ref b107)])) rfl (by rw [hml]; rfl) (argsL := [(.ref b107), (.ref b100), (.int n168r), (.int 1), (.int p4), (.int ((p1.toUInt32 >>> ((6 : Int32) &&& 31).toUInt32).toInt32))]) (rest := []) (lenOf pd_44 rfl) rfl (wr0 rfl rfl) (hb hby at_96) (fun _ _ => ⟨rfl, rfl, (by decide : 14 + 4 ≤ _), (by decide : 60 + 10 ≤ _)⟩)
    dsimp only [Pt.U, Pt.locs, Pt.cells, Pt.slots] at X217 l217 y217 z217 st217 hQ217 hS217 kS217 cc217
    subst l217 y217 z217
    obtain ⟨X217, hS217, hZ, hown⟩ := rebS hS168 kR168 X217 hS217 kS217 hZ hown
    obtain ⟨x217r, bx217, kx217, zx217, ks217, y217r, bw217, ky217, zy217, vs217, n217r, rfl, N217q, K217, hn217, hzx217, hlx217, ltx217, hzy217, hly217, lty217, E217x, F217x_c, F217x_w, Vx217, E217y, F217y_c, F217y_w, Vy217, E217s, F217s_k, F217s_v, E217lx, F217lx_e, F217lx_s, F217lx_m, E217ly, F217ly_e, F217ly_s, F217ly_m, V1217, V2217, Vc217⟩ := hQ217
    have N217 := Fr.app N215 N217q
    have C218 := C169.trans cc217
    have q219 : x168r ≠ lx118 := Exa.ne E168x E168lx (by decide)
    have q220 : bx168 ≠ lx118 := Ne.symm (Exa.neArv E168lx Vx168 (wd hw 11 rfl))
    have q221 : y168r ≠ lx118 := Exa.ne E168y E168lx (by decide)
    have q222 : bw168 ≠ lx118 := Ne.symm (Exa.neArv E168lx Vy168 (wd hw 11 rfl))
    have q223 : x168r ≠ ly118 := Exa.ne E168x E168ly (by decide)
    have q224 : bx168 ≠ ly118 := Ne.symm (Exa.neArv E168ly Vx168 (wd hw 11 rfl))
    have q225 : y168r ≠ ly118 := Exa.ne E168y E168ly (by decide)
    have q226 : bw168 ≠ ly118 := Ne.symm (Exa.neArv E168ly Vy168 (wd hw 11 rfl))
    have q227 : x168r ≠ d1137 := Exa.neArv E168x V1168 (wd hw 84 rfl)
    have q228 : bx168 ≠ d1137 := own_arvty Vx168 V1168 (by decide)
    have q229 : y168r ≠ d1137 := Exa.neArv E168y V1168 (wd hw 84 rfl)
    have q230 : bw168 ≠ d1137 := own_arvty Vy168 V1168 (by decide)
    have q231 : x168r ≠ d2137 := Exa.neArv E168x V2168 (wd hw 84 rfl)
    have q232 : bx168 ≠ d2137 := own_arvty Vx168 V2168 (by decide)
    have q233 : y168r ≠ d2137 := Exa.neArv E168y V2168 (wd hw 84 rfl)
    have q234 : bw168 ≠ d2137 := own_arvty Vy168 V2168 (by decide)
    have q235 : x168r ≠ b100 := Exa.neArv E168x Vc168 (wd hw 84 rfl)
    have q236 : bx168 ≠ b100 := own_arvty Vx168 Vc168 (by decide)
    have q237 : y168r ≠ b100 := Exa.neArv E168y Vc168 (wd hw 84 rfl)
    have q238 : bw168 ≠ b100 := own_arvty Vy168 Vc168 (by decide)
    have z239 := Nat.le_trans z190 K217.1
    have f241 := f192.keep K217 (allS g122 (allS g126 (allS g144 (allS g150 (allS g101 all0)))))
    have f247 := f198.keep K217
    have f248 := f199.keep K217 (ninS q170 (ninS q174 (ninS q178 (ninS q182 (ninS q186 nin0)))))
    have f249 := f200.keep K217 (ninS q170 (ninS q174 (ninS q178 (ninS q182 (ninS q186 nin0)))))
    have f250 := f201.keep K217 (ninS q171 (ninS q175 (ninS q179 (ninS q183 (ninS q187 nin0)))))
    have f251 := f202.keep K217
    have f252 := f203.keep K217 (ninS q172 (ninS q176 (ninS q180 (ninS q184 (ninS q188 nin0)))))
    have f253 := f204.keep K217 (ninS q172 (ninS q176 (ninS q180 (ninS q184 (ninS q188 nin0)))))
    have f254 := f205.keep K217 (ninS q173 (ninS q177 (ninS q181 (ninS q185 (ninS q189 nin0)))))
    have f255 := E168x.keep K217
    have f256 := F168x_c.keep K217 (ninS q219 (ninS q223 (ninS q227 (ninS q231 (ninS q235 nin0)))))
    have f257 := F168x_w.keep K217 (ninS q219 (ninS q223 (ninS q227 (ninS q231 (ninS q235 nin0)))))
    have f258 := Vx168.keep K217 (ninS q220 (ninS q224 (ninS q228 (ninS q232 (ninS q236 nin0)))))
    have f259 := E168y.keep K217
    have f260 := F168y_c.keep K217 (ninS q221 (ninS q225 (ninS q229 (ninS q233 (ninS q237 nin0)))))
    have f261 := F168y_w.keep K217 (ninS q221 (ninS q225 (ninS q229 (ninS q233 (ninS q237 nin0)))))
    have f262 := Vy168.keep K217 (ninS q222 (ninS q226 (ninS q230 (ninS q234 (ninS q238 nin0)))))
    have kR217 : T217.heap.size ≤ T217.heap.size := Nat.le_refl _
    refine Goes.of (fun t k => st217.trans k) ?_
    obtain ⟨LX272, X272, N272⟩ : ∃ LX, Stand p l e room_1 (s.setVm T217.vm) m #[(.int p1), (.int p2), (.int p3), (.int p4)] below meth c T217 LX 18 70 ∧ Fr n0 LX := ⟨_, X217, N217⟩
    refine gO (fun t k => XS.istore X272.here hx rfl (hb hby at_99) rfl (l' := #[.val (.int p1), .val (.int p2), .val (.int p3), .val (.int p4), .val (.int c0), .val (.ref b100), .val (.ref b107), .val (.int n217r), .unset]) rfl k) ?_
    refine gO (fun t k => XS.aload X272.here hx rfl (hb hby at_101) rfl rfl k) ?_
    obtain ⟨cq273, kq273, q273a, q273b, q273c⟩ := isOf hZ rfl E217s
    obtain ⟨_, _, ⟨T273, L273, k273, n273⟩, -, X273, ⟨Lc273, hQ273, l273, y273, z273⟩, st273⟩ := X272.virtualBack hx (y := mn48) (z := mn48) hown (mvT hZ (wd hw 42 rfl)) (mvT hZ (wd hw 43 rfl)) (notFace_of_selects (args := #[]) (mvT hZ (wd hw 45 rfl))) (mvT hZ (wd hw 45 rfl)) (mvT hZ (wd hw 44 rfl)) (by decide) (backOf (W := 0) (rm7_71 l Z a0 hw [] b107 cmS lx118 ly118 d1137 k1137 d2137 k2137 x137r x168r x217r y137r y168r y217r bx137 kx137 zx137 ks137 bw137 ky137 zy137 vs137 bx168 kx168 zx168 ks168 bw168 ky168 zy168 vs168 bx217 kx217 zx217 ks217 bw217 ky217 zy217 vs217 T217.heap n0 z239 f241 SC cs0 E217s F217s_k F217s_v E217lx F217lx_e F217lx_s F217lx_m E217ly F217ly_e F217ly_s F217ly_m V1217 V2217 f247 f248 f249 f250 f251 f252 f253 f254 f255 f256 f257 f258 f259 f260 f261 f262 E217x F217x_c F217x_w Vx217 E217y F217y_c F217y_w Vy217 hzx137 hlx137 hzy137 hly137 hzx168 hlx168 hzy168 hly168 hzx217 hlx217 hzy217 hly217) hZ (wd hw 46 rfl) (wd hw 3 rfl) (by decide) (by decide)) q273a q273c (g := (mkF m 103 #[.val (.int p1), .val (.int p2), .val (.int p3), .val (.int p4), .val (.int c0), .val (.ref b100), .val (.ref b107), .val (.int n217r), .unset] [(.ref b107)])) rfl (by rw [hml]; rfl) (Steps.refl _) (argsL := []) (rest := []) (lenOf pd_39 rfl) rfl (wr0 rfl rfl) (hb hby at_103) (fun _ _ => ⟨rfl, rfl, (by decide : 18 + 4 ≤ _), (by decide : 70 + 36 ≤ _)⟩)
    dsimp only [Pt.U, Pt.locs, Pt.cells, Pt.slots] at X273 l273 y273 z273 st273 hQ273
    subst l273 y273 z273
    obtain ⟨s273t, t273t, kt273, zt273, rfl, N273q, K273, hz273t, E273t, F273t_c, F273t_w, Vt273⟩ := hQ273
    have N273 := Fr.app N272 N273q
    have z274 := Nat.le_trans z239 K273.1
    have z275 := Nat.le_trans kR217 K273.1
    have C276 := C218.trans (CHr.keep K273 sf0 C218.1)
    have f277 := f241.keep K273 all0
    have f315 := Vc217.keep K273 nin0
    refine Goes.of (fun t k => st273.trans k) ?_
    obtain ⟨LX316, X316, N316⟩ : ∃ LX, Stand p l e room_1 (s.setVm T217.vm) m #[(.int p1), (.int p2), (.int p3), (.int p4)] below meth c T273 LX 22 106 ∧ Fr n0 LX := ⟨_, X273, N273⟩
    refine gO (fun t k => XS.astore X316.here hx rfl (hb hby at_106) rfl rfl (l' := #[.val (.int p1), .val (.int p2), .val (.int p3), .val (.int p4), .val (.int c0), .val (.ref b100), .val (.ref b107), .val (.int n217r), .val (.ref s273t)]) rfl k) ?_
    refine gO (fun t k => XS.aload X316.here hx rfl (hb hby at_108) rfl rfl k) ?_
    show Goes p e below (T273.setTop (mkF m 110 #[.val (.int p1), .val (.int p2), .val (.int p3), .val (.int p4), .val (.int c0), .val (.ref b100), .val (.ref b107), .val (.int n217r), .val (.ref s273t)] [(.ref s273t)])) _
    refine gO (fun t k => XS.aload X316.here hx rfl (hb hby at_110) rfl rfl k) ?_
    refine gO (fun t k => XS.iload X316.here hx rfl (hb hby at_112) rfl k) ?_
    obtain ⟨_, _, ⟨T317, L317, k317, n317⟩, -, X317, ⟨Lc317, hQ317, l317, y317, z317⟩, st317⟩ := Jvm.LawKit.callS X316 hx (y := mn47) hown (mvT hZ (wd hw 136 rfl)) (mvT hZ (wd hw 137 rfl)) (mvT hZ (wd hw 40 rfl)) (mvT hZ (wd hw 138 rfl)) (by decide) (backOf (W := 0) (rm22 l Z a0 hw [] s273t b100 n217r cmS t273t kt273 zt273 (((((((((((([] ++ ks137) ++ [32]) ++ vs137) ++ [10]) ++ ks168) ++ [32]) ++ vs168) ++ [10]) ++ ks217) ++ [32]) ++ vs217) ++ [10]) k100 fm T273.heap n0 z274 f277 SC cs0 SF hfm E273t F273t_c F273t_w Vt273 f315 hz273t hn217 (own_lata (own_lata (own_lata (own_lata (own_lata (own_lata (own_lata (own_lata (own_lata (own_lata (own_lata (own_lata own_lat0 ltx137) own_lat32) lty137) own_lat10) ltx168) own_lat32) lty168) own_lat10) ltx217) own_lat32) lty217) own_lat10)) hZ (wd hw 138 rfl) (wd hw 40 rfl) (by decide) (by decide)) (g := (mkF m 114 #[.val (.int p1), .val (.int p2), .val (.int p3), .val (.int p4), .val (.int c0), .val (.ref b100), .val (.ref b107), .val (.int n217r), .val (.ref s273t)] [(.int n217r), (.ref b100), (.ref s273t)])) rfl (by rw [hml]; rfl) (argsL := [(.ref s273t), (.ref b100), (.int n217r)]) (rest := []) (lenOf pd_45 rfl) rfl (wr0 rfl rfl) (hb hby at_114) (fun _ _ => ⟨rfl, rfl, (by decide : 22 + 0 ≤ _), (by decide : 106 + 0 ≤ _)⟩)
    dsimp only [Pt.U, Pt.locs, Pt.cells, Pt.slots] at X317 l317 y317 z317 st317 hQ317
    subst l317 y317 z317
    obtain ⟨rfl, N317q, e317⟩ := hQ317
    have N317 := Fr.app N316 N317q
    refine Goes.of st317 ?_
    show Goes p e below (T317.setTop (mkF m 117 #[.val (.int p1), .val (.int p2), .val (.int p3), .val (.int p4), .val (.int c0), .val (.ref b100), .val (.ref b107), .val (.int n217r), .val (.ref s273t)] [(.int 1)])) _
    have eh : T317.heap = T273.heap := e317
    have hCH : CHr Z consts_1 s.vm s.heap T317.vm T317.heap := by rw [eh, hh]; exact C276.trans (CHv.at X317 hZ (own_EW hw) C276.1)
    exact Goes.retNH (t := .boolean) X317 hS217 (by rw [e317]; exact z275) hx Bd.returns (by simp) hlocks (hb hby at_117) (⟨rfl, N317⟩) (hCH) (by decide) (by decide)
   ·refine gO (fun t k => XS.icmpYes X215.here hx rfl (pc0 := 83) (pc' := 90) rfl (hb hby at_83) rfl (flt hc83_216).2.2.2 (by decide) (by decide) k) ?_
    refine gO (fun t k => XS.iconst X215.here hx rfl (hb hby at_90) k) ?_
    refine gO (fun t k => XS.iloadN X215.here hx rfl (hb hby at_91) rfl k) ?_
    show Goes p e below (T168.setTop (mkF m 92 #[.val (.int p1), .val (.int p2), .val (.int p3), .val (.int p4), .val (.int c0), .val (.ref b100), .val (.ref b107), .val (.int n168r), .unset] [(.int p4), (.int 0), (.int n168r), (.ref b100), (.ref b107)])) _
    refine gO (fun t k => XS.iloadN X215.here hx rfl (hb hby at_92) rfl k) ?_
    refine gO (fun t k => XS.bipush X215.here hx rfl (hb hby at_93) k) ?_
    refine gO (fun t k => XS.iushr X215.here hx rfl (hb hby at_95) rfl k) ?_
    obtain ⟨_, _, ⟨T318, L318, k318, n318⟩, -, X318, ⟨Lc318, hQ318, l318, y318, z318⟩, st318⟩ := Jvm.LawKit.callS X215 hx (y := mn51) hown (mvT hZ (wd hw 38 rfl)) (mvT hZ (wd hw 39 rfl)) (mvT hZ (wd hw 40 rfl)) (mvT hZ (wd hw 41 rfl)) (by decide) (backOf (W := 0) (rm6 l Z a0 hw [] b107 b100 n168r p4 ((p1.toUInt32 >>> ((6 : Int32) &&& 31).toUInt32).toInt32)  T168.heap n0 z190 ) hZ (wd hw 41 rfl) (wd hw 40 rfl) (by decide) (by decide)) (g := (mkF m 96 #[.val (.int p1), .val (.int p2), .val (.int p3), .val (.int p4), .val (.int c0), .val (.ref b100), .val (.ref b107), .val (.int n168r), .unset] [(.int ((p1.toUInt32 >>> ((6 : Int32) &&& 31).toUInt32).toInt32)), (.int p4), (.int 0), (.int n168r), (.ref b100), (.ref b107)])) rfl (by rw [hml]; rfl) (argsL := [(.ref b107), (.ref b100), (.int n168r), (.int 0), (.int p4), (.int ((p1.toUInt32 >>> ((6 : Int32) &&& 31).toUInt32).toInt32))]) (rest := []) (lenOf pd_44 rfl) rfl (wr0 rfl rfl) (hb hby at_96) (fun _ _ => ⟨rfl, rfl, (by decide : 14 + 0 ≤ _), (by decide : 60 + 0 ≤ _)⟩)
    dsimp only [Pt.U, Pt.locs, Pt.cells, Pt.slots] at X318 l318 y318 z318 st318 hQ318
    subst l318 y318 z318
    obtain ⟨rfl, N318q, e318⟩ := hQ318
    have N318 := Fr.app N215 N318q
    refine Goes.of st318 ?_
    refine gO (fun t k => XS.istore X318.here hx rfl (hb hby at_99) rfl (l' := #[.val (.int p1), .val (.int p2), .val (.int p3), .val (.int p4), .val (.int c0), .val (.ref b100), .val (.ref b107), .val (.int n168r), .unset]) rfl k) ?_
    refine gO (fun t k => XS.aload X318.here hx rfl (hb hby at_101) rfl rfl k) ?_
    show Goes p e below (T318.setTop (mkF m 103 #[.val (.int p1), .val (.int p2), .val (.int p3), .val (.int p4), .val (.int c0), .val (.ref b100), .val (.ref b107), .val (.int n168r), .unset] [(.ref b107)])) _
    obtain ⟨cq319, kq319, q319a, q319b, q319c⟩ := isOf hZ e318 E168s
    obtain ⟨_, _, ⟨T319, L319, k319, n319⟩, -, X319, ⟨Lc319, hQ319, l319, y319, z319⟩, st319⟩ := X318.virtualBack hx (y := mn48) (z := mn48) hown (mvT hZ (wd hw 42 rfl)) (mvT hZ (wd hw 43 rfl)) (notFace_of_selects (args := #[]) (mvT hZ (wd hw 45 rfl))) (mvT hZ (wd hw 45 rfl)) (mvT hZ (wd hw 44 rfl)) (by decide) (backOf (W := 0) (rm7_70 l Z a0 hw [] b107 cmS lx118 ly118 d1137 k1137 d2137 k2137 x137r x168r y137r y168r bx137 kx137 zx137 ks137 bw137 ky137 zy137 vs137 bx168 kx168 zx168 ks168 bw168 ky168 zy168 vs168 T168.heap n0 z190 f192 SC cs0 E168s F168s_k F168s_v E168lx F168lx_e F168lx_s F168lx_m E168ly F168ly_e F168ly_s F168ly_m V1168 V2168 f198 f199 f200 f201 f202 f203 f204 f205 E168x F168x_c F168x_w Vx168 E168y F168y_c F168y_w Vy168 hzx137 hlx137 hzy137 hly137 hzx168 hlx168 hzy168 hly168) hZ (wd hw 46 rfl) (wd hw 3 rfl) (by decide) (by decide)) q319a q319c (g := (mkF m 103 #[.val (.int p1), .val (.int p2), .val (.int p3), .val (.int p4), .val (.int c0), .val (.ref b100), .val (.ref b107), .val (.int n168r), .unset] [(.ref b107)])) rfl (by rw [hml]; rfl) (Steps.refl _) (argsL := []) (rest := []) (lenOf pd_39 rfl) rfl (wr0 rfl rfl) (hb hby at_103) (fun _ _ => ⟨rfl, e318, (by decide : 14 + 4 ≤ _), (by decide : 60 + 36 ≤ _)⟩)
    dsimp only [Pt.U, Pt.locs, Pt.cells, Pt.slots] at X319 l319 y319 z319 st319 hQ319
    subst l319 y319 z319
    obtain ⟨s319t, t319t, kt319, zt319, rfl, N319q, K319, hz319t, E319t, F319t_c, F319t_w, Vt319⟩ := hQ319
    have N319 := Fr.app N318 N319q
    have z320 := Nat.le_trans z190 K319.1
    have z321 := Nat.le_trans kR168 K319.1
    have C322 := C169.trans (CHr.keep K319 sf0 C169.1)
    have f323 := f192.keep K319 all0
    have f353 := Vc168.keep K319 nin0
    refine Goes.of (fun t k => st319.trans k) ?_
    obtain ⟨LX354, X354, N354⟩ : ∃ LX, Stand p l e room_1 (s.setVm T168.vm) m #[(.int p1), (.int p2), (.int p3), (.int p4)] below meth c T319 LX 18 96 ∧ Fr n0 LX := ⟨_, X319, N319⟩
    refine gO (fun t k => XS.astore X354.here hx rfl (hb hby at_106) rfl rfl (l' := #[.val (.int p1), .val (.int p2), .val (.int p3), .val (.int p4), .val (.int c0), .val (.ref b100), .val (.ref b107), .val (.int n168r), .val (.ref s319t)]) rfl k) ?_
    refine gO (fun t k => XS.aload X354.here hx rfl (hb hby at_108) rfl rfl k) ?_
    refine gO (fun t k => XS.aload X354.here hx rfl (hb hby at_110) rfl rfl k) ?_
    refine gO (fun t k => XS.iload X354.here hx rfl (hb hby at_112) rfl k) ?_
    show Goes p e below (T319.setTop (mkF m 114 #[.val (.int p1), .val (.int p2), .val (.int p3), .val (.int p4), .val (.int c0), .val (.ref b100), .val (.ref b107), .val (.int n168r), .val (.ref s319t)] [(.int n168r), (.ref b100), (.ref s319t)])) _
    obtain ⟨_, _, ⟨T355, L355, k355, n355⟩, -, X355, ⟨Lc355, hQ355, l355, y355, z355⟩, st355⟩ := Jvm.LawKit.callS X354 hx (y := mn47) hown (mvT hZ (wd hw 136 rfl)) (mvT hZ (wd hw 137 rfl)) (mvT hZ (wd hw 40 rfl)) (mvT hZ (wd hw 138 rfl)) (by decide) (backOf (W := 0) (rm22 l Z a0 hw [] s319t b100 n168r cmS t319t kt319 zt319 (((((((([] ++ ks137) ++ [32]) ++ vs137) ++ [10]) ++ ks168) ++ [32]) ++ vs168) ++ [10]) k100 fm T319.heap n0 z320 f323 SC cs0 SF hfm E319t F319t_c F319t_w Vt319 f353 hz319t hn168 (own_lata (own_lata (own_lata (own_lata (own_lata (own_lata (own_lata (own_lata own_lat0 ltx137) own_lat32) lty137) own_lat10) ltx168) own_lat32) lty168) own_lat10)) hZ (wd hw 138 rfl) (wd hw 40 rfl) (by decide) (by decide)) (g := (mkF m 114 #[.val (.int p1), .val (.int p2), .val (.int p3), .val (.int p4), .val (.int c0), .val (.ref b100), .val (.ref b107), .val (.int n168r), .val (.ref s319t)] [(.int n168r), (.ref b100), (.ref s319t)])) rfl (by rw [hml]; rfl) (argsL := [(.ref s319t), (.ref b100), (.int n168r)]) (rest := []) (lenOf pd_45 rfl) rfl (wr0 rfl rfl) (hb hby at_114) (fun _ _ => ⟨rfl, rfl, (by decide : 18 + 0 ≤ _), (by decide : 96 + 0 ≤ _)⟩)
    dsimp only [Pt.U, Pt.locs, Pt.cells, Pt.slots] at X355 l355 y355 z355 st355 hQ355
    subst l355 y355 z355
    obtain ⟨rfl, N355q, e355⟩ := hQ355
    have N355 := Fr.app N354 N355q
    refine Goes.of st355 ?_
    show Goes p e below (T355.setTop (mkF m 117 #[.val (.int p1), .val (.int p2), .val (.int p3), .val (.int p4), .val (.int c0), .val (.ref b100), .val (.ref b107), .val (.int n168r), .val (.ref s319t)] [(.int 1)])) _
    have eh : T355.heap = T319.heap := e355
    have hCH : CHr Z consts_1 s.vm s.heap T355.vm T355.heap := by rw [eh, hh]; exact C322.trans (CHv.at X355 hZ (own_EW hw) C322.1)
    exact Goes.retNH (t := .boolean) X355 hS168 (by rw [e355]; exact z321) hx Bd.returns (by simp) hlocks (hb hby at_117) (⟨rfl, N355⟩) (hCH) (by decide) (by decide)
  ·refine gO (fun t k => XS.icmpYes X166.here hx rfl (pc0 := 57) (pc' := 64) rfl (hb hby at_57) rfl (flt hc57_167).2.2.2 (by decide) (by decide) k) ?_
   refine gO (fun t k => XS.iconst X166.here hx rfl (hb hby at_64) k) ?_
   show Goes p e below (T137.setTop (mkF m 65 #[.val (.int p1), .val (.int p2), .val (.int p3), .val (.int p4), .val (.int c0), .val (.ref b100), .val (.ref b107), .val (.int n137r), .unset] [(.int 0), (.int n137r), (.ref b100), (.ref b107)])) _
   refine gO (fun t k => XS.iloadN X166.here hx rfl (hb hby at_65) rfl k) ?_
   refine gO (fun t k => XS.iloadN X166.here hx rfl (hb hby at_66) rfl k) ?_
   refine gO (fun t k => XS.iconst X166.here hx rfl (hb hby at_67) k) ?_
   refine gO (fun t k => XS.iushr X166.here hx rfl (hb hby at_68) rfl k) ?_
   show Goes p e below (T137.setTop (mkF m 69 #[.val (.int p1), .val (.int p2), .val (.int p3), .val (.int p4), .val (.int c0), .val (.ref b100), .val (.ref b107), .val (.int n137r), .unset] [(.int ((p1.toUInt32 >>> ((4 : Int32) &&& 31).toUInt32).toInt32)), (.int p3), (.int 0), (.int n137r), (.ref b100), (.ref b107)])) _
   obtain ⟨_, _, ⟨T356, L356, k356, n356⟩, -, X356, ⟨Lc356, hQ356, l356, y356, z356⟩, st356⟩ := Jvm.LawKit.callS X166 hx (y := mn51) hown (mvT hZ (wd hw 38 rfl)) (mvT hZ (wd hw 39 rfl)) (mvT hZ (wd hw 40 rfl)) (mvT hZ (wd hw 41 rfl)) (by decide) (backOf (W := 0) (rm6 l Z a0 hw [] b107 b100 n137r p3 ((p1.toUInt32 >>> ((4 : Int32) &&& 31).toUInt32).toInt32)  T137.heap n0 z151 ) hZ (wd hw 41 rfl) (wd hw 40 rfl) (by decide) (by decide)) (g := (mkF m 69 #[.val (.int p1), .val (.int p2), .val (.int p3), .val (.int p4), .val (.int c0), .val (.ref b100), .val (.ref b107), .val (.int n137r), .unset] [(.int ((p1.toUInt32 >>> ((4 : Int32) &&& 31).toUInt32).toInt32)), (.int p3), (.int 0), (.int n137r), (.ref b100), (.ref b107)])) rfl (by rw [hml]; rfl) (argsL := [(.ref b107), (.ref b100), (.int n137r), (.int 0), (.int p3), (.int ((p1.toUInt32 >>> ((4 : Int32) &&& 31).toUInt32).toInt32))]) (rest := []) (lenOf pd_44 rfl) rfl (wr0 rfl rfl) (hb hby at_69) (fun _ _ => ⟨rfl, rfl, (by decide : 10 + 0 ≤ _), (by decide : 50 + 0 ≤ _)⟩)
   dsimp only [Pt.U, Pt.locs, Pt.cells, Pt.slots] at X356 l356 y356 z356 st356 hQ356
   subst l356 y356 z356
   obtain ⟨rfl, N356q, e356⟩ := hQ356
   have N356 := Fr.app N166 N356q
   refine Goes.of st356 ?_
   refine gO (fun t k => XS.istore X356.here hx rfl (hb hby at_72) rfl (l' := #[.val (.int p1), .val (.int p2), .val (.int p3), .val (.int p4), .val (.int c0), .val (.ref b100), .val (.ref b107), .val (.int n137r), .unset]) rfl k) ?_
   refine gO (fun t k => XS.aload X356.here hx rfl (hb hby at_74) rfl rfl k) ?_
   refine gO (fun t k => XS.aload X356.here hx rfl (hb hby at_76) rfl rfl k) ?_
   refine gO (fun t k => XS.iload X356.here hx rfl (hb hby at_78) rfl k) ?_
   show Goes p e below (T356.setTop (mkF m 80 #[.val (.int p1), .val (.int p2), .val (.int p3), .val (.int p4), .val (.int c0), .val (.ref b100), .val (.ref b107), .val (.int n137r), .unset] [(.int n137r), (.ref b100), (.ref b107)])) _
   refine gO (fun t k => XS.iload X356.here hx rfl (hb hby at_80) rfl k) ?_
   refine gO (fun t k => XS.iconst X356.here hx rfl (hb hby at_82) k) ?_
   have hd83_357 : ¬ ((2 : Int32) < c0) := fun q => hc57_167 (Int32.lt_trans (by decide) q)
   refine gO (fun t k => XS.icmpYes X356.here hx rfl (pc0 := 83) (pc' := 90) rfl (hb hby at_83) rfl (flt hd83_357).2.2.2 (by decide) (by decide) k) ?_
   refine gO (fun t k => XS.iconst X356.here hx rfl (hb hby at_90) k) ?_
   refine gO (fun t k => XS.iloadN X356.here hx rfl (hb hby at_91) rfl k) ?_
   show Goes p e below (T356.setTop (mkF m 92 #[.val (.int p1), .val (.int p2), .val (.int p3), .val (.int p4), .val (.int c0), .val (.ref b100), .val (.ref b107), .val (.int n137r), .unset] [(.int p4), (.int 0), (.int n137r), (.ref b100), (.ref b107)])) _
   refine gO (fun t k => XS.iloadN X356.here hx rfl (hb hby at_92) rfl k) ?_
   refine gO (fun t k => XS.bipush X356.here hx rfl (hb hby at_93) k) ?_
   refine gO (fun t k => XS.iushr X356.here hx rfl (hb hby at_95) rfl k) ?_
   obtain ⟨_, _, ⟨T358, L358, k358, n358⟩, -, X358, ⟨Lc358, hQ358, l358, y358, z358⟩, st358⟩ := Jvm.LawKit.callS X356 hx (y := mn51) hown (mvT hZ (wd hw 38 rfl)) (mvT hZ (wd hw 39 rfl)) (mvT hZ (wd hw 40 rfl)) (mvT hZ (wd hw 41 rfl)) (by decide) (backOf (W := 0) (rm6 l Z a0 hw [] b107 b100 n137r p4 ((p1.toUInt32 >>> ((6 : Int32) &&& 31).toUInt32).toInt32)  T137.heap n0 z151 ) hZ (wd hw 41 rfl) (wd hw 40 rfl) (by decide) (by decide)) (g := (mkF m 96 #[.val (.int p1), .val (.int p2), .val (.int p3), .val (.int p4), .val (.int c0), .val (.ref b100), .val (.ref b107), .val (.int n137r), .unset] [(.int ((p1.toUInt32 >>> ((6 : Int32) &&& 31).toUInt32).toInt32)), (.int p4), (.int 0), (.int n137r), (.ref b100), (.ref b107)])) rfl (by rw [hml]; rfl) (argsL := [(.ref b107), (.ref b100), (.int n137r), (.int 0), (.int p4), (.int ((p1.toUInt32 >>> ((6 : Int32) &&& 31).toUInt32).toInt32))]) (rest := []) (lenOf pd_44 rfl) rfl (wr0 rfl rfl) (hb hby at_96) (fun _ _ => ⟨rfl, e356, (by decide : 10 + 0 ≤ _), (by decide : 50 + 0 ≤ _)⟩)
   dsimp only [Pt.U, Pt.locs, Pt.cells, Pt.slots] at X358 l358 y358 z358 st358 hQ358
   subst l358 y358 z358
   obtain ⟨rfl, N358q, e358⟩ := hQ358
   have N358 := Fr.app N356 N358q
   refine Goes.of st358 ?_
   refine gO (fun t k => XS.istore X358.here hx rfl (hb hby at_99) rfl (l' := #[.val (.int p1), .val (.int p2), .val (.int p3), .val (.int p4), .val (.int c0), .val (.ref b100), .val (.ref b107), .val (.int n137r), .unset]) rfl k) ?_
   refine gO (fun t k => XS.aload X358.here hx rfl (hb hby at_101) rfl rfl k) ?_
   show Goes p e below (T358.setTop (mkF m 103 #[.val (.int p1), .val (.int p2), .val (.int p3), .val (.int p4), .val (.int c0), .val (.ref b100), .val (.ref b107), .val (.int n137r), .unset] [(.ref b107)])) _
   obtain ⟨cq359, kq359, q359a, q359b, q359c⟩ := isOf hZ e358 E137s
   obtain ⟨_, _, ⟨T359, L359, k359, n359⟩, -, X359, ⟨Lc359, hQ359, l359, y359, z359⟩, st359⟩ := X358.virtualBack hx (y := mn48) (z := mn48) hown (mvT hZ (wd hw 42 rfl)) (mvT hZ (wd hw 43 rfl)) (notFace_of_selects (args := #[]) (mvT hZ (wd hw 45 rfl))) (mvT hZ (wd hw 45 rfl)) (mvT hZ (wd hw 44 rfl)) (by decide) (backOf (W := 0) (rm7_69 l Z a0 hw [] b107 cmS lx118 ly118 d1137 k1137 d2137 k2137 x137r y137r bx137 kx137 zx137 ks137 bw137 ky137 zy137 vs137 T137.heap n0 z151 f153 SC cs0 E137s F137s_k F137s_v E137lx F137lx_e F137lx_s F137lx_m E137ly F137ly_e F137ly_s F137ly_m V1137 V2137 E137x F137x_c F137x_w Vx137 E137y F137y_c F137y_w Vy137 hzx137 hlx137 hzy137 hly137) hZ (wd hw 46 rfl) (wd hw 3 rfl) (by decide) (by decide)) q359a q359c (g := (mkF m 103 #[.val (.int p1), .val (.int p2), .val (.int p3), .val (.int p4), .val (.int c0), .val (.ref b100), .val (.ref b107), .val (.int n137r), .unset] [(.ref b107)])) rfl (by rw [hml]; rfl) (Steps.refl _) (argsL := []) (rest := []) (lenOf pd_39 rfl) rfl (wr0 rfl rfl) (hb hby at_103) (fun _ _ => ⟨rfl, e358, (by decide : 10 + 4 ≤ _), (by decide : 50 + 36 ≤ _)⟩)
   dsimp only [Pt.U, Pt.locs, Pt.cells, Pt.slots] at X359 l359 y359 z359 st359 hQ359
   subst l359 y359 z359
   obtain ⟨s359t, t359t, kt359, zt359, rfl, N359q, K359, hz359t, E359t, F359t_c, F359t_w, Vt359⟩ := hQ359
   have N359 := Fr.app N358 N359q
   have z360 := Nat.le_trans z151 K359.1
   have z361 := Nat.le_trans kR137 K359.1
   have C362 := C138.trans (CHr.keep K359 sf0 C138.1)
   have f363 := f153.keep K359 all0
   have f385 := Vc137.keep K359 nin0
   refine Goes.of (fun t k => st359.trans k) ?_
   obtain ⟨LX386, X386, N386⟩ : ∃ LX, Stand p l e room_1 (s.setVm T137.vm) m #[(.int p1), (.int p2), (.int p3), (.int p4)] below meth c T359 LX 14 86 ∧ Fr n0 LX := ⟨_, X359, N359⟩
   refine gO (fun t k => XS.astore X386.here hx rfl (hb hby at_106) rfl rfl (l' := #[.val (.int p1), .val (.int p2), .val (.int p3), .val (.int p4), .val (.int c0), .val (.ref b100), .val (.ref b107), .val (.int n137r), .val (.ref s359t)]) rfl k) ?_
   refine gO (fun t k => XS.aload X386.here hx rfl (hb hby at_108) rfl rfl k) ?_
   refine gO (fun t k => XS.aload X386.here hx rfl (hb hby at_110) rfl rfl k) ?_
   refine gO (fun t k => XS.iload X386.here hx rfl (hb hby at_112) rfl k) ?_
   show Goes p e below (T359.setTop (mkF m 114 #[.val (.int p1), .val (.int p2), .val (.int p3), .val (.int p4), .val (.int c0), .val (.ref b100), .val (.ref b107), .val (.int n137r), .val (.ref s359t)] [(.int n137r), (.ref b100), (.ref s359t)])) _
   obtain ⟨_, _, ⟨T387, L387, k387, n387⟩, -, X387, ⟨Lc387, hQ387, l387, y387, z387⟩, st387⟩ := Jvm.LawKit.callS X386 hx (y := mn47) hown (mvT hZ (wd hw 136 rfl)) (mvT hZ (wd hw 137 rfl)) (mvT hZ (wd hw 40 rfl)) (mvT hZ (wd hw 138 rfl)) (by decide) (backOf (W := 0) (rm22 l Z a0 hw [] s359t b100 n137r cmS t359t kt359 zt359 (((([] ++ ks137) ++ [32]) ++ vs137) ++ [10]) k100 fm T359.heap n0 z360 f363 SC cs0 SF hfm E359t F359t_c F359t_w Vt359 f385 hz359t hn137 (own_lata (own_lata (own_lata (own_lata own_lat0 ltx137) own_lat32) lty137) own_lat10)) hZ (wd hw 138 rfl) (wd hw 40 rfl) (by decide) (by decide)) (g := (mkF m 114 #[.val (.int p1), .val (.int p2), .val (.int p3), .val (.int p4), .val (.int c0), .val (.ref b100), .val (.ref b107), .val (.int n137r), .val (.ref s359t)] [(.int n137r), (.ref b100), (.ref s359t)])) rfl (by rw [hml]; rfl) (argsL := [(.ref s359t), (.ref b100), (.int n137r)]) (rest := []) (lenOf pd_45 rfl) rfl (wr0 rfl rfl) (hb hby at_114) (fun _ _ => ⟨rfl, rfl, (by decide : 14 + 0 ≤ _), (by decide : 86 + 0 ≤ _)⟩)
   dsimp only [Pt.U, Pt.locs, Pt.cells, Pt.slots] at X387 l387 y387 z387 st387 hQ387
   subst l387 y387 z387
   obtain ⟨rfl, N387q, e387⟩ := hQ387
   have N387 := Fr.app N386 N387q
   refine Goes.of st387 ?_
   show Goes p e below (T387.setTop (mkF m 117 #[.val (.int p1), .val (.int p2), .val (.int p3), .val (.int p4), .val (.int c0), .val (.ref b100), .val (.ref b107), .val (.int n137r), .val (.ref s359t)] [(.int 1)])) _
   have eh : T387.heap = T359.heap := e387
   have hCH : CHr Z consts_1 s.vm s.heap T387.vm T387.heap := by rw [eh, hh]; exact C362.trans (CHv.at X387 hZ (own_EW hw) C362.1)
   exact Goes.retNH (t := .boolean) X387 hS137 (by rw [e387]; exact z361) hx Bd.returns (by simp) hlocks (hb hby at_117) (⟨rfl, N387⟩) (hCH) (by decide) (by decide)
 ·refine gO (fun t k => XS.ifYes X135.here hx rfl (pc0 := 31) (pc' := 38) rfl (hb hby at_31) rfl ((if0 _ _).trans (flt hc31_136).2.2.2) (by decide) (by decide) k) ?_
  refine gO (fun t k => XS.iconst X135.here hx rfl (hb hby at_38) k) ?_
  refine gO (fun t k => XS.iloadN X135.here hx rfl (hb hby at_39) rfl k) ?_
  refine gO (fun t k => XS.iloadN X135.here hx rfl (hb hby at_40) rfl k) ?_
  refine gO (fun t k => XS.iconst X135.here hx rfl (hb hby at_41) k) ?_
  show Goes p e below (T118.setTop (mkF m 42 #[.val (.int p1), .val (.int p2), .val (.int p3), .val (.int p4), .val (.int c0), .val (.ref b100), .val (.ref b107), .val (.int 0), .unset] [(.int 2), (.int p1), (.int p2), (.int 0), (.int 0), (.ref b100), (.ref b107)])) _
  refine gO (fun t k => XS.iushr X135.here hx rfl (hb hby at_42) rfl k) ?_
  obtain ⟨_, _, ⟨T388, L388, k388, n388⟩, -, X388, ⟨Lc388, hQ388, l388, y388, z388⟩, st388⟩ := Jvm.LawKit.callS X135 hx (y := mn51) hown (mvT hZ (wd hw 38 rfl)) (mvT hZ (wd hw 39 rfl)) (mvT hZ (wd hw 40 rfl)) (mvT hZ (wd hw 41 rfl)) (by decide) (backOf (W := 0) (rm6 l Z a0 hw [] b107 b100 (0 : Int32) p2 ((p1.toUInt32 >>> ((2 : Int32) &&& 31).toUInt32).toInt32)  T118.heap n0 z127 ) hZ (wd hw 41 rfl) (wd hw 40 rfl) (by decide) (by decide)) (g := (mkF m 43 #[.val (.int p1), .val (.int p2), .val (.int p3), .val (.int p4), .val (.int c0), .val (.ref b100), .val (.ref b107), .val (.int 0), .unset] [(.int ((p1.toUInt32 >>> ((2 : Int32) &&& 31).toUInt32).toInt32)), (.int p2), (.int 0), (.int 0), (.ref b100), (.ref b107)])) rfl (by rw [hml]; rfl) (argsL := [(.ref b107), (.ref b100), (.int 0), (.int 0), (.int p2), (.int ((p1.toUInt32 >>> ((2 : Int32) &&& 31).toUInt32).toInt32))]) (rest := []) (lenOf pd_44 rfl) rfl (wr0 rfl rfl) (hb hby at_43) (fun _ _ => ⟨rfl, rfl, (by decide : 4 + 0 ≤ _), (by decide : 20 + 0 ≤ _)⟩)
  dsimp only [Pt.U, Pt.locs, Pt.cells, Pt.slots] at X388 l388 y388 z388 st388 hQ388
  subst l388 y388 z388
  obtain ⟨rfl, N388q, e388⟩ := hQ388
  have N388 := Fr.app N135 N388q
  refine Goes.of st388 ?_
  refine gO (fun t k => XS.istore X388.here hx rfl (hb hby at_46) rfl (l' := #[.val (.int p1), .val (.int p2), .val (.int p3), .val (.int p4), .val (.int c0), .val (.ref b100), .val (.ref b107), .val (.int 0), .unset]) rfl k) ?_
  refine gO (fun t k => XS.aload X388.here hx rfl (hb hby at_48) rfl rfl k) ?_
  refine gO (fun t k => XS.aload X388.here hx rfl (hb hby at_50) rfl rfl k) ?_
  refine gO (fun t k => XS.iload X388.here hx rfl (hb hby at_52) rfl k) ?_
  show Goes p e below (T388.setTop (mkF m 54 #[.val (.int p1), .val (.int p2), .val (.int p3), .val (.int p4), .val (.int c0), .val (.ref b100), .val (.ref b107), .val (.int 0), .unset] [(.int 0), (.ref b100), (.ref b107)])) _
  refine gO (fun t k => XS.iload X388.here hx rfl (hb hby at_54) rfl k) ?_
  refine gO (fun t k => XS.iconst X388.here hx rfl (hb hby at_56) k) ?_
  have hd57_389 : ¬ ((1 : Int32) < c0) := fun q => hc31_136 (Int32.lt_trans (by decide) q)
  refine gO (fun t k => XS.icmpYes X388.here hx rfl (pc0 := 57) (pc' := 64) rfl (hb hby at_57) rfl (flt hd57_389).2.2.2 (by decide) (by decide) k) ?_
  refine gO (fun t k => XS.iconst X388.here hx rfl (hb hby at_64) k) ?_
  refine gO (fun t k => XS.iloadN X388.here hx rfl (hb hby at_65) rfl k) ?_
  show Goes p e below (T388.setTop (mkF m 66 #[.val (.int p1), .val (.int p2), .val (.int p3), .val (.int p4), .val (.int c0), .val (.ref b100), .val (.ref b107), .val (.int 0), .unset] [(.int p3), (.int 0), (.int 0), (.ref b100), (.ref b107)])) _
  refine gO (fun t k => XS.iloadN X388.here hx rfl (hb hby at_66) rfl k) ?_
  refine gO (fun t k => XS.iconst X388.here hx rfl (hb hby at_67) k) ?_
  refine gO (fun t k => XS.iushr X388.here hx rfl (hb hby at_68) rfl k) ?_
  obtain ⟨_, _, ⟨T390, L390, k390, n390⟩, -, X390, ⟨Lc390, hQ390, l390, y390, z390⟩, st390⟩ := Jvm.LawKit.callS X388 hx (y := mn51) hown (mvT hZ (wd hw 38 rfl)) (mvT hZ (wd hw 39 rfl)) (mvT hZ (wd hw 40 rfl)) (mvT hZ (wd hw 41 rfl)) (by decide) (backOf (W := 0) (rm6 l Z a0 hw [] b107 b100 (0 : Int32) p3 ((p1.toUInt32 >>> ((4 : Int32) &&& 31).toUInt32).toInt32)  T118.heap n0 z127 ) hZ (wd hw 41 rfl) (wd hw 40 rfl) (by decide) (by decide)) (g := (mkF m 69 #[.val (.int p1), .val (.int p2), .val (.int p3), .val (.int p4), .val (.int c0), .val (.ref b100), .val (.ref b107), .val (.int 0), .unset] [(.int ((p1.toUInt32 >>> ((4 : Int32) &&& 31).toUInt32).toInt32)), (.int p3), (.int 0), (.int 0), (.ref b100), (.ref b107)])) rfl (by rw [hml]; rfl) (argsL := [(.ref b107), (.ref b100), (.int 0), (.int 0), (.int p3), (.int ((p1.toUInt32 >>> ((4 : Int32) &&& 31).toUInt32).toInt32))]) (rest := []) (lenOf pd_44 rfl) rfl (wr0 rfl rfl) (hb hby at_69) (fun _ _ => ⟨rfl, e388, (by decide : 4 + 0 ≤ _), (by decide : 20 + 0 ≤ _)⟩)
  dsimp only [Pt.U, Pt.locs, Pt.cells, Pt.slots] at X390 l390 y390 z390 st390 hQ390
  subst l390 y390 z390
  obtain ⟨rfl, N390q, e390⟩ := hQ390
  have N390 := Fr.app N388 N390q
  refine Goes.of st390 ?_
  refine gO (fun t k => XS.istore X390.here hx rfl (hb hby at_72) rfl (l' := #[.val (.int p1), .val (.int p2), .val (.int p3), .val (.int p4), .val (.int c0), .val (.ref b100), .val (.ref b107), .val (.int 0), .unset]) rfl k) ?_
  refine gO (fun t k => XS.aload X390.here hx rfl (hb hby at_74) rfl rfl k) ?_
  show Goes p e below (T390.setTop (mkF m 76 #[.val (.int p1), .val (.int p2), .val (.int p3), .val (.int p4), .val (.int c0), .val (.ref b100), .val (.ref b107), .val (.int 0), .unset] [(.ref b107)])) _
  refine gO (fun t k => XS.aload X390.here hx rfl (hb hby at_76) rfl rfl k) ?_
  refine gO (fun t k => XS.iload X390.here hx rfl (hb hby at_78) rfl k) ?_
  refine gO (fun t k => XS.iload X390.here hx rfl (hb hby at_80) rfl k) ?_
  refine gO (fun t k => XS.iconst X390.here hx rfl (hb hby at_82) k) ?_
  have hd83_391 : ¬ ((2 : Int32) < c0) := fun q => hc31_136 (Int32.lt_trans (by decide) q)
  refine gO (fun t k => XS.icmpYes X390.here hx rfl (pc0 := 83) (pc' := 90) rfl (hb hby at_83) rfl (flt hd83_391).2.2.2 (by decide) (by decide) k) ?_
  show Goes p e below (T390.setTop (mkF m 90 #[.val (.int p1), .val (.int p2), .val (.int p3), .val (.int p4), .val (.int c0), .val (.ref b100), .val (.ref b107), .val (.int 0), .unset] [(.int 0), (.ref b100), (.ref b107)])) _
  refine gO (fun t k => XS.iconst X390.here hx rfl (hb hby at_90) k) ?_
  refine gO (fun t k => XS.iloadN X390.here hx rfl (hb hby at_91) rfl k) ?_
  refine gO (fun t k => XS.iloadN X390.here hx rfl (hb hby at_92) rfl k) ?_
  refine gO (fun t k => XS.bipush X390.here hx rfl (hb hby at_93) k) ?_
  refine gO (fun t k => XS.iushr X390.here hx rfl (hb hby at_95) rfl k) ?_
  show Goes p e below (T390.setTop (mkF m 96 #[.val (.int p1), .val (.int p2), .val (.int p3), .val (.int p4), .val (.int c0), .val (.ref b100), .val (.ref b107), .val (.int 0), .unset] [(.int ((p1.toUInt32 >>> ((6 : Int32) &&& 31).toUInt32).toInt32)), (.int p4), (.int 0), (.int 0), (.ref b100), (.ref b107)])) _
  obtain ⟨_, _, ⟨T392, L392, k392, n392⟩, -, X392, ⟨Lc392, hQ392, l392, y392, z392⟩, st392⟩ := Jvm.LawKit.callS X390 hx (y := mn51) hown (mvT hZ (wd hw 38 rfl)) (mvT hZ (wd hw 39 rfl)) (mvT hZ (wd hw 40 rfl)) (mvT hZ (wd hw 41 rfl)) (by decide) (backOf (W := 0) (rm6 l Z a0 hw [] b107 b100 (0 : Int32) p4 ((p1.toUInt32 >>> ((6 : Int32) &&& 31).toUInt32).toInt32)  T118.heap n0 z127 ) hZ (wd hw 41 rfl) (wd hw 40 rfl) (by decide) (by decide)) (g := (mkF m 96 #[.val (.int p1), .val (.int p2), .val (.int p3), .val (.int p4), .val (.int c0), .val (.ref b100), .val (.ref b107), .val (.int 0), .unset] [(.int ((p1.toUInt32 >>> ((6 : Int32) &&& 31).toUInt32).toInt32)), (.int p4), (.int 0), (.int 0), (.ref b100), (.ref b107)])) rfl (by rw [hml]; rfl) (argsL := [(.ref b107), (.ref b100), (.int 0), (.int 0), (.int p4), (.int ((p1.toUInt32 >>> ((6 : Int32) &&& 31).toUInt32).toInt32))]) (rest := []) (lenOf pd_44 rfl) rfl (wr0 rfl rfl) (hb hby at_96) (fun _ _ => ⟨rfl, e390, (by decide : 4 + 0 ≤ _), (by decide : 20 + 0 ≤ _)⟩)
  dsimp only [Pt.U, Pt.locs, Pt.cells, Pt.slots] at X392 l392 y392 z392 st392 hQ392
  subst l392 y392 z392
  obtain ⟨rfl, N392q, e392⟩ := hQ392
  have N392 := Fr.app N390 N392q
  refine Goes.of st392 ?_
  refine gO (fun t k => XS.istore X392.here hx rfl (hb hby at_99) rfl (l' := #[.val (.int p1), .val (.int p2), .val (.int p3), .val (.int p4), .val (.int c0), .val (.ref b100), .val (.ref b107), .val (.int 0), .unset]) rfl k) ?_
  refine gO (fun t k => XS.aload X392.here hx rfl (hb hby at_101) rfl rfl k) ?_
  obtain ⟨cq393, kq393, q393a, q393b, q393c⟩ := isOf hZ e392 E118s
  obtain ⟨_, _, ⟨T393, L393, k393, n393⟩, -, X393, ⟨Lc393, hQ393, l393, y393, z393⟩, st393⟩ := X392.virtualBack hx (y := mn48) (z := mn48) hown (mvT hZ (wd hw 42 rfl)) (mvT hZ (wd hw 43 rfl)) (notFace_of_selects (args := #[]) (mvT hZ (wd hw 45 rfl))) (mvT hZ (wd hw 45 rfl)) (mvT hZ (wd hw 44 rfl)) (by decide) (backOf (W := 0) (rm7 l Z a0 hw [] b107 cmS aE lx118 ly118 T118.heap n0 z127 f130 SC cs0 E118s F118s_k F118s_v E118lx F118lx_e F118lx_s F118lx_m E118ly F118ly_e F118ly_s F118ly_m  ) hZ (wd hw 46 rfl) (wd hw 3 rfl) (by decide) (by decide)) q393a q393c (g := (mkF m 103 #[.val (.int p1), .val (.int p2), .val (.int p3), .val (.int p4), .val (.int c0), .val (.ref b100), .val (.ref b107), .val (.int 0), .unset] [(.ref b107)])) rfl (by rw [hml]; rfl) (Steps.refl _) (argsL := []) (rest := []) (lenOf pd_39 rfl) rfl (wr0 rfl rfl) (hb hby at_103) (fun _ _ => ⟨rfl, e392, (by decide : 4 + 4 ≤ _), (by decide : 20 + 36 ≤ _)⟩)
  dsimp only [Pt.U, Pt.locs, Pt.cells, Pt.slots] at X393 l393 y393 z393 st393 hQ393
  subst l393 y393 z393
  obtain ⟨s393t, t393t, kt393, zt393, rfl, N393q, K393, hz393t, E393t, F393t_c, F393t_w, Vt393⟩ := hQ393
  have N393 := Fr.app N392 N393q
  have z394 := Nat.le_trans z127 K393.1
  have z395 := Nat.le_trans z128 K393.1
  have C396 := C129.trans (CHr.keep K393 sf0 C129.1)
  have f397 := f130.keep K393 all0
  have f398 := f131.keep K393 nin0
  refine Goes.of (fun t k => st393.trans k) ?_
  obtain ⟨LX410, X410, N410⟩ : ∃ LX, Stand p l e room_1 (s.setVm s.vm) m #[(.int p1), (.int p2), (.int p3), (.int p4)] below meth c T393 LX 8 56 ∧ Fr n0 LX := ⟨_, X393, N393⟩
  refine gO (fun t k => XS.astore X410.here hx rfl (hb hby at_106) rfl rfl (l' := #[.val (.int p1), .val (.int p2), .val (.int p3), .val (.int p4), .val (.int c0), .val (.ref b100), .val (.ref b107), .val (.int 0), .val (.ref s393t)]) rfl k) ?_
  refine gO (fun t k => XS.aload X410.here hx rfl (hb hby at_108) rfl rfl k) ?_
  show Goes p e below (T393.setTop (mkF m 110 #[.val (.int p1), .val (.int p2), .val (.int p3), .val (.int p4), .val (.int c0), .val (.ref b100), .val (.ref b107), .val (.int 0), .val (.ref s393t)] [(.ref s393t)])) _
  refine gO (fun t k => XS.aload X410.here hx rfl (hb hby at_110) rfl rfl k) ?_
  refine gO (fun t k => XS.iload X410.here hx rfl (hb hby at_112) rfl k) ?_
  obtain ⟨_, _, ⟨T411, L411, k411, n411⟩, -, X411, ⟨Lc411, hQ411, l411, y411, z411⟩, st411⟩ := Jvm.LawKit.callS X410 hx (y := mn47) hown (mvT hZ (wd hw 136 rfl)) (mvT hZ (wd hw 137 rfl)) (mvT hZ (wd hw 40 rfl)) (mvT hZ (wd hw 138 rfl)) (by decide) (backOf (W := 0) (rm22 l Z a0 hw [] s393t b100 (0 : Int32) cmS t393t kt393 zt393 [] k100 fm T393.heap n0 z394 f397 SC cs0 SF hfm E393t F393t_c F393t_w Vt393 f398 hz393t (by decide) own_lat0) hZ (wd hw 138 rfl) (wd hw 40 rfl) (by decide) (by decide)) (g := (mkF m 114 #[.val (.int p1), .val (.int p2), .val (.int p3), .val (.int p4), .val (.int c0), .val (.ref b100), .val (.ref b107), .val (.int 0), .val (.ref s393t)] [(.int 0), (.ref b100), (.ref s393t)])) rfl (by rw [hml]; rfl) (argsL := [(.ref s393t), (.ref b100), (.int 0)]) (rest := []) (lenOf pd_45 rfl) rfl (wr0 rfl rfl) (hb hby at_114) (fun _ _ => ⟨rfl, rfl, (by decide : 8 + 0 ≤ _), (by decide : 56 + 0 ≤ _)⟩)
  dsimp only [Pt.U, Pt.locs, Pt.cells, Pt.slots] at X411 l411 y411 z411 st411 hQ411
  subst l411 y411 z411
  obtain ⟨rfl, N411q, e411⟩ := hQ411
  have N411 := Fr.app N410 N411q
  refine Goes.of st411 ?_
  show Goes p e below (T411.setTop (mkF m 117 #[.val (.int p1), .val (.int p2), .val (.int p3), .val (.int p4), .val (.int c0), .val (.ref b100), .val (.ref b107), .val (.int 0), .val (.ref s393t)] [(.int 1)])) _
  have eh : T411.heap = T393.heap := e411
  have hCH : CHr Z consts_1 s.vm s.heap T411.vm T411.heap := by rw [eh, hh]; exact C396.trans (CHv.at X411 hZ (own_EW hw) C396.1)
  exact Goes.retNH (t := .boolean) X411 hS0 (by rw [e411]; exact z395) hx Bd.returns (by simp) hlocks (hb hby at_117) (⟨rfl, N411⟩) (hCH) (by decide) (by decide)
theorem own_ei {t : Term} {k : Int32} {args : Array Value} {s : State} (h : (Jvm.Cond.eq t (.int k)).value args s none s [] = some true) : t.eval args s none [] s = some (.int k) := by
  obtain ⟨x, y, e1, e2, hk⟩ := cmp_v (Or.inl h)
  have e3 : (Term.int k).eval args s none [] s = some (.int k) := rfl
  rw [e3] at e2; cases e2
  rw [e1]
  simp only [Cond.value, e1, e3] at h
  cases x <;> simp_all
theorem own_len {t : Term} {a : Addr} {cl : Cell} {ty : FieldType} {k : Int32} {args : Array Value} {s : State} (ev : t.eval args s none [] s = some (.ref a)) (A : Arr s s.heap a cl ty) (h : (Jvm.Cond.eq (.length t) (.int k)).value args s none s [] = some true) : cl.slots.size < 2 ^ 31 ∧ cl.slots.size.toInt32 = k := by
  have e := own_ei h
  have ha : s.arrayAt? a = some cl := A.fin (Vm.Alike.refl _)
  by_cases hl : cl.slots.size < 2 ^ 31
  · rw [len_f ev ha hl] at e
    exact ⟨hl, by injection e with e; injection e⟩
  · simp [Term.eval, ev, ha, hl] at e
theorem own_ref {v : Value} (h : v.isRef = true) : v = .null ∨ ∃ f : Addr, v = .ref f := by
  cases v with
  | null => exact Or.inl rfl
  | ref f => exact Or.inr ⟨f, rfl⟩
  | _ => cases h
theorem comes_1 {Post : Tables → Env → Array Value → State → Outcome → State → Prop} (hpost : ∀ tb e args s v u, (limb_1_1.after args s (.returned v) u = true ∧ limb_1_2.after args s (.returned v) u = true ∧ True) → Jvm.D.FramedW s (.returned v) u (Jvm.fieldLocs frame_1_writes args s ++ Jvm.arrayLocs frame_1_arrays args s ++ Jvm.staticLocs frame_1_statics s) 56 1344 → Post tb e args s (.returned v) u) :
    ArmFor flags0 classFile x code maxLocals ret World_1 tables_1 room_1 Calls_1 rest_1 Pre_1 Post := by
  intro l hfl _ _ p e ha hc hk s m args below hf hA hF happ hP
  obtain ⟨hcalls, hrest, hpre⟩ := hP
  obtain ⟨-, -, -, hnamed, -, -, -, hat⟩ := (Spec.applies_iff hf).mp happ
  obtain ⟨hg, hn⟩ := and_e (Cond.before_iff.mp (show (Jvm.Cond.and given_1 narrow_1).before args s = true from hpre))
  obtain ⟨g412, g413⟩ := and_e hg
  obtain ⟨g414, g415⟩ := and_e g413
  obtain ⟨g416, g417⟩ := and_e g415
  obtain ⟨g418, g419⟩ := and_e g417
  obtain ⟨w0, w1, w2, w3, rfl⟩ : ∃ w0 w1 w2 w3 : Value, args = #[w0, w1, w2, w3] := by
    have hs : args.size = 4 := by simpa [Cond.value, given_1] using g412
    obtain ⟨L⟩ := args
    match L, hs with
    | [w0, w1, w2, w3], _ => exact ⟨w0, w1, w2, w3, rfl⟩
  have hw := fun d (hd : d ∈ tables_1) => atoms_spec (ws := Jvm.Cond.code x code maxLocals ret :: tables_1) hat d (List.mem_cons_of_mem _ hd)
  have hfit : Fit s := fun {y c} hc i hi => by
    obtain ⟨ha, rfl⟩ := Array.getElem?_eq_some_iff.mp hc
    have q := List.all_eq_true.mp ((Array.all_eq_true_iff_forall_mem.mp hF) _ (Array.getElem_mem ha)) i (List.mem_range.mpr hi)
    simpa [Array.getElem?_eq_getElem hi] using q
  obtain ⟨hsets, hown0⟩ := atoms_of _ (rest_1_c_eq ▸ (show rest_1_c.before _ s = true from hrest))
  have hr0 := Cond.before_iff.mp hown0
  obtain ⟨i0, ei0⟩ := is_v g414
  obtain rfl : w0 = (.int i0) := Option.some.inj ei0
  obtain ⟨i1, ei1⟩ := is_v g416
  obtain rfl : w1 = (.int i1) := Option.some.inj ei1
  obtain ⟨i2, ei2⟩ := is_v g418
  obtain rfl : w2 = (.int i2) := Option.some.inj ei2
  obtain ⟨i3, ei3⟩ := is_v g419
  obtain rfl : w3 = (.int i3) := Option.some.inj ei3
  have hCHs : CHv s consts_1 s.vm s.heap := CHv.start (own_EW hw) (fun p hp => hcalls.1 p hp) (hsets _ (List.mem_of_getElem? (i := 11) rfl)) (wd hw 62 rfl) (wd hw 84 rfl)
  obtain ⟨cmS, tC⟩ := is_v (Cond.before_iff.mp (hsets _ (List.mem_of_getElem? (i := 10) rfl)))
  have SC := Sta.start tC (Or.inl (hsets _ (List.mem_of_getElem? (i := 9) rfl)))
  have cs0 : cmS ≠ 0 := fun q => by
    have z := (Cond.before_iff.mp (hsets _ (List.mem_of_getElem? (i := 11) rfl)))
    have e3 : (Jvm.Term.int (0 : Int32)).eval #[.int i0, .int i1, .int i2, .int i3] s none [] s = some (.int 0) := rfl
    subst q; simp [Cond.value, tC, e3] at z
  obtain ⟨aE, tE⟩ := arr_v (Cond.before_iff.mp (hsets _ (List.mem_of_getElem? (i := 6) rfl)))
  have SE := Sta.start tE (Or.inr ⟨(wd hw 12 rfl), (hsets _ (List.mem_of_getElem? (i := 2) rfl))⟩)
  obtain ⟨clE, AE0⟩ := Arr.start tE (Cond.before_iff.mp (hsets _ (List.mem_of_getElem? (i := 6) rfl)))
  have lE := own_len tE AE0 (Cond.before_iff.mp (hsets _ (List.mem_of_getElem? (i := 8) rfl)))
  have AE : Arv s s.heap aE clE.cls (.object "java/lang/Object") (0 : Int32) [] .null := Arv.start hfit AE0 lE.1 lE.2 (by decide) (by decide) trivial
  obtain ⟨fm, tF, rF⟩ := isR_v (Cond.before_iff.mp (hsets _ (List.mem_of_getElem? (i := 17) rfl)))
  have SF := Sta.start tF (Or.inl (hsets _ (List.mem_of_getElem? (i := 16) rfl)))
  obtain ⟨n, o, h1, h2, h3, _, L, rfl, ⟨rfl, N⟩, -, hq⟩ := rm0 l s _ hw tables_1 i0 i1 i2 i3 cmS aE clE.cls fm s.heap s.heap.size (Nat.le_refl _) (Old.start s) SC cs0 SE AE SF (own_ref rF) p e ha hc hk s m _ below hf ((Spec.applies_iff_loose hf).mp happ).1 ⟨rfl, State.Warmed39.refl s, rfl, hCHs⟩ trivial
  refine ⟨n, _, h1, h2, h3, hpost _ _ _ _ _ _ ⟨Cond.after_iff.mpr rfl, Cond.after_iff.mpr (eq_i res_at (Term.int_eval (1)) rfl), trivial⟩ ⟨hq.1, hq.2.1, hq.2.2.1, (hq.2.2.2.sift fun y hy => Or.inr (N y hy)).mono (by decide) (by decide)⟩⟩
theorem main_1_1 : Claimed_1_1 := comes_1 fun _ _ _ _ _ _ h hF => ⟨h.1, hF⟩
theorem main_1_2 : Claimed_1_2 := comes_1 fun _ _ _ _ _ _ h hF => ⟨h.2.1, hF⟩
end Jvm.Pilot.@@N@@
namespace Jvm.Pilot.@@N@@
open Jvm Jvm.ClassFile Sem Op Lib Jvm.Free Jvm.Stand Jvm.Pilot.@@N@@.Jvm.D
/-! MADE BY PROGRAM (witnessworld.py) out of the Statement's table words and the real class files: 35 classes; the members and pool entries that the words name. The judged class is class 1, her method 1. -/
namespace start1
open Jvm.ClassFile
def u (s : String) : CpInfo := .utf8 (stringToUtf16 s)
/-- a pool by its gaps: so many unusable entries, then the entry; so many at the end -/
def gap : Nat → List CpInfo → List CpInfo
  | 0, r => r
  | n + 1, r => .unusable :: gap n r
def poolList (es : List (Nat × CpInfo)) (last : Nat) : List CpInfo := es.foldr (fun e r => gap e.1 (e.2 :: r)) (gap last [])
def pool (es : List (Nat × CpInfo)) (last : Nat) : Array CpInfo := ⟨poolList es last⟩
def fileOf (pool : Array CpInfo) (this : Nat) (attrs : Array Attribute := #[]) (ms : Array MethodInfo := #[]) (fl : Nat := 33) (sup : Nat := 0) (ifs : Array Nat := #[]) (fds : Array FieldInfo := #[]) : ClassFile where
  minorVersion := 0
  majorVersion := 65
  constantPool := pool
  accessFlags := fl
  thisClass := this
  superClass := sup
  interfaces := ifs
  fields := fds
  methods := ms
  attributes := attrs
def plain (name : String) (sup : Option ClassId) : Class where
  name := name
  kind := .ordinary
  loader := none
  accessFlags := 33
  super := sup
  interfaces := #[]
  cf := none
  fields := #[]
  methods := #[]
  instanceTypes := #[]
  staticTypes := #[]
  resolved := #[]
  callSites := []
  init := .initialized
  statics := none
  mirror := none

def pool0 : Array CpInfo := pool [(5, u "<init>"), (0, u "()V"), (1, .class_ 10), (1, u "java/lang/Object")] 113

def k0c0 : Code := { maxStack := 0, maxLocals := 1, code := object_method_1_code, exceptionTable := #[], attributes := #[] }
def k0m0 : Method := { name := "<init>", desc := "()V", sig := { parameters := [], returnType := none }, accessFlags := 1, code := some k0c0 }
/-- java/lang/Object -/
def k0 : Class := { plain "java/lang/Object" none with
  accessFlags := 33
  interfaces := #[]
  cf := some (fileOf pool0 8 #[] #[{ accessFlags := 1, nameIndex := 5, descriptorIndex := 6, attributes := #[] }] 33 0 #[] #[])
  fields := #[]
  methods := #[k0m0]
  instanceTypes := #[]
  staticTypes := #[]
  resolved := Array.replicate 124 none
  statics := none }

def pool1 : Array CpInfo := pool [(2, .class_ 4), (0, .nameAndType 5 6), (0, u "java/lang/Object"), (0, u "<init>"), (0, u "()V"), (0, .class_ 8), (0, u "com/example/hinta/hinta/Statement"), (0, .methodref 7 3), (0, .methodref 11 12), (0, .class_ 13), (0, .nameAndType 14 15), (0, u "com/example/hinta/hinta/StatementTextPinLaw"), (0, u "line"), (0, u "(Lcom/example/hinta/hinta/Statement;[CIZII)I"), (0, .methodref 7 17), (0, .nameAndType 18 19), (0, u "text"), (0, u "()Ljava/lang/String;"), (0, .methodref 11 21), (0, .nameAndType 22 23), (0, u "same"), (0, u "(Ljava/lang/String;[CI)Z"), (0, .methodref 25 26), (0, .class_ 27), (0, .nameAndType 28 29), (0, u "java/lang/String"), (0, u "valueOf"), (0, u "(C)Ljava/lang/String;"), (0, .string 31), (0, u ""), (0, .methodref 7 33), (0, .nameAndType 34 35), (0, u "add"), (0, u "(Ljava/lang/String;Ljava/lang/String;)Lcom/example/hinta/hinta/Statement;"), (0, .methodref 25 37), (0, .nameAndType 38 39), (0, u "length"), (0, u "()I"), (0, .methodref 25 41), (0, .nameAndType 42 43), (0, u "charAt"), (0, u "(I)C"), (2, u "law"), (0, u "(IIII)Z")] 5

def k1m0 : Method := { name := "<init>", desc := "()V", sig := { parameters := [], returnType := none }, accessFlags := 1, code := none }
def k1c1 : Code := { maxStack := 7, maxLocals := 9, code := code, exceptionTable := #[], attributes := #[] }
def k1m1 : Method := { name := "law", desc := "(IIII)Z", sig := { parameters := [.int, .int, .int, .int], returnType := some .boolean }, accessFlags := 9, code := some k1c1 }
def k1c2 : Code := { maxStack := 3, maxLocals := 13, code := method_3_code, exceptionTable := #[], attributes := #[] }
def k1m2 : Method := { name := "line", desc := "(Lcom/example/hinta/hinta/Statement;[CIZII)I", sig := { parameters := [(.object "com/example/hinta/hinta/Statement"), (.array .char), .int, .boolean, .int, .int], returnType := some .int }, accessFlags := 10, code := some k1c2 }
def k1c3 : Code := { maxStack := 3, maxLocals := 3, code := method_4_code, exceptionTable := #[], attributes := #[] }
def k1m3 : Method := { name := "same", desc := "(Ljava/lang/String;[CI)Z", sig := { parameters := [(.object "java/lang/String"), (.array .char), .int], returnType := some .boolean }, accessFlags := 10, code := some k1c3 }
/-- com/example/hinta/hinta/StatementTextPinLaw -/
def k1 : Class := { plain "com/example/hinta/hinta/StatementTextPinLaw" (some 0) with
  accessFlags := 49
  interfaces := #[]
  cf := some (fileOf pool1 11 #[] #[{ accessFlags := 1, nameIndex := 5, descriptorIndex := 6, attributes := #[] }, { accessFlags := 9, nameIndex := 46, descriptorIndex := 47, attributes := #[] }, { accessFlags := 10, nameIndex := 14, descriptorIndex := 15, attributes := #[] }, { accessFlags := 10, nameIndex := 22, descriptorIndex := 23, attributes := #[] }] 49 2 #[] #[])
  fields := #[]
  methods := #[k1m0, k1m1, k1m2, k1m3]
  instanceTypes := #[]
  staticTypes := #[]
  resolved := Array.replicate 53 none
  statics := none }

def pool2 : Array CpInfo := pool [(1, .methodref 2 3), (0, .class_ 4), (0, .nameAndType 5 6), (0, u "java/lang/Object"), (0, u "<init>"), (0, u "()V"), (0, .class_ 8), (0, u "java/util/ArrayList"), (0, .methodref 7 3), (0, .fieldref 11 12), (0, .class_ 13), (0, .nameAndType 14 15), (0, u "com/example/hinta/hinta/Statement"), (0, u "keys"), (0, u "Ljava/util/List;"), (0, .fieldref 11 17), (0, .nameAndType 18 15), (0, u "values"), (0, .interfaceMethodref 20 21), (0, .class_ 22), (0, .nameAndType 23 24), (0, u "java/util/List"), (0, u "add"), (0, u "(Ljava/lang/Object;)Z"), (13, .interfaceMethodref 20 39), (0, .nameAndType 40 41), (0, u "get"), (0, u "(I)Ljava/lang/Object;"), (0, .class_ 43), (0, u "java/lang/String"), (0, .class_ 45), (0, u "java/lang/StringBuilder"), (0, .methodref 44 3), (0, .interfaceMethodref 20 48), (0, .nameAndType 49 50), (0, u "size"), (0, u "()I"), (0, .methodref 44 52), (0, .nameAndType 53 54), (0, u "append"), (0, u "(Ljava/lang/String;)Ljava/lang/StringBuilder;"), (0, .methodref 44 56), (0, .nameAndType 53 57), (0, u "(C)Ljava/lang/StringBuilder;"), (0, .methodref 44 59), (0, .nameAndType 60 61), (0, u "toString"), (0, u "()Ljava/lang/String;"), (4, u "(Ljava/lang/String;Ljava/lang/String;)Lcom/example/hinta/hinta/Statement;"), (2, u "text")] 17

def k2c0 : Code := { maxStack := 3, maxLocals := 1, code := prog_26_method_1_code, exceptionTable := #[], attributes := #[] }
def k2m0 : Method := { name := "<init>", desc := "()V", sig := { parameters := [], returnType := none }, accessFlags := 0, code := some k2c0 }
def k2c1 : Code := { maxStack := 2, maxLocals := 3, code := prog_26_method_2_code, exceptionTable := #[], attributes := #[] }
def k2m1 : Method := { name := "add", desc := "(Ljava/lang/String;Ljava/lang/String;)Lcom/example/hinta/hinta/Statement;", sig := { parameters := [(.object "java/lang/String"), (.object "java/lang/String")], returnType := some (.object "com/example/hinta/hinta/Statement") }, accessFlags := 0, code := some k2c1 }
def k2c2 : Code := { maxStack := 3, maxLocals := 3, code := prog_26_method_4_code, exceptionTable := #[], attributes := #[] }
def k2m2 : Method := { name := "text", desc := "()Ljava/lang/String;", sig := { parameters := [], returnType := some (.object "java/lang/String") }, accessFlags := 0, code := some k2c2 }
/-- com/example/hinta/hinta/Statement -/
def k2 : Class := { plain "com/example/hinta/hinta/Statement" (some 0) with
  accessFlags := 32
  interfaces := #[]
  cf := some (fileOf pool2 11 #[] #[{ accessFlags := 0, nameIndex := 5, descriptorIndex := 6, attributes := #[] }, { accessFlags := 0, nameIndex := 23, descriptorIndex := 66, attributes := #[] }, { accessFlags := 0, nameIndex := 69, descriptorIndex := 61, attributes := #[] }] 32 2 #[] #[{ accessFlags := 18, nameIndex := 14, descriptorIndex := 15, attributes := #[] }, { accessFlags := 18, nameIndex := 18, descriptorIndex := 15, attributes := #[] }])
  fields := #[{ name := "keys", type := (.object "java/util/List"), accessFlags := 18, slot := 0, constantValue := 0 }, { name := "values", type := (.object "java/util/List"), accessFlags := 18, slot := 1, constantValue := 0 }]
  methods := #[k2m0, k2m1, k2m2]
  instanceTypes := #[(.object "java/util/List"), (.object "java/util/List")]
  staticTypes := #[]
  resolved := Array.replicate 87 none
  statics := none }

def pool3 : Array CpInfo := pool [(8, .class_ 10), (1, u "java/lang/Iterable"), (24, .class_ 36), (0, u "java/lang/Object")] 25

/-- java/lang/Iterable -/
def k3 : Class := { plain "java/lang/Iterable" (some 0) with
  accessFlags := 1537
  interfaces := #[]
  cf := some (fileOf pool3 8 #[] #[] 1537 35 #[] #[])
  fields := #[]
  methods := #[]
  instanceTypes := #[]
  staticTypes := #[]
  resolved := Array.replicate 62 none
  statics := none }

def pool4 : Array CpInfo := pool [(10, .class_ 12), (1, u "java/util/Collection"), (47, .class_ 61), (0, u "java/lang/Object"), (0, .class_ 63), (0, u "java/lang/Iterable")] 51

/-- java/util/Collection -/
def k4 : Class := { plain "java/util/Collection" (some 0) with
  accessFlags := 1537
  interfaces := #[3]
  cf := some (fileOf pool4 10 #[] #[] 1537 60 #[62] #[])
  fields := #[]
  methods := #[]
  instanceTypes := #[]
  staticTypes := #[]
  resolved := Array.replicate 115 none
  statics := none }

def pool5 : Array CpInfo := pool [(1, .methodref 2 3), (0, .class_ 4), (0, .nameAndType 5 6), (0, u "java/lang/Object"), (0, u "<init>"), (0, u "()V"), (1, .class_ 10), (1, u "java/util/AbstractCollection"), (66, .class_ 78), (0, u "java/util/Collection")] 81

def k5c0 : Code := { maxStack := 1, maxLocals := 1, code := jdk_22_method_1_code, exceptionTable := #[], attributes := #[] }
def k5m0 : Method := { name := "<init>", desc := "()V", sig := { parameters := [], returnType := none }, accessFlags := 4, code := some k5c0 }
/-- java/util/AbstractCollection -/
def k5 : Class := { plain "java/util/AbstractCollection" (some 0) with
  accessFlags := 1057
  interfaces := #[4]
  cf := some (fileOf pool5 8 #[] #[{ accessFlags := 4, nameIndex := 5, descriptorIndex := 6, attributes := #[] }] 1057 2 #[77] #[])
  fields := #[]
  methods := #[k5m0]
  instanceTypes := #[]
  staticTypes := #[]
  resolved := Array.replicate 160 none
  statics := none }

def pool6 : Array CpInfo := pool [(8, .class_ 10), (1, u "java/util/SequencedCollection"), (15, .class_ 27), (0, u "java/lang/Object"), (0, .class_ 29), (0, u "java/util/Collection")] 27

/-- java/util/SequencedCollection -/
def k6 : Class := { plain "java/util/SequencedCollection" (some 0) with
  accessFlags := 1537
  interfaces := #[4]
  cf := some (fileOf pool6 8 #[] #[] 1537 26 #[28] #[])
  fields := #[]
  methods := #[]
  instanceTypes := #[]
  staticTypes := #[]
  resolved := Array.replicate 57 none
  statics := none }

def pool7 : Array CpInfo := pool [(8, .class_ 10), (1, u "java/util/List"), (49, u "add"), (3, u "(Ljava/lang/Object;)Z"), (10, u "get"), (0, u "(I)Ljava/lang/Object;"), (2, u "size"), (0, u "()I"), (22, .class_ 104), (0, u "java/lang/Object"), (15, .class_ 121), (0, u "java/util/SequencedCollection")] 129

def k7m0 : Method := { name := "size", desc := "()I", sig := { parameters := [], returnType := some .int }, accessFlags := 1025, code := none }
def k7m1 : Method := { name := "add", desc := "(Ljava/lang/Object;)Z", sig := { parameters := [(.object "java/lang/Object")], returnType := some .boolean }, accessFlags := 1025, code := none }
def k7m2 : Method := { name := "get", desc := "(I)Ljava/lang/Object;", sig := { parameters := [.int], returnType := some (.object "java/lang/Object") }, accessFlags := 1025, code := none }
/-- java/util/List -/
def k7 : Class := { plain "java/util/List" (some 0) with
  accessFlags := 1537
  interfaces := #[6]
  cf := some (fileOf pool7 8 #[] #[{ accessFlags := 1025, nameIndex := 79, descriptorIndex := 80, attributes := #[] }, { accessFlags := 1025, nameIndex := 60, descriptorIndex := 64, attributes := #[] }, { accessFlags := 1025, nameIndex := 75, descriptorIndex := 76, attributes := #[] }] 1537 103 #[120] #[])
  fields := #[]
  methods := #[k7m0, k7m1, k7m2]
  instanceTypes := #[]
  staticTypes := #[]
  resolved := Array.replicate 251 none
  statics := none }

def pool8 : Array CpInfo := pool [(1, .methodref 2 3), (0, .class_ 4), (0, .nameAndType 5 6), (0, u "java/util/AbstractCollection"), (0, u "<init>"), (0, u "()V"), (0, .fieldref 8 9), (0, .class_ 10), (0, .nameAndType 11 12), (0, u "java/util/AbstractList"), (0, u "modCount"), (0, u "I"), (64, .class_ 78), (0, u "java/util/AbstractList$Itr"), (3, .class_ 83), (0, u "java/util/AbstractList$ListItr"), (9, .class_ 94), (0, u "java/util/AbstractList$RandomAccessSubList"), (3, .class_ 99), (0, u "java/util/AbstractList$SubList"), (33, .class_ 134), (0, u "java/util/List"), (73, .class_ 209), (0, u "java/util/AbstractList$SubList$1"), (0, .class_ 211), (0, u "java/util/AbstractList$RandomAccessSpliterator")] 6

def k8c0 : Code := { maxStack := 2, maxLocals := 1, code := jdk_39_method_1_code, exceptionTable := #[], attributes := #[] }
def k8m0 : Method := { name := "<init>", desc := "()V", sig := { parameters := [], returnType := none }, accessFlags := 4, code := some k8c0 }
/-- java/util/AbstractList -/
def k8 : Class := { plain "java/util/AbstractList" (some 5) with
  accessFlags := 1057
  interfaces := #[7]
  cf := some (fileOf pool8 8 #[.nestMembers #[93, 98, 208, 210, 82, 77]] #[{ accessFlags := 4, nameIndex := 5, descriptorIndex := 6, attributes := #[] }] 1057 2 #[133] #[{ accessFlags := 132, nameIndex := 11, descriptorIndex := 12, attributes := #[] }])
  fields := #[{ name := "modCount", type := .int, accessFlags := 132, slot := 0, constantValue := 0 }]
  methods := #[k8m0]
  instanceTypes := #[.int]
  staticTypes := #[]
  resolved := Array.replicate 218 none
  statics := none }

def pool9 : Array CpInfo := pool [(1, .class_ 2), (0, u "java/util/RandomAccess"), (0, .class_ 4), (0, u "java/lang/Object")] 2

/-- java/util/RandomAccess -/
def k9 : Class := { plain "java/util/RandomAccess" (some 0) with
  accessFlags := 1537
  interfaces := #[]
  cf := some (fileOf pool9 1 #[] #[] 1537 3 #[] #[])
  fields := #[]
  methods := #[]
  instanceTypes := #[]
  staticTypes := #[]
  resolved := Array.replicate 7 none
  statics := none }

def pool10 : Array CpInfo := pool [(1, .class_ 2), (0, u "java/lang/Cloneable"), (0, .class_ 4), (0, u "java/lang/Object")] 2

/-- java/lang/Cloneable -/
def k10 : Class := { plain "java/lang/Cloneable" (some 0) with
  accessFlags := 1537
  interfaces := #[]
  cf := some (fileOf pool10 1 #[] #[] 1537 3 #[] #[])
  fields := #[]
  methods := #[]
  instanceTypes := #[]
  staticTypes := #[]
  resolved := Array.replicate 7 none
  statics := none }

def pool11 : Array CpInfo := pool [(1, .class_ 2), (0, u "java/io/Serializable"), (0, .class_ 4), (0, u "java/lang/Object")] 2

/-- java/io/Serializable -/
def k11 : Class := { plain "java/io/Serializable" (some 0) with
  accessFlags := 1537
  interfaces := #[]
  cf := some (fileOf pool11 1 #[] #[] 1537 3 #[] #[])
  fields := #[]
  methods := #[]
  instanceTypes := #[]
  staticTypes := #[]
  resolved := Array.replicate 7 none
  statics := none }

def pool12 : Array CpInfo := pool [(1, .methodref 2 3), (0, .class_ 4), (0, .nameAndType 5 6), (0, u "java/util/AbstractList"), (0, u "<init>"), (0, u "()V"), (0, .class_ 8), (0, u "java/lang/Object"), (0, .fieldref 10 11), (0, .class_ 12), (0, .nameAndType 13 14), (0, u "java/util/ArrayList"), (0, u "elementData"), (0, u "[Ljava/lang/Object;"), (2, u "EMPTY_ELEMENTDATA"), (21, .fieldref 10 40), (0, .nameAndType 41 14), (0, u "DEFAULTCAPACITY_EMPTY_ELEMENTDATA"), (5, u "()[Ljava/lang/Object;"), (0, .fieldref 10 49), (0, .nameAndType 50 51), (0, u "size"), (0, u "I"), (11, .fieldref 10 64), (0, .nameAndType 65 51), (0, u "modCount"), (3, .methodref 10 70), (0, .nameAndType 71 72), (0, u "grow"), (0, u "(I)[Ljava/lang/Object;"), (6, .methodref 80 81), (0, .class_ 82), (0, .nameAndType 83 84), (0, u "java/lang/Math"), (0, u "max"), (0, u "(II)I"), (11, u "(Ljava/lang/Object;)Z"), (21, .methodref 119 120), (0, .class_ 121), (0, .nameAndType 122 84), (0, u "java/util/Objects"), (0, u "checkIndex"), (0, .methodref 10 124), (0, .nameAndType 13 125), (0, u "(I)Ljava/lang/Object;"), (3, .methodref 10 130), (0, .nameAndType 71 47), (0, .methodref 10 132), (0, .nameAndType 133 134), (0, u "add"), (0, u "(Ljava/lang/Object;[Ljava/lang/Object;I)V"), (13, .class_ 149), (0, u "java/util/List"), (36, u "()I"), (75, .class_ 263), (0, u "java/util/ArrayList$ListItr"), (3, .class_ 268), (0, u "java/util/ArrayList$Itr"), (7, .class_ 277), (0, u "java/util/ArrayList$SubList"), (12, .class_ 291), (0, u "java/util/ArrayList$ArrayListSpliterator"), (37, .class_ 330), (0, u "java/util/RandomAccess"), (0, .class_ 332), (0, u "java/lang/Cloneable"), (0, .class_ 334), (0, u "java/io/Serializable"), (0, u "serialVersionUID"), (0, u "J"), (3, u "DEFAULT_CAPACITY"), (40, u "get"), (118, .class_ 501), (0, u "java/util/ArrayList$SubList$2"), (0, .class_ 503), (0, u "java/util/ArrayList$SubList$1")] 5

def k12c0 : Code := { maxStack := 2, maxLocals := 1, code := jdk_38_method_2_code, exceptionTable := #[], attributes := #[] }
def k12m0 : Method := { name := "<init>", desc := "()V", sig := { parameters := [], returnType := none }, accessFlags := 1, code := some k12c0 }
def k12c1 : Code := { maxStack := 4, maxLocals := 4, code := jdk_38_method_6_code, exceptionTable := #[], attributes := #[] }
def k12m1 : Method := { name := "grow", desc := "(I)[Ljava/lang/Object;", sig := { parameters := [.int], returnType := some (.array (.object "java/lang/Object")) }, accessFlags := 2, code := some k12c1 }
def k12c2 : Code := { maxStack := 3, maxLocals := 1, code := jdk_38_method_7_code, exceptionTable := #[], attributes := #[] }
def k12m2 : Method := { name := "grow", desc := "()[Ljava/lang/Object;", sig := { parameters := [], returnType := some (.array (.object "java/lang/Object")) }, accessFlags := 2, code := some k12c2 }
def k12c3 : Code := { maxStack := 1, maxLocals := 1, code := jdk_38_method_8_code, exceptionTable := #[], attributes := #[] }
def k12m3 : Method := { name := "size", desc := "()I", sig := { parameters := [], returnType := some .int }, accessFlags := 1, code := some k12c3 }
def k12c4 : Code := { maxStack := 2, maxLocals := 2, code := jdk_38_method_18_code, exceptionTable := #[], attributes := #[] }
def k12m4 : Method := { name := "elementData", desc := "(I)Ljava/lang/Object;", sig := { parameters := [.int], returnType := some (.object "java/lang/Object") }, accessFlags := 0, code := some k12c4 }
def k12c5 : Code := { maxStack := 2, maxLocals := 2, code := jdk_38_method_20_code, exceptionTable := #[], attributes := #[] }
def k12m5 : Method := { name := "get", desc := "(I)Ljava/lang/Object;", sig := { parameters := [.int], returnType := some (.object "java/lang/Object") }, accessFlags := 1, code := some k12c5 }
def k12c6 : Code := { maxStack := 3, maxLocals := 4, code := jdk_38_method_24_code, exceptionTable := #[], attributes := #[] }
def k12m6 : Method := { name := "add", desc := "(Ljava/lang/Object;[Ljava/lang/Object;I)V", sig := { parameters := [(.object "java/lang/Object"), (.array (.object "java/lang/Object")), .int], returnType := none }, accessFlags := 2, code := some k12c6 }
def k12c7 : Code := { maxStack := 4, maxLocals := 2, code := jdk_38_method_25_code, exceptionTable := #[], attributes := #[] }
def k12m7 : Method := { name := "add", desc := "(Ljava/lang/Object;)Z", sig := { parameters := [(.object "java/lang/Object")], returnType := some .boolean }, accessFlags := 1, code := some k12c7 }
/-- java/util/ArrayList -/
def k12 : Class := { plain "java/util/ArrayList" (some 8) with
  accessFlags := 33
  interfaces := #[7, 9, 10, 11]
  cf := some (fileOf pool12 10 #[.nestMembers #[290, 276, 500, 502, 262, 267]] #[{ accessFlags := 1, nameIndex := 5, descriptorIndex := 6, attributes := #[] }, { accessFlags := 2, nameIndex := 71, descriptorIndex := 72, attributes := #[] }, { accessFlags := 2, nameIndex := 71, descriptorIndex := 47, attributes := #[] }, { accessFlags := 1, nameIndex := 50, descriptorIndex := 186, attributes := #[] }, { accessFlags := 0, nameIndex := 13, descriptorIndex := 125, attributes := #[] }, { accessFlags := 1, nameIndex := 381, descriptorIndex := 125, attributes := #[] }, { accessFlags := 2, nameIndex := 133, descriptorIndex := 134, attributes := #[] }, { accessFlags := 1, nameIndex := 133, descriptorIndex := 96, attributes := #[] }] 33 2 #[148, 329, 331, 333] #[{ accessFlags := 26, nameIndex := 335, descriptorIndex := 336, attributes := #[] }, { accessFlags := 26, nameIndex := 340, descriptorIndex := 51, attributes := #[] }, { accessFlags := 26, nameIndex := 17, descriptorIndex := 14, attributes := #[] }, { accessFlags := 26, nameIndex := 41, descriptorIndex := 14, attributes := #[] }, { accessFlags := 128, nameIndex := 13, descriptorIndex := 14, attributes := #[] }, { accessFlags := 2, nameIndex := 50, descriptorIndex := 51, attributes := #[] }])
  fields := #[{ name := "serialVersionUID", type := .long, accessFlags := 26, slot := 0, constantValue := 0 }, { name := "DEFAULT_CAPACITY", type := .int, accessFlags := 26, slot := 1, constantValue := 0 }, { name := "EMPTY_ELEMENTDATA", type := (.array (.object "java/lang/Object")), accessFlags := 26, slot := 2, constantValue := 0 }, { name := "DEFAULTCAPACITY_EMPTY_ELEMENTDATA", type := (.array (.object "java/lang/Object")), accessFlags := 26, slot := 3, constantValue := 0 }, { name := "elementData", type := (.array (.object "java/lang/Object")), accessFlags := 128, slot := 1, constantValue := 0 }, { name := "size", type := .int, accessFlags := 2, slot := 2, constantValue := 0 }]
  methods := #[k12m0, k12m1, k12m2, k12m3, k12m4, k12m5, k12m6, k12m7]
  instanceTypes := #[.int, (.array (.object "java/lang/Object")), .int]
  staticTypes := #[.long, .int, (.array (.object "java/lang/Object")), (.array (.object "java/lang/Object"))]
  resolved := Array.replicate 509 none
  statics := some 0 }

def pool13 : Array CpInfo := pool [(1, .class_ 2), (0, u "java/lang/Appendable"), (0, .class_ 4), (0, u "java/lang/Object")] 9

/-- java/lang/Appendable -/
def k13 : Class := { plain "java/lang/Appendable" (some 0) with
  accessFlags := 1537
  interfaces := #[]
  cf := some (fileOf pool13 1 #[] #[] 1537 3 #[] #[])
  fields := #[]
  methods := #[]
  instanceTypes := #[]
  staticTypes := #[]
  resolved := Array.replicate 14 none
  statics := none }

def pool14 : Array CpInfo := pool [(2, .class_ 4), (1, u "java/lang/CharSequence"), (42, .class_ 48), (0, u "java/lang/CharSequence$1CodePointIterator"), (10, .class_ 60), (0, u "java/lang/CharSequence$1CharIterator"), (5, .class_ 67), (0, u "java/lang/Object")] 63

/-- java/lang/CharSequence -/
def k14 : Class := { plain "java/lang/CharSequence" (some 0) with
  accessFlags := 1537
  interfaces := #[]
  cf := some (fileOf pool14 2 #[.nestMembers #[47, 59]] #[] 1537 66 #[] #[])
  fields := #[]
  methods := #[]
  instanceTypes := #[]
  staticTypes := #[]
  resolved := Array.replicate 131 none
  statics := none }

def pool15 : Array CpInfo := pool [(1, .class_ 2), (0, u "java/lang/String"), (0, .methodref 4 5), (0, .class_ 6), (0, .nameAndType 7 8), (0, u "java/lang/Object"), (0, u "<init>"), (0, u "()V"), (1, .class_ 12), (1, u "java/lang/AbstractStringBuilder"), (0, u "EMPTYVALUE"), (0, u "[B"), (0, .fieldref 10 16), (0, .nameAndType 17 14), (0, u "value"), (0, .fieldref 1 19), (0, .nameAndType 20 21), (0, u "COMPACT_STRINGS"), (0, u "Z"), (0, .fieldref 10 23), (0, .nameAndType 24 25), (0, u "coder"), (0, u "B"), (6, .methodref 1 33), (0, .nameAndType 34 35), (0, u "length"), (0, u "()I"), (4, .methodref 1 41), (0, .nameAndType 24 42), (0, u "()B"), (2, u "append"), (0, u "(Ljava/lang/String;)Ljava/lang/AbstractStringBuilder;"), (1, .class_ 49), (0, u "java/lang/CharSequence"), (19, u "(Ljava/lang/String;)V"), (5, u "maybeLatin1"), (3, .fieldref 10 80), (0, .nameAndType 81 82), (0, u "count"), (0, u "I"), (0, .methodref 10 84), (0, .nameAndType 85 86), (0, u "isLatin1"), (0, u "()Z"), (1, .class_ 90), (1, u "java/lang/StringLatin1"), (9, .methodref 10 101), (0, .nameAndType 102 103), (0, u "ensureCapacityInternal"), (0, u "(I)V"), (87, .methodref 88 192), (0, .nameAndType 193 194), (0, u "canEncode"), (0, u "(C)Z"), (13, .methodref 10 209), (0, .nameAndType 210 211), (0, u "putStringAt"), (0, u "(ILjava/lang/String;)V"), (5, u "inflateIfNeededFor"), (2, .nameAndType 221 222), (0, u "getBytes"), (0, u "([BIB)V"), (69, u "(C)Ljava/lang/AbstractStringBuilder;"), (104, .methodref 10 398), (0, .nameAndType 217 69), (0, .methodref 1 220), (3, u "()[B"), (40, .class_ 445), (0, u "java/lang/Appendable"), (106, u "getValue")] 56

def k15m0 : Method := { name := "<init>", desc := "()V", sig := { parameters := [], returnType := none }, accessFlags := 0, code := none }
def k15c1 : Code := { maxStack := 2, maxLocals := 2, code := jdk_68_method_2_code, exceptionTable := #[], attributes := #[] }
def k15m1 : Method := { name := "<init>", desc := "(I)V", sig := { parameters := [.int], returnType := none }, accessFlags := 0, code := some k15c1 }
def k15c2 : Code := { maxStack := 1, maxLocals := 1, code := jdk_68_method_6_code, exceptionTable := #[], attributes := #[] }
def k15m2 : Method := { name := "length", desc := "()I", sig := { parameters := [], returnType := some .int }, accessFlags := 1, code := some k15c2 }
def k15c3 : Code := { maxStack := 4, maxLocals := 3, code := jdk_68_method_9_code, exceptionTable := #[], attributes := #[] }
def k15m3 : Method := { name := "ensureCapacityInternal", desc := "(I)V", sig := { parameters := [.int], returnType := none }, accessFlags := 2, code := some k15c3 }
def k15c4 : Code := { maxStack := 3, maxLocals := 3, code := jdk_68_method_22_code, exceptionTable := #[], attributes := #[] }
def k15m4 : Method := { name := "append", desc := "(Ljava/lang/String;)Ljava/lang/AbstractStringBuilder;", sig := { parameters := [(.object "java/lang/String")], returnType := some (.object "java/lang/AbstractStringBuilder") }, accessFlags := 1, code := some k15c4 }
def k15c5 : Code := { maxStack := 5, maxLocals := 2, code := jdk_68_method_31_code, exceptionTable := #[], attributes := #[] }
def k15m5 : Method := { name := "append", desc := "(C)Ljava/lang/AbstractStringBuilder;", sig := { parameters := [.char], returnType := some (.object "java/lang/AbstractStringBuilder") }, accessFlags := 1, code := some k15c5 }
def k15c6 : Code := { maxStack := 1, maxLocals := 1, code := jdk_68_method_64_code, exceptionTable := #[], attributes := #[] }
def k15m6 : Method := { name := "getValue", desc := "()[B", sig := { parameters := [], returnType := some (.array .byte) }, accessFlags := 16, code := some k15c6 }
def k15c7 : Code := { maxStack := 1, maxLocals := 1, code := jdk_68_method_68_code, exceptionTable := #[], attributes := #[] }
def k15m7 : Method := { name := "isLatin1", desc := "()Z", sig := { parameters := [], returnType := some .boolean }, accessFlags := 16, code := some k15c7 }
def k15c8 : Code := { maxStack := 2, maxLocals := 2, code := jdk_68_method_71_code, exceptionTable := #[], attributes := #[] }
def k15m8 : Method := { name := "inflateIfNeededFor", desc := "(Ljava/lang/String;)V", sig := { parameters := [(.object "java/lang/String")], returnType := none }, accessFlags := 2, code := some k15c8 }
def k15c9 : Code := { maxStack := 4, maxLocals := 3, code := jdk_68_method_73_code, exceptionTable := #[], attributes := #[] }
def k15m9 : Method := { name := "putStringAt", desc := "(ILjava/lang/String;)V", sig := { parameters := [.int, (.object "java/lang/String")], returnType := none }, accessFlags := 2, code := some k15c9 }
/-- java/lang/AbstractStringBuilder -/
def k15 : Class := { plain "java/lang/AbstractStringBuilder" (some 0) with
  accessFlags := 1056
  interfaces := #[13, 14]
  cf := some (fileOf pool15 10 #[] #[{ accessFlags := 0, nameIndex := 7, descriptorIndex := 8, attributes := #[] }, { accessFlags := 0, nameIndex := 7, descriptorIndex := 103, attributes := #[] }, { accessFlags := 1, nameIndex := 34, descriptorIndex := 35, attributes := #[] }, { accessFlags := 2, nameIndex := 102, descriptorIndex := 103, attributes := #[] }, { accessFlags := 1, nameIndex := 45, descriptorIndex := 46, attributes := #[] }, { accessFlags := 1, nameIndex := 45, descriptorIndex := 292, attributes := #[] }, { accessFlags := 16, nameIndex := 552, descriptorIndex := 403, attributes := #[] }, { accessFlags := 16, nameIndex := 85, descriptorIndex := 86, attributes := #[] }, { accessFlags := 2, nameIndex := 217, descriptorIndex := 69, attributes := #[] }, { accessFlags := 2, nameIndex := 210, descriptorIndex := 211, attributes := #[] }] 1056 4 #[444, 48] #[{ accessFlags := 0, nameIndex := 17, descriptorIndex := 14, attributes := #[] }, { accessFlags := 0, nameIndex := 24, descriptorIndex := 25, attributes := #[] }, { accessFlags := 0, nameIndex := 75, descriptorIndex := 21, attributes := #[] }, { accessFlags := 0, nameIndex := 81, descriptorIndex := 82, attributes := #[] }, { accessFlags := 26, nameIndex := 13, descriptorIndex := 14, attributes := #[] }])
  fields := #[{ name := "value", type := (.array .byte), accessFlags := 0, slot := 0, constantValue := 0 }, { name := "coder", type := .byte, accessFlags := 0, slot := 1, constantValue := 0 }, { name := "maybeLatin1", type := .boolean, accessFlags := 0, slot := 2, constantValue := 0 }, { name := "count", type := .int, accessFlags := 0, slot := 3, constantValue := 0 }, { name := "EMPTYVALUE", type := (.array .byte), accessFlags := 26, slot := 0, constantValue := 0 }]
  methods := #[k15m0, k15m1, k15m2, k15m3, k15m4, k15m5, k15m6, k15m7, k15m8, k15m9]
  instanceTypes := #[(.array .byte), .byte, .boolean, .int]
  staticTypes := #[(.array .byte)]
  resolved := Array.replicate 609 none
  statics := none }

def pool16 : Array CpInfo := pool [(1, .class_ 2), (0, u "java/lang/Comparable"), (0, .class_ 4), (0, u "java/lang/Object")] 7

/-- java/lang/Comparable -/
def k16 : Class := { plain "java/lang/Comparable" (some 0) with
  accessFlags := 1537
  interfaces := #[]
  cf := some (fileOf pool16 1 #[] #[] 1537 3 #[] #[])
  fields := #[]
  methods := #[]
  instanceTypes := #[]
  staticTypes := #[]
  resolved := Array.replicate 12 none
  statics := none }

def pool17 : Array CpInfo := pool [(1, .methodref 2 3), (0, .class_ 4), (0, .nameAndType 5 6), (0, u "java/lang/AbstractStringBuilder"), (0, u "<init>"), (0, u "(I)V"), (11, .class_ 20), (1, u "java/lang/String"), (3, .class_ 26), (1, u "java/lang/StringBuilder"), (0, u "append"), (0, u "(Ljava/lang/String;)Ljava/lang/StringBuilder;"), (0, .methodref 2 30), (0, .nameAndType 27 31), (0, u "(Ljava/lang/String;)Ljava/lang/AbstractStringBuilder;"), (18, .methodref 2 51), (0, .nameAndType 27 52), (0, u "(C)Ljava/lang/AbstractStringBuilder;"), (84, .methodref 18 138), (0, .nameAndType 5 139), (0, u "(Ljava/lang/StringBuilder;)V"), (5, u "()V"), (10, u "()I"), (129, u "(C)Ljava/lang/StringBuilder;"), (56, .methodref 2 344), (0, .nameAndType 345 156), (0, u "length"), (3, .class_ 350), (0, u "java/lang/Appendable"), (0, .class_ 352), (0, u "java/io/Serializable"), (0, .class_ 354), (0, u "java/lang/Comparable"), (0, .class_ 356), (0, u "java/lang/CharSequence"), (0, u "serialVersionUID"), (0, u "J"), (40, u "toString"), (0, u "()Ljava/lang/String;")] 21

def k17c0 : Code := { maxStack := 2, maxLocals := 1, code := jdk_67_method_1_code, exceptionTable := #[], attributes := #[] }
def k17m0 : Method := { name := "<init>", desc := "()V", sig := { parameters := [], returnType := none }, accessFlags := 1, code := some k17c0 }
def k17c1 : Code := { maxStack := 2, maxLocals := 2, code := jdk_67_method_7_code, exceptionTable := #[], attributes := #[] }
def k17m1 : Method := { name := "append", desc := "(Ljava/lang/String;)Ljava/lang/StringBuilder;", sig := { parameters := [(.object "java/lang/String")], returnType := some (.object "java/lang/StringBuilder") }, accessFlags := 1, code := some k17c1 }
def k17c2 : Code := { maxStack := 2, maxLocals := 2, code := jdk_67_method_14_code, exceptionTable := #[], attributes := #[] }
def k17m2 : Method := { name := "append", desc := "(C)Ljava/lang/StringBuilder;", sig := { parameters := [.char], returnType := some (.object "java/lang/StringBuilder") }, accessFlags := 1, code := some k17c2 }
def k17c3 : Code := { maxStack := 3, maxLocals := 1, code := jdk_67_method_42_code, exceptionTable := #[], attributes := #[] }
def k17m3 : Method := { name := "toString", desc := "()Ljava/lang/String;", sig := { parameters := [], returnType := some (.object "java/lang/String") }, accessFlags := 1, code := some k17c3 }
def k17c4 : Code := { maxStack := 1, maxLocals := 1, code := jdk_67_method_93_code, exceptionTable := #[], attributes := #[] }
def k17m4 : Method := { name := "length", desc := "()I", sig := { parameters := [], returnType := some .int }, accessFlags := 4161, code := some k17c4 }
/-- java/lang/StringBuilder -/
def k17 : Class := { plain "java/lang/StringBuilder" (some 15) with
  accessFlags := 49
  interfaces := #[13, 11, 16, 14]
  cf := some (fileOf pool17 24 #[] #[{ accessFlags := 1, nameIndex := 5, descriptorIndex := 145, attributes := #[] }, { accessFlags := 1, nameIndex := 27, descriptorIndex := 28, attributes := #[] }, { accessFlags := 1, nameIndex := 27, descriptorIndex := 286, attributes := #[] }, { accessFlags := 1, nameIndex := 399, descriptorIndex := 400, attributes := #[] }, { accessFlags := 4161, nameIndex := 345, descriptorIndex := 156, attributes := #[] }] 49 2 #[349, 351, 353, 355] #[{ accessFlags := 24, nameIndex := 357, descriptorIndex := 358, attributes := #[] }])
  fields := #[{ name := "serialVersionUID", type := .long, accessFlags := 24, slot := 0, constantValue := 0 }]
  methods := #[k17m0, k17m1, k17m2, k17m3, k17m4]
  instanceTypes := #[(.array .byte), .byte, .boolean, .int]
  staticTypes := #[.long]
  resolved := Array.replicate 422 none
  statics := none }

def pool18 : Array CpInfo := pool [(1, .class_ 2), (0, u "java/lang/constant/Constable"), (0, .class_ 4), (0, u "java/lang/Object")] 6

/-- java/lang/constant/Constable -/
def k18 : Class := { plain "java/lang/constant/Constable" (some 0) with
  accessFlags := 1537
  interfaces := #[]
  cf := some (fileOf pool18 1 #[] #[] 1537 3 #[] #[])
  fields := #[]
  methods := #[]
  instanceTypes := #[]
  staticTypes := #[]
  resolved := Array.replicate 11 none
  statics := none }

def pool19 : Array CpInfo := pool [(1, .class_ 2), (0, u "java/lang/constant/ConstantDesc"), (0, .class_ 4), (0, u "java/lang/Object")] 32

/-- java/lang/constant/ConstantDesc -/
def k19 : Class := { plain "java/lang/constant/ConstantDesc" (some 0) with
  accessFlags := 1537
  interfaces := #[]
  cf := some (fileOf pool19 1 #[] #[] 1537 3 #[] #[])
  fields := #[]
  methods := #[]
  instanceTypes := #[]
  staticTypes := #[]
  resolved := Array.replicate 37 none
  statics := none }

def pool20 : Array CpInfo := pool [(1, .methodref 2 3), (0, .class_ 4), (0, .nameAndType 5 6), (0, u "java/lang/Object"), (0, u "<init>"), (0, u "()V"), (2, .fieldref 10 11), (0, .class_ 12), (0, .nameAndType 13 14), (0, u "java/lang/String"), (0, u "value"), (0, u "[B"), (0, .fieldref 10 16), (0, .nameAndType 17 18), (0, u "coder"), (0, u "B"), (2, u "hash"), (0, u "I"), (2, u "hashIsZero"), (0, u "Z"), (11, .fieldref 10 39), (0, .nameAndType 40 26), (0, u "COMPACT_STRINGS"), (12, u "toBytes"), (0, .methodref 55 56), (0, .class_ 57), (0, .nameAndType 58 59), (0, u "java/util/Arrays"), (0, u "copyOfRange"), (0, u "([BII)[B"), (47, .class_ 109), (1, u "java/lang/StringLatin1"), (32, u "()Z"), (50, .class_ 195), (1, u "java/lang/System"), (13, .methodref 10 210), (0, .nameAndType 5 211), (0, u "([BB)V"), (0, .methodref 193 213), (0, .nameAndType 214 215), (0, u "arraycopy"), (0, u "(Ljava/lang/Object;ILjava/lang/Object;II)V"), (118, u "()I"), (0, .methodref 10 336), (0, .nameAndType 17 337), (0, u "()B"), (2, u "()[B"), (22, u "([BI)C"), (5, u "(C)Z"), (21, u "(II)V"), (35, u "(I)C"), (61, .methodref 10 490), (0, .nameAndType 5 491), (0, u "(Ljava/lang/AbstractStringBuilder;Ljava/lang/Void;)V"), (0, .methodref 10 493), (0, .nameAndType 494 142), (0, u "isLatin1"), (0, .methodref 107 496), (0, .nameAndType 497 363), (0, u "charAt"), (3, u "checkIndex"), (4, .nameAndType 507 334), (0, u "length"), (24, u "getBytes"), (16, .methodref 550 506), (0, .class_ 551), (0, u "java/lang/AbstractStringBuilder"), (0, .methodref 550 553), (0, .nameAndType 554 340), (0, u "getValue"), (20, .class_ 576), (0, u "java/lang/CharSequence"), (22, u "CASE_INSENSITIVE_ORDER"), (0, u "Ljava/util/Comparator;"), (181, u "valueOf"), (0, u "(C)Ljava/lang/String;"), (37, u "([BIB)V"), (193, .methodref 107 1016), (0, .nameAndType 1017 369), (0, u "canEncode"), (0, .methodref 107 1019), (0, .nameAndType 53 1020), (0, u "(C)[B"), (26, .methodref 550 493), (5, .fieldref 1054 1055), (0, .class_ 1056), (0, .nameAndType 1057 1058), (0, u "jdk/internal/util/Preconditions"), (0, u "SIOOBE_FORMATTER"), (0, u "Ljava/util/function/BiFunction;"), (0, .methodref 1054 1060), (0, .nameAndType 501 1061), (0, u "(IILjava/util/function/BiFunction;)I"), (39, u "serialPersistentFields"), (0, u "[Ljava/io/ObjectStreamField;"), (0, .class_ 1104), (0, u "java/lang/String$CaseInsensitiveComparator"), (1, .class_ 1107), (0, u "java/io/Serializable"), (0, .class_ 1109), (0, u "java/lang/Comparable"), (0, .class_ 1111), (0, u "java/lang/constant/Constable"), (0, .class_ 1113), (0, u "java/lang/constant/ConstantDesc"), (2, u "serialVersionUID"), (0, u "J"), (3, u "REPL"), (0, u "C"), (2, u "LATIN1"), (1, u "UTF16"), (105, u "(Ljava/lang/StringBuilder;)V")] 217

def k20m0 : Method := { name := "<init>", desc := "()V", sig := { parameters := [], returnType := none }, accessFlags := 1, code := none }
def k20c1 : Code := { maxStack := 3, maxLocals := 2, code := jdk_42_method_53_code, exceptionTable := #[], attributes := #[] }
def k20m1 : Method := { name := "<init>", desc := "(Ljava/lang/StringBuilder;)V", sig := { parameters := [(.object "java/lang/StringBuilder")], returnType := none }, accessFlags := 1, code := some k20c1 }
def k20c2 : Code := { maxStack := 2, maxLocals := 1, code := jdk_42_method_54_code, exceptionTable := #[], attributes := #[] }
def k20m2 : Method := { name := "length", desc := "()I", sig := { parameters := [], returnType := some .int }, accessFlags := 1, code := some k20c2 }
def k20c3 : Code := { maxStack := 2, maxLocals := 2, code := jdk_42_method_56_code, exceptionTable := #[], attributes := #[] }
def k20m3 : Method := { name := "charAt", desc := "(I)C", sig := { parameters := [.int], returnType := some .char }, accessFlags := 1, code := some k20c3 }
def k20c4 : Code := { maxStack := 4, maxLocals := 1, code := jdk_42_method_139_code, exceptionTable := #[], attributes := #[] }
def k20m4 : Method := { name := "valueOf", desc := "(C)Ljava/lang/String;", sig := { parameters := [.char], returnType := some (.object "java/lang/String") }, accessFlags := 9, code := some k20c4 }
def k20c5 : Code := { maxStack := 5, maxLocals := 4, code := jdk_42_method_147_code, exceptionTable := #[], attributes := #[] }
def k20m5 : Method := { name := "getBytes", desc := "([BIB)V", sig := { parameters := [(.array .byte), .int, .byte], returnType := none }, accessFlags := 0, code := some k20c5 }
def k20c6 : Code := { maxStack := 5, maxLocals := 5, code := jdk_42_method_150_code, exceptionTable := #[], attributes := #[] }
def k20m6 : Method := { name := "<init>", desc := "(Ljava/lang/AbstractStringBuilder;Ljava/lang/Void;)V", sig := { parameters := [(.object "java/lang/AbstractStringBuilder"), (.object "java/lang/Void")], returnType := none }, accessFlags := 0, code := some k20c6 }
def k20c7 : Code := { maxStack := 2, maxLocals := 3, code := jdk_42_method_151_code, exceptionTable := #[], attributes := #[] }
def k20m7 : Method := { name := "<init>", desc := "([BB)V", sig := { parameters := [(.array .byte), .byte], returnType := none }, accessFlags := 0, code := some k20c7 }
def k20c8 : Code := { maxStack := 1, maxLocals := 1, code := jdk_42_method_152_code, exceptionTable := #[], attributes := #[] }
def k20m8 : Method := { name := "coder", desc := "()B", sig := { parameters := [], returnType := some .byte }, accessFlags := 0, code := some k20c8 }
def k20c9 : Code := { maxStack := 1, maxLocals := 1, code := jdk_42_method_154_code, exceptionTable := #[], attributes := #[] }
def k20m9 : Method := { name := "isLatin1", desc := "()Z", sig := { parameters := [], returnType := some .boolean }, accessFlags := 0, code := some k20c9 }
def k20c10 : Code := { maxStack := 3, maxLocals := 2, code := jdk_42_method_155_code, exceptionTable := #[], attributes := #[] }
def k20m10 : Method := { name := "checkIndex", desc := "(II)V", sig := { parameters := [.int, .int], returnType := none }, accessFlags := 8, code := some k20c10 }
/-- java/lang/String -/
def k20 : Class := { plain "java/lang/String" (some 0) with
  accessFlags := 49
  interfaces := #[11, 16, 14, 18, 19]
  cf := some (fileOf pool20 10 #[.nestMembers #[1103]] #[{ accessFlags := 1, nameIndex := 5, descriptorIndex := 6, attributes := #[] }, { accessFlags := 1, nameIndex := 5, descriptorIndex := 1233, attributes := #[] }, { accessFlags := 1, nameIndex := 507, descriptorIndex := 334, attributes := #[] }, { accessFlags := 1, nameIndex := 497, descriptorIndex := 427, attributes := #[] }, { accessFlags := 9, nameIndex := 782, descriptorIndex := 783, attributes := #[] }, { accessFlags := 0, nameIndex := 532, descriptorIndex := 821, attributes := #[] }, { accessFlags := 0, nameIndex := 5, descriptorIndex := 491, attributes := #[] }, { accessFlags := 0, nameIndex := 5, descriptorIndex := 211, attributes := #[] }, { accessFlags := 0, nameIndex := 17, descriptorIndex := 337, attributes := #[] }, { accessFlags := 0, nameIndex := 494, descriptorIndex := 142, attributes := #[] }, { accessFlags := 8, nameIndex := 501, descriptorIndex := 391, attributes := #[] }] 49 2 #[1106, 1108, 575, 1110, 1112] #[{ accessFlags := 18, nameIndex := 13, descriptorIndex := 14, attributes := #[] }, { accessFlags := 18, nameIndex := 17, descriptorIndex := 18, attributes := #[] }, { accessFlags := 2, nameIndex := 21, descriptorIndex := 22, attributes := #[] }, { accessFlags := 2, nameIndex := 25, descriptorIndex := 26, attributes := #[] }, { accessFlags := 26, nameIndex := 1116, descriptorIndex := 1117, attributes := #[] }, { accessFlags := 24, nameIndex := 40, descriptorIndex := 26, attributes := #[] }, { accessFlags := 26, nameIndex := 1101, descriptorIndex := 1102, attributes := #[] }, { accessFlags := 26, nameIndex := 1121, descriptorIndex := 1122, attributes := #[] }, { accessFlags := 25, nameIndex := 599, descriptorIndex := 600, attributes := #[] }, { accessFlags := 24, nameIndex := 1125, descriptorIndex := 18, attributes := #[] }, { accessFlags := 24, nameIndex := 1127, descriptorIndex := 18, attributes := #[] }])
  fields := #[{ name := "value", type := (.array .byte), accessFlags := 18, slot := 0, constantValue := 0 }, { name := "coder", type := .byte, accessFlags := 18, slot := 1, constantValue := 0 }, { name := "hash", type := .int, accessFlags := 2, slot := 2, constantValue := 0 }, { name := "hashIsZero", type := .boolean, accessFlags := 2, slot := 3, constantValue := 0 }, { name := "serialVersionUID", type := .long, accessFlags := 26, slot := 0, constantValue := 0 }, { name := "COMPACT_STRINGS", type := .boolean, accessFlags := 24, slot := 1, constantValue := 0 }, { name := "serialPersistentFields", type := (.array (.object "java/io/ObjectStreamField")), accessFlags := 26, slot := 2, constantValue := 0 }, { name := "REPL", type := .char, accessFlags := 26, slot := 3, constantValue := 0 }, { name := "CASE_INSENSITIVE_ORDER", type := (.object "java/util/Comparator"), accessFlags := 25, slot := 4, constantValue := 0 }, { name := "LATIN1", type := .byte, accessFlags := 24, slot := 5, constantValue := 0 }, { name := "UTF16", type := .byte, accessFlags := 24, slot := 6, constantValue := 0 }]
  methods := #[k20m0, k20m1, k20m2, k20m3, k20m4, k20m5, k20m6, k20m7, k20m8, k20m9, k20m10]
  instanceTypes := #[(.array .byte), .byte, .int, .boolean]
  staticTypes := #[.long, .boolean, (.array (.object "java/io/ObjectStreamField")), .char, (.object "java/util/Comparator"), .byte, .byte]
  resolved := Array.replicate 1451 none
  statics := some 1 }

def pool21 : Array CpInfo := pool [(2, .class_ 4), (1, u "java/lang/Object"), (0, u "<init>"), (0, u "()V"), (7, .class_ 16), (1, u "java/util/Arrays"), (57, .class_ 76), (1, u "java/util/Arrays$NaturalOrder"), (36, .class_ 115), (1, u "java/util/Arrays$LegacyMergeSort"), (1, u "Z"), (21, u "copyOfRange"), (10, .methodref 151 152), (0, .class_ 153), (0, .nameAndType 154 155), (0, u "java/lang/System"), (0, u "arraycopy"), (0, u "(Ljava/lang/Object;ILjava/lang/Object;II)V"), (148, .methodref 305 306), (0, .class_ 307), (0, .nameAndType 308 309), (0, u "java/lang/Math"), (0, u "min"), (0, u "(II)I"), (29, .methodref 14 340), (0, .nameAndType 341 342), (0, u "copyOfRangeByte"), (0, u "([BII)[B"), (0, .methodref 14 344), (0, .nameAndType 345 346), (0, u "checkLength"), (0, u "(II)V"), (28, .class_ 376), (0, u "java/util/Arrays$ArrayList"), (68, u "$assertionsDisabled"), (269, u "MIN_ARRAY_SORT_GRAN"), (0, u "I"), (2, u "INSERTIONSORT_THRESHOLD"), (255, .class_ 976), (0, u "java/util/Arrays$ArrayItr")] 52

def k21m0 : Method := { name := "<init>", desc := "()V", sig := { parameters := [], returnType := none }, accessFlags := 2, code := none }
def k21c1 : Code := { maxStack := 4, maxLocals := 2, code := jdk_65_method_131_code, exceptionTable := #[], attributes := #[] }
def k21m1 : Method := { name := "checkLength", desc := "(II)V", sig := { parameters := [.int, .int], returnType := none }, accessFlags := 10, code := some k21c1 }
def k21c2 : Code := { maxStack := 3, maxLocals := 3, code := jdk_65_method_132_code, exceptionTable := #[], attributes := #[] }
def k21m2 : Method := { name := "copyOfRange", desc := "([BII)[B", sig := { parameters := [(.array .byte), .int, .int], returnType := some (.array .byte) }, accessFlags := 9, code := some k21c2 }
def k21c3 : Code := { maxStack := 6, maxLocals := 5, code := jdk_65_method_133_code, exceptionTable := #[], attributes := #[] }
def k21m3 : Method := { name := "copyOfRangeByte", desc := "([BII)[B", sig := { parameters := [(.array .byte), .int, .int], returnType := some (.array .byte) }, accessFlags := 10, code := some k21c3 }
/-- java/util/Arrays -/
def k21 : Class := { plain "java/util/Arrays" (some 0) with
  accessFlags := 49
  interfaces := #[]
  cf := some (fileOf pool21 14 #[.nestMembers #[975, 375, 113, 74]] #[{ accessFlags := 2, nameIndex := 5, descriptorIndex := 6, attributes := #[] }, { accessFlags := 10, nameIndex := 345, descriptorIndex := 346, attributes := #[] }, { accessFlags := 9, nameIndex := 139, descriptorIndex := 342, attributes := #[] }, { accessFlags := 10, nameIndex := 341, descriptorIndex := 342, attributes := #[] }] 49 2 #[] #[{ accessFlags := 26, nameIndex := 715, descriptorIndex := 716, attributes := #[] }, { accessFlags := 26, nameIndex := 719, descriptorIndex := 716, attributes := #[] }, { accessFlags := 4120, nameIndex := 445, descriptorIndex := 117, attributes := #[] }])
  fields := #[{ name := "MIN_ARRAY_SORT_GRAN", type := .int, accessFlags := 26, slot := 0, constantValue := 0 }, { name := "INSERTIONSORT_THRESHOLD", type := .int, accessFlags := 26, slot := 1, constantValue := 0 }, { name := "$assertionsDisabled", type := .boolean, accessFlags := 4120, slot := 2, constantValue := 0 }]
  methods := #[k21m0, k21m1, k21m2, k21m3]
  instanceTypes := #[]
  staticTypes := #[.int, .int, .boolean]
  resolved := Array.replicate 1029 none
  statics := none }

def pool22 : Array CpInfo := pool [(1, .class_ 2), (0, u "java/lang/Math"), (1, .class_ 6), (1, u "java/lang/Object"), (0, u "<init>"), (0, u "()V"), (89, .class_ 100), (1, u "java/lang/Math$RandomNumberGeneratorHolder"), (71, u "negativeZeroFloatBits"), (0, u "J"), (2, u "negativeZeroDoubleBits"), (21, u "max"), (2, u "min"), (43, u "$assertionsDisabled"), (0, u "Z"), (88, u "(II)I"), (2, u "twoToTheDoubleScaleDown"), (0, u "D"), (4, u "twoToTheDoubleScaleUp"), (9, u "E"), (3, u "PI"), (2, u "TAU"), (2, u "DEGREES_TO_RADIANS"), (0, u "RADIANS_TO_DEGREES")] 94

def k22m0 : Method := { name := "<init>", desc := "()V", sig := { parameters := [], returnType := none }, accessFlags := 2, code := none }
def k22c1 : Code := { maxStack := 2, maxLocals := 2, code := jdk_29_method_65_code, exceptionTable := #[], attributes := #[] }
def k22m1 : Method := { name := "max", desc := "(II)I", sig := { parameters := [.int, .int], returnType := some .int }, accessFlags := 9, code := some k22c1 }
def k22c2 : Code := { maxStack := 2, maxLocals := 2, code := jdk_29_method_69_code, exceptionTable := #[], attributes := #[] }
def k22m2 : Method := { name := "min", desc := "(II)I", sig := { parameters := [.int, .int], returnType := some .int }, accessFlags := 9, code := some k22c2 }
/-- java/lang/Math -/
def k22 : Class := { plain "java/lang/Math" (some 0) with
  accessFlags := 49
  interfaces := #[]
  cf := some (fileOf pool22 1 #[.nestMembers #[98]] #[{ accessFlags := 2, nameIndex := 7, descriptorIndex := 8, attributes := #[] }, { accessFlags := 9, nameIndex := 198, descriptorIndex := 335, attributes := #[] }, { accessFlags := 9, nameIndex := 201, descriptorIndex := 335, attributes := #[] }] 49 4 #[] #[{ accessFlags := 25, nameIndex := 354, descriptorIndex := 339, attributes := #[] }, { accessFlags := 25, nameIndex := 358, descriptorIndex := 339, attributes := #[] }, { accessFlags := 25, nameIndex := 361, descriptorIndex := 339, attributes := #[] }, { accessFlags := 26, nameIndex := 364, descriptorIndex := 339, attributes := #[] }, { accessFlags := 26, nameIndex := 365, descriptorIndex := 339, attributes := #[] }, { accessFlags := 26, nameIndex := 172, descriptorIndex := 173, attributes := #[] }, { accessFlags := 26, nameIndex := 176, descriptorIndex := 173, attributes := #[] }, { accessFlags := 8, nameIndex := 344, descriptorIndex := 339, attributes := #[] }, { accessFlags := 8, nameIndex := 338, descriptorIndex := 339, attributes := #[] }, { accessFlags := 4120, nameIndex := 245, descriptorIndex := 246, attributes := #[] }])
  fields := #[{ name := "E", type := .double, accessFlags := 25, slot := 0, constantValue := 0 }, { name := "PI", type := .double, accessFlags := 25, slot := 1, constantValue := 0 }, { name := "TAU", type := .double, accessFlags := 25, slot := 2, constantValue := 0 }, { name := "DEGREES_TO_RADIANS", type := .double, accessFlags := 26, slot := 3, constantValue := 0 }, { name := "RADIANS_TO_DEGREES", type := .double, accessFlags := 26, slot := 4, constantValue := 0 }, { name := "negativeZeroFloatBits", type := .long, accessFlags := 26, slot := 5, constantValue := 0 }, { name := "negativeZeroDoubleBits", type := .long, accessFlags := 26, slot := 6, constantValue := 0 }, { name := "twoToTheDoubleScaleUp", type := .double, accessFlags := 8, slot := 7, constantValue := 0 }, { name := "twoToTheDoubleScaleDown", type := .double, accessFlags := 8, slot := 8, constantValue := 0 }, { name := "$assertionsDisabled", type := .boolean, accessFlags := 4120, slot := 9, constantValue := 0 }]
  methods := #[k22m0, k22m1, k22m2]
  instanceTypes := #[]
  staticTypes := #[.double, .double, .double, .double, .double, .long, .long, .double, .double, .boolean]
  resolved := Array.replicate 460 none
  statics := none }

def pool23 : Array CpInfo := pool [(2, .class_ 4), (1, u "java/lang/Object"), (0, u "<init>"), (0, u "()V"), (1, .class_ 10), (1, u "java/lang/System"), (0, u "allowSecurityManager"), (0, u "I"), (16, u "cons"), (0, u "Ljava/io/Console;"), (77, .class_ 110), (1, u "java/lang/System$CallersHolder"), (43, u "initialErrStream"), (0, u "Ljava/io/PrintStream;"), (19, u "security"), (0, u "Ljava/lang/SecurityManager;"), (31, .class_ 209), (0, u "java/lang/System$1"), (7, u "props"), (0, u "Ljava/util/Properties;"), (2, u "lineSeparator"), (0, u "Ljava/lang/String;"), (96, .class_ 321), (1, u "java/lang/System$LoggerFinder"), (5, .class_ 328), (0, u "java/lang/System$Logger"), (67, u "err"), (2, u "out"), (91, u "notSupportedJnuEncoding"), (15, u "in"), (17, u "initialIn"), (0, u "Ljava/io/InputStream;"), (35, u "bootLayer"), (0, u "Ljava/lang/ModuleLayer;"), (99, .class_ 664), (0, u "java/lang/System$2"), (9, u "NEVER"), (2, u "MAYBE"), (49, u "arraycopy"), (0, u "(Ljava/lang/Object;ILjava/lang/Object;II)V"), (72, .class_ 802), (0, u "java/lang/System$Logger$Level")] 31

def k23m0 : Method := { name := "<init>", desc := "()V", sig := { parameters := [], returnType := none }, accessFlags := 2, code := none }
def k23m1 : Method := { name := "arraycopy", desc := "(Ljava/lang/Object;ILjava/lang/Object;II)V", sig := { parameters := [(.object "java/lang/Object"), .int, (.object "java/lang/Object"), .int, .int], returnType := none }, accessFlags := 265, code := none }
/-- java/lang/System -/
def k23 : Class := { plain "java/lang/System" (some 0) with
  accessFlags := 49
  interfaces := #[]
  cf := some (fileOf pool23 8 #[.nestMembers #[319, 327, 801, 108, 663, 208]] #[{ accessFlags := 2, nameIndex := 5, descriptorIndex := 6, attributes := #[] }, { accessFlags := 265, nameIndex := 727, descriptorIndex := 728, attributes := #[] }] 49 2 #[] #[{ accessFlags := 25, nameIndex := 507, descriptorIndex := 526, attributes := #[] }, { accessFlags := 25, nameIndex := 399, descriptorIndex := 155, attributes := #[] }, { accessFlags := 25, nameIndex := 396, descriptorIndex := 155, attributes := #[] }, { accessFlags := 10, nameIndex := 525, descriptorIndex := 526, attributes := #[] }, { accessFlags := 26, nameIndex := 674, descriptorIndex := 12, attributes := #[] }, { accessFlags := 26, nameIndex := 677, descriptorIndex := 12, attributes := #[] }, { accessFlags := 10, nameIndex := 11, descriptorIndex := 12, attributes := #[] }, { accessFlags := 74, nameIndex := 175, descriptorIndex := 176, attributes := #[] }, { accessFlags := 10, nameIndex := 491, descriptorIndex := 222, attributes := #[] }, { accessFlags := 74, nameIndex := 29, descriptorIndex := 30, attributes := #[] }, { accessFlags := 74, nameIndex := 154, descriptorIndex := 155, attributes := #[] }, { accessFlags := 10, nameIndex := 217, descriptorIndex := 218, attributes := #[] }, { accessFlags := 10, nameIndex := 221, descriptorIndex := 222, attributes := #[] }, { accessFlags := 8, nameIndex := 562, descriptorIndex := 563, attributes := #[] }])
  fields := #[{ name := "in", type := (.object "java/io/InputStream"), accessFlags := 25, slot := 0, constantValue := 0 }, { name := "out", type := (.object "java/io/PrintStream"), accessFlags := 25, slot := 1, constantValue := 0 }, { name := "err", type := (.object "java/io/PrintStream"), accessFlags := 25, slot := 2, constantValue := 0 }, { name := "initialIn", type := (.object "java/io/InputStream"), accessFlags := 10, slot := 3, constantValue := 0 }, { name := "NEVER", type := .int, accessFlags := 26, slot := 4, constantValue := 0 }, { name := "MAYBE", type := .int, accessFlags := 26, slot := 5, constantValue := 0 }, { name := "allowSecurityManager", type := .int, accessFlags := 10, slot := 6, constantValue := 0 }, { name := "security", type := (.object "java/lang/SecurityManager"), accessFlags := 74, slot := 7, constantValue := 0 }, { name := "notSupportedJnuEncoding", type := (.object "java/lang/String"), accessFlags := 10, slot := 8, constantValue := 0 }, { name := "cons", type := (.object "java/io/Console"), accessFlags := 74, slot := 9, constantValue := 0 }, { name := "initialErrStream", type := (.object "java/io/PrintStream"), accessFlags := 74, slot := 10, constantValue := 0 }, { name := "props", type := (.object "java/util/Properties"), accessFlags := 10, slot := 11, constantValue := 0 }, { name := "lineSeparator", type := (.object "java/lang/String"), accessFlags := 10, slot := 12, constantValue := 0 }, { name := "bootLayer", type := (.object "java/lang/ModuleLayer"), accessFlags := 8, slot := 13, constantValue := 0 }]
  methods := #[k23m0, k23m1]
  instanceTypes := #[]
  staticTypes := #[(.object "java/io/InputStream"), (.object "java/io/PrintStream"), (.object "java/io/PrintStream"), (.object "java/io/InputStream"), .int, .int, .int, (.object "java/lang/SecurityManager"), (.object "java/lang/String"), (.object "java/io/Console"), (.object "java/io/PrintStream"), (.object "java/util/Properties"), (.object "java/lang/String"), (.object "java/lang/ModuleLayer")]
  resolved := Array.replicate 834 none
  statics := none }

def pool24 : Array CpInfo := pool [(1, .class_ 2), (0, u "java/lang/String"), (1, .class_ 6), (1, u "java/lang/Object"), (0, u "<init>"), (0, u "()V"), (0, .methodref 1 10), (0, .nameAndType 11 12), (0, u "checkIndex"), (0, u "(II)V"), (1, .class_ 16), (1, u "java/lang/StringLatin1"), (36, u "([BI)C"), (36, u "canEncode"), (14, u "(C)Z"), (15, u "$assertionsDisabled"), (0, u "Z"), (98, .class_ 223), (1, u "java/lang/StringLatin1$LinesSpliterator"), (28, u "charAt"), (127, u "toBytes"), (1, u "(C)[B"), (7, .class_ 391), (0, u "java/lang/StringLatin1$CharsSpliterator")] 3

def k24m0 : Method := { name := "<init>", desc := "()V", sig := { parameters := [], returnType := none }, accessFlags := 0, code := none }
def k24c1 : Code := { maxStack := 2, maxLocals := 2, code := jdk_43_method_2_code, exceptionTable := #[], attributes := #[] }
def k24m1 : Method := { name := "charAt", desc := "([BI)C", sig := { parameters := [(.array .byte), .int], returnType := some .char }, accessFlags := 9, code := some k24c1 }
def k24c2 : Code := { maxStack := 2, maxLocals := 1, code := jdk_43_method_3_code, exceptionTable := #[], attributes := #[] }
def k24m2 : Method := { name := "canEncode", desc := "(C)Z", sig := { parameters := [.char], returnType := some .boolean }, accessFlags := 9, code := some k24c2 }
def k24c3 : Code := { maxStack := 4, maxLocals := 1, code := jdk_43_method_46_code, exceptionTable := #[], attributes := #[] }
def k24m3 : Method := { name := "toBytes", desc := "(C)[B", sig := { parameters := [.char], returnType := some (.array .byte) }, accessFlags := 9, code := some k24c3 }
/-- java/lang/StringLatin1 -/
def k24 : Class := { plain "java/lang/StringLatin1" (some 0) with
  accessFlags := 48
  interfaces := #[]
  cf := some (fileOf pool24 14 #[.nestMembers #[390, 221]] #[{ accessFlags := 0, nameIndex := 7, descriptorIndex := 8, attributes := #[] }, { accessFlags := 9, nameIndex := 252, descriptorIndex := 53, attributes := #[] }, { accessFlags := 9, nameIndex := 90, descriptorIndex := 105, attributes := #[] }, { accessFlags := 9, nameIndex := 380, descriptorIndex := 382, attributes := #[] }] 48 4 #[] #[{ accessFlags := 4120, nameIndex := 121, descriptorIndex := 122, attributes := #[] }])
  fields := #[{ name := "$assertionsDisabled", type := .boolean, accessFlags := 4120, slot := 0, constantValue := 0 }]
  methods := #[k24m0, k24m1, k24m2, k24m3]
  instanceTypes := #[]
  staticTypes := #[.boolean]
  resolved := Array.replicate 395 none
  statics := none }

def pool25 : Array CpInfo := pool [(2, .class_ 4), (1, u "java/lang/Object"), (0, u "<init>"), (0, u "()V"), (35, .class_ 44), (1, u "java/util/Objects"), (60, .methodref 106 107), (0, .class_ 108), (0, .nameAndType 109 110), (0, u "jdk/internal/util/Preconditions"), (0, u "checkIndex"), (0, u "(IILjava/util/function/BiFunction;)I"), (60, u "(II)I")] 12

def k25m0 : Method := { name := "<init>", desc := "()V", sig := { parameters := [], returnType := none }, accessFlags := 2, code := none }
def k25c1 : Code := { maxStack := 3, maxLocals := 2, code := jdk_31_method_17_code, exceptionTable := #[], attributes := #[] }
def k25m1 : Method := { name := "checkIndex", desc := "(II)I", sig := { parameters := [.int, .int], returnType := some .int }, accessFlags := 9, code := some k25c1 }
/-- java/util/Objects -/
def k25 : Class := { plain "java/util/Objects" (some 0) with
  accessFlags := 49
  interfaces := #[]
  cf := some (fileOf pool25 42 #[] #[{ accessFlags := 2, nameIndex := 5, descriptorIndex := 6, attributes := #[] }, { accessFlags := 9, nameIndex := 109, descriptorIndex := 171, attributes := #[] }] 49 2 #[] #[])
  fields := #[]
  methods := #[k25m0, k25m1]
  instanceTypes := #[]
  staticTypes := #[]
  resolved := Array.replicate 184 none
  statics := none }

def pool26 : Array CpInfo := pool [(2, .class_ 4), (1, u "java/lang/Object"), (0, u "<init>"), (0, u "()V"), (17, .class_ 26), (1, u "jdk/internal/util/Preconditions"), (6, u "checkIndex"), (21, .class_ 56), (0, u "jdk/internal/util/Preconditions$4"), (57, .class_ 115), (0, u "jdk/internal/util/Preconditions$1"), (7, u "SIOOBE_FORMATTER"), (0, u "Ljava/util/function/BiFunction;"), (0, .class_ 126), (0, u "jdk/internal/util/Preconditions$2"), (3, u "AIOOBE_FORMATTER"), (0, .class_ 132), (0, u "jdk/internal/util/Preconditions$3"), (3, u "IOOBE_FORMATTER"), (41, u "(IILjava/util/function/BiFunction;)I")] 15

def k26m0 : Method := { name := "<init>", desc := "()V", sig := { parameters := [], returnType := none }, accessFlags := 1, code := none }
def k26c1 : Code := { maxStack := 3, maxLocals := 3, code := jdk_41_method_11_code, exceptionTable := #[], attributes := #[] }
def k26m1 : Method := { name := "checkIndex", desc := "(IILjava/util/function/BiFunction;)I", sig := { parameters := [.int, .int, (.object "java/util/function/BiFunction")], returnType := some .int }, accessFlags := 9, code := some k26c1 }
/-- jdk/internal/util/Preconditions -/
def k26 : Class := { plain "jdk/internal/util/Preconditions" (some 0) with
  accessFlags := 33
  interfaces := #[]
  cf := some (fileOf pool26 24 #[.nestMembers #[55, 131, 125, 114]] #[{ accessFlags := 1, nameIndex := 5, descriptorIndex := 6, attributes := #[] }, { accessFlags := 9, nameIndex := 33, descriptorIndex := 178, attributes := #[] }] 33 2 #[] #[{ accessFlags := 25, nameIndex := 123, descriptorIndex := 124, attributes := #[] }, { accessFlags := 25, nameIndex := 130, descriptorIndex := 124, attributes := #[] }, { accessFlags := 25, nameIndex := 136, descriptorIndex := 124, attributes := #[] }])
  fields := #[{ name := "SIOOBE_FORMATTER", type := (.object "java/util/function/BiFunction"), accessFlags := 25, slot := 0, constantValue := 0 }, { name := "AIOOBE_FORMATTER", type := (.object "java/util/function/BiFunction"), accessFlags := 25, slot := 1, constantValue := 0 }, { name := "IOOBE_FORMATTER", type := (.object "java/util/function/BiFunction"), accessFlags := 25, slot := 2, constantValue := 0 }]
  methods := #[k26m0, k26m1]
  instanceTypes := #[]
  staticTypes := #[(.object "java/util/function/BiFunction"), (.object "java/util/function/BiFunction"), (.object "java/util/function/BiFunction")]
  resolved := Array.replicate 194 none
  statics := some 2 }

def pool27 : Array CpInfo := pool [(9, u "<init>"), (6, .class_ 18), (1, u "java/lang/Object"), (0, u "()V"), (1, .class_ 23), (1, u "jdk/internal/util/ArraysSupport"), (0, u "LOG2_ARRAY_LONG_INDEX_SCALE"), (0, u "I"), (2, u "U"), (0, u "Ljdk/internal/misc/Unsafe;"), (8, u "BIG_ENDIAN"), (0, u "Z"), (8, u "LOG2_BYTE_BIT_SIZE"), (4, u "LOG2_ARRAY_INT_INDEX_SCALE"), (54, u "JLA"), (0, u "Ljdk/internal/access/JavaLangAccess;"), (11, u "LOG2_ARRAY_BOOLEAN_INDEX_SCALE"), (9, u "LOG2_ARRAY_BYTE_INDEX_SCALE"), (5, u "LOG2_ARRAY_CHAR_INDEX_SCALE"), (5, u "LOG2_ARRAY_SHORT_INDEX_SCALE"), (18, u "LOG2_ARRAY_FLOAT_INDEX_SCALE"), (24, u "LOG2_ARRAY_DOUBLE_INDEX_SCALE"), (89, u "T_BOOLEAN"), (2, u "T_CHAR"), (1, u "T_FLOAT"), (1, u "T_DOUBLE"), (1, u "T_BYTE"), (1, u "T_SHORT"), (1, u "T_INT"), (1, u "T_LONG"), (1, u "SOFT_MAX_ARRAY_LENGTH")] 83

def k27m0 : Method := { name := "<init>", desc := "()V", sig := { parameters := [], returnType := none }, accessFlags := 2, code := none }
/-- jdk/internal/util/ArraysSupport -/
def k27 : Class := { plain "jdk/internal/util/ArraysSupport" (some 0) with
  accessFlags := 33
  interfaces := #[]
  cf := some (fileOf pool27 21 #[] #[{ accessFlags := 2, nameIndex := 9, descriptorIndex := 19, attributes := #[] }] 33 16 #[] #[{ accessFlags := 24, nameIndex := 28, descriptorIndex := 29, attributes := #[] }, { accessFlags := 26, nameIndex := 38, descriptorIndex := 39, attributes := #[] }, { accessFlags := 25, nameIndex := 121, descriptorIndex := 25, attributes := #[] }, { accessFlags := 25, nameIndex := 131, descriptorIndex := 25, attributes := #[] }, { accessFlags := 25, nameIndex := 137, descriptorIndex := 25, attributes := #[] }, { accessFlags := 25, nameIndex := 143, descriptorIndex := 25, attributes := #[] }, { accessFlags := 25, nameIndex := 53, descriptorIndex := 25, attributes := #[] }, { accessFlags := 25, nameIndex := 24, descriptorIndex := 25, attributes := #[] }, { accessFlags := 25, nameIndex := 162, descriptorIndex := 25, attributes := #[] }, { accessFlags := 25, nameIndex := 187, descriptorIndex := 25, attributes := #[] }, { accessFlags := 26, nameIndex := 48, descriptorIndex := 25, attributes := #[] }, { accessFlags := 25, nameIndex := 277, descriptorIndex := 25, attributes := #[] }, { accessFlags := 25, nameIndex := 280, descriptorIndex := 25, attributes := #[] }, { accessFlags := 25, nameIndex := 282, descriptorIndex := 25, attributes := #[] }, { accessFlags := 25, nameIndex := 284, descriptorIndex := 25, attributes := #[] }, { accessFlags := 25, nameIndex := 286, descriptorIndex := 25, attributes := #[] }, { accessFlags := 25, nameIndex := 288, descriptorIndex := 25, attributes := #[] }, { accessFlags := 25, nameIndex := 290, descriptorIndex := 25, attributes := #[] }, { accessFlags := 25, nameIndex := 292, descriptorIndex := 25, attributes := #[] }, { accessFlags := 26, nameIndex := 108, descriptorIndex := 109, attributes := #[] }, { accessFlags := 25, nameIndex := 294, descriptorIndex := 25, attributes := #[] }])
  fields := #[{ name := "U", type := (.object "jdk/internal/misc/Unsafe"), accessFlags := 24, slot := 0, constantValue := 0 }, { name := "BIG_ENDIAN", type := .boolean, accessFlags := 26, slot := 1, constantValue := 0 }, { name := "LOG2_ARRAY_BOOLEAN_INDEX_SCALE", type := .int, accessFlags := 25, slot := 2, constantValue := 0 }, { name := "LOG2_ARRAY_BYTE_INDEX_SCALE", type := .int, accessFlags := 25, slot := 3, constantValue := 0 }, { name := "LOG2_ARRAY_CHAR_INDEX_SCALE", type := .int, accessFlags := 25, slot := 4, constantValue := 0 }, { name := "LOG2_ARRAY_SHORT_INDEX_SCALE", type := .int, accessFlags := 25, slot := 5, constantValue := 0 }, { name := "LOG2_ARRAY_INT_INDEX_SCALE", type := .int, accessFlags := 25, slot := 6, constantValue := 0 }, { name := "LOG2_ARRAY_LONG_INDEX_SCALE", type := .int, accessFlags := 25, slot := 7, constantValue := 0 }, { name := "LOG2_ARRAY_FLOAT_INDEX_SCALE", type := .int, accessFlags := 25, slot := 8, constantValue := 0 }, { name := "LOG2_ARRAY_DOUBLE_INDEX_SCALE", type := .int, accessFlags := 25, slot := 9, constantValue := 0 }, { name := "LOG2_BYTE_BIT_SIZE", type := .int, accessFlags := 26, slot := 10, constantValue := 0 }, { name := "T_BOOLEAN", type := .int, accessFlags := 25, slot := 11, constantValue := 0 }, { name := "T_CHAR", type := .int, accessFlags := 25, slot := 12, constantValue := 0 }, { name := "T_FLOAT", type := .int, accessFlags := 25, slot := 13, constantValue := 0 }, { name := "T_DOUBLE", type := .int, accessFlags := 25, slot := 14, constantValue := 0 }, { name := "T_BYTE", type := .int, accessFlags := 25, slot := 15, constantValue := 0 }, { name := "T_SHORT", type := .int, accessFlags := 25, slot := 16, constantValue := 0 }, { name := "T_INT", type := .int, accessFlags := 25, slot := 17, constantValue := 0 }, { name := "T_LONG", type := .int, accessFlags := 25, slot := 18, constantValue := 0 }, { name := "JLA", type := (.object "jdk/internal/access/JavaLangAccess"), accessFlags := 26, slot := 19, constantValue := 0 }, { name := "SOFT_MAX_ARRAY_LENGTH", type := .int, accessFlags := 25, slot := 20, constantValue := 0 }]
  methods := #[k27m0]
  instanceTypes := #[]
  staticTypes := #[(.object "jdk/internal/misc/Unsafe"), .boolean, .int, .int, .int, .int, .int, .int, .int, .int, .int, .int, .int, .int, .int, .int, .int, .int, .int, (.object "jdk/internal/access/JavaLangAccess"), .int]
  resolved := Array.replicate 378 none
  statics := none }

/-- the primitive byte -/
def k28 : Class := { plain "byte" none with kind := .primitive 'B', accessFlags := 0x411 }
/-- [B -/
def k29 : Class := { plain "[B" (some 0) with kind := .array 28 .byte, interfaces := #[10, 11], accessFlags := 1041 }

/-- the primitive char -/
def k30 : Class := { plain "char" none with kind := .primitive 'C', accessFlags := 0x411 }
/-- [C -/
def k31 : Class := { plain "[C" (some 0) with kind := .array 30 .char, interfaces := #[10, 11], accessFlags := 1041 }

/-- the primitive int -/
def k32 : Class := { plain "int" none with kind := .primitive 'I', accessFlags := 0x411 }
/-- [I -/
def k33 : Class := { plain "[I" (some 0) with kind := .array 32 .int, interfaces := #[10, 11], accessFlags := 1041 }

/-- [Ljava/lang/Object; -/
def k34 : Class := { plain "[Ljava/lang/Object;" (some 0) with kind := .array 0 (.object "java/lang/Object"), interfaces := #[10, 11], accessFlags := 1041 }

def heap : Heap := #[{ cls := 12, slots := #[.long 0, .int 0, .ref 3, .ref 4], vm := .statics 12 },
  { cls := 20, slots := #[.long 0, .int 1, .null, .int 0, .null, .int 0, .int 0], vm := .statics 20 },
  { cls := 26, slots := #[.null, .null, .null], vm := .statics 26 },
  { cls := 34, slots := #[], vm := .none },
  { cls := 34, slots := #[], vm := .none }]
def classes : Array Class := #[k0, k1, k2, k3, k4, k5, k6, k7, k8, k9, k10, k11, k12, k13, k14, k15, k16, k17, k18, k19, k20, k21, k22, k23, k24, k25, k26, k27, k28, k29, k30, k31, k32, k33, k34]
def interned : List (Array UInt16 × Addr) := []
def slotsUsed : Nat := 14
def theMethod : MethodId := ⟨1, 1⟩
def args0 : Array Value := #[.int 7, .int 1, .int 2, .int 3]
def aboutOver (below : List Frame) : State where
  vm := { classes := classes, interned := interned.toArray }
  heap := heap
  slotsUsed := slotsUsed
  threads := #[{ frames := .invoking theMethod args0 :: below }]
def below0 : List Frame := [.native { method := ⟨0, 0⟩, args := #[] }]
def about1 : State := aboutOver below0
def p0 : Program := .bare "" "" ""
def e0 : Env := launch0.env 0 0 0
theorem w_frames : about1.frames = Frame.invoking theMethod args0 :: below0 := rfl
set_option maxRecDepth 65536 in
theorem w_args : argsFit about1.vm theMethod args0 = true := by decide +kernel
set_option maxRecDepth 65536 in
theorem w_heap : heapFits about1 = true := by decide +kernel
set_option maxRecDepth 65536 in
theorem w_runnable : about1.curStatus? = some .runnable := by decide +kernel
set_option maxRecDepth 65536 in
theorem w_alone : about1.alone = true := by decide +kernel
set_option maxRecDepth 65536 in
theorem w_named : about1.methodNamed? x = some theMethod := by decide +kernel
set_option maxRecDepth 65536 in
theorem w_hears : about1.hears theMethod below0 = true := by decide +kernel
set_option maxRecDepth 65536 in
theorem w_ripe : about1.ripe theMethod args0 below0 = true := by decide +kernel
theorem w_running : about1.status = .running := rfl
set_option maxRecDepth 65536 in
theorem w_room : about1.hasRoom e0.platform room_1 = true :=
  launch0.hasRoom_least _ room_1 (by decide +kernel) (by decide +kernel) (by decide +kernel) (by decide +kernel) (by decide +kernel) (by decide +kernel)
theorem allAtoms_all (ts : List Jvm.Cond) (a : Array Jvm.Value) (st : Jvm.State) : (allAtoms ts).before a st = ts.all (fun c => c.before a st) := by
  induction ts with
  | nil => rfl
  | cons c t ih =>
    show (Jvm.Cond.and c (allAtoms t)).before a st = _
    rw [Jvm.Cond.before_and, ih, List.all_cons]
def words1 : List Jvm.Cond := Jvm.Cond.code x code maxLocals ret :: tables_1
/-- a 'code' word, met by the world's own term for the bytes: nothing is compared byte by byte -/
theorem code_word {y : MethodName} {bytes : ByteArray} {mx : Nat} {rt : Option FieldType} {a : Array Value} {s : State} {m : MethodId} {meth : Method} {c : Code} (h1 : s.methodNamed? y = some m) (h2 : s.vm.method? m = some meth) (h3 : meth.code = some c) (h4 : c.code = bytes)
    (h5 : (c.maxLocals == mx && c.exceptionTable.isEmpty && decide (c.maxStack ≤ mostOperands) && decide (meth.sig.returnType = rt) && !meth.locks && decide (parseMethodDescriptor y.desc = some meth.sig)) = true) : (Jvm.Cond.code y bytes mx rt).before a s = true := by
  simp only [Bool.and_eq_true, beq_iff_eq, Bool.not_eq_true', decide_eq_true_eq] at h5
  obtain ⟨⟨⟨⟨⟨g1, g2⟩, g3⟩, g4⟩, g5⟩, g6⟩ := h5
  simp [Cond.before, Cond.holds, Cond.value, h1, h2, h3, h4, g1, g2, g3, g4, g5, g6]
def isCode : Jvm.Cond → Bool
  | .code _ _ _ _ => true
  | _ => false
theorem all_split {L : List Jvm.Cond} {P : Jvm.Cond → Bool} (h1 : L.all (fun c => isCode c || P c) = true) (h2 : ∀ c ∈ L.filter isCode, P c = true) : L.all P = true := by
  refine List.all_eq_true.mpr fun c hc => ?_
  have h := List.all_eq_true.mp h1 c hc
  rcases Bool.eq_false_or_eq_true (isCode c) with hi | hi
  · exact h2 c (List.mem_filter.mpr ⟨hc, hi⟩)
  · simpa [hi] using h
set_option maxRecDepth 65536 in
theorem w_c0 : (Jvm.Cond.code x code maxLocals ret).before args0 about1 = true := code_word (m := ⟨1, 1⟩) (meth := k1m1) (c := k1c1) (by decide +kernel) rfl rfl rfl (by decide +kernel)
set_option maxRecDepth 65536 in
theorem w_c1 : (Jvm.Cond.code ({ cls := "com/example/hinta/hinta/Statement", name := "<init>", desc := "()V" } : Jvm.MethodName) prog_26_method_1_code (1 : Nat) (Option.none : Option Jvm.ClassFile.FieldType)).before args0 about1 = true := code_word (m := ⟨2, 0⟩) (meth := k2m0) (c := k2c0) (by decide +kernel) rfl rfl rfl (by decide +kernel)
set_option maxRecDepth 65536 in
theorem w_c2 : (Jvm.Cond.code ({ cls := "java/lang/Object", name := "<init>", desc := "()V" } : Jvm.MethodName) object_method_1_code (1 : Nat) (Option.none : Option Jvm.ClassFile.FieldType)).before args0 about1 = true := code_word (m := ⟨0, 0⟩) (meth := k0m0) (c := k0c0) (by decide +kernel) rfl rfl rfl (by decide +kernel)
set_option maxRecDepth 65536 in
theorem w_c3 : (Jvm.Cond.code ({ cls := "java/util/ArrayList", name := "<init>", desc := "()V" } : Jvm.MethodName) jdk_38_method_2_code (1 : Nat) (Option.none : Option Jvm.ClassFile.FieldType)).before args0 about1 = true := code_word (m := ⟨12, 0⟩) (meth := k12m0) (c := k12c0) (by decide +kernel) rfl rfl rfl (by decide +kernel)
set_option maxRecDepth 65536 in
theorem w_c4 : (Jvm.Cond.code ({ cls := "java/util/AbstractList", name := "<init>", desc := "()V" } : Jvm.MethodName) jdk_39_method_1_code (1 : Nat) (Option.none : Option Jvm.ClassFile.FieldType)).before args0 about1 = true := code_word (m := ⟨8, 0⟩) (meth := k8m0) (c := k8c0) (by decide +kernel) rfl rfl rfl (by decide +kernel)
set_option maxRecDepth 65536 in
theorem w_c5 : (Jvm.Cond.code ({ cls := "java/util/AbstractCollection", name := "<init>", desc := "()V" } : Jvm.MethodName) jdk_22_method_1_code (1 : Nat) (Option.none : Option Jvm.ClassFile.FieldType)).before args0 about1 = true := code_word (m := ⟨5, 0⟩) (meth := k5m0) (c := k5c0) (by decide +kernel) rfl rfl rfl (by decide +kernel)
set_option maxRecDepth 65536 in
theorem w_c6 : (Jvm.Cond.code ({ cls := "com/example/hinta/hinta/StatementTextPinLaw", name := "line", desc := "(Lcom/example/hinta/hinta/Statement;[CIZII)I" } : Jvm.MethodName) method_3_code (13 : Nat) (Option.some Jvm.ClassFile.FieldType.int)).before args0 about1 = true := code_word (m := ⟨1, 2⟩) (meth := k1m2) (c := k1c2) (by decide +kernel) rfl rfl rfl (by decide +kernel)
set_option maxRecDepth 65536 in
theorem w_c7 : (Jvm.Cond.code ({ cls := "com/example/hinta/hinta/Statement", name := "text", desc := "()Ljava/lang/String;" } : Jvm.MethodName) prog_26_method_4_code (3 : Nat) (Option.some (Jvm.ClassFile.FieldType.object "java/lang/String"))).before args0 about1 = true := code_word (m := ⟨2, 2⟩) (meth := k2m2) (c := k2c2) (by decide +kernel) rfl rfl rfl (by decide +kernel)
set_option maxRecDepth 65536 in
theorem w_c8 : (Jvm.Cond.code ({ cls := "java/lang/StringBuilder", name := "<init>", desc := "()V" } : Jvm.MethodName) jdk_67_method_1_code (1 : Nat) (Option.none : Option Jvm.ClassFile.FieldType)).before args0 about1 = true := code_word (m := ⟨17, 0⟩) (meth := k17m0) (c := k17c0) (by decide +kernel) rfl rfl rfl (by decide +kernel)
set_option maxRecDepth 65536 in
theorem w_c9 : (Jvm.Cond.code ({ cls := "java/lang/AbstractStringBuilder", name := "<init>", desc := "(I)V" } : Jvm.MethodName) jdk_68_method_2_code (2 : Nat) (Option.none : Option Jvm.ClassFile.FieldType)).before args0 about1 = true := code_word (m := ⟨15, 1⟩) (meth := k15m1) (c := k15c1) (by decide +kernel) rfl rfl rfl (by decide +kernel)
set_option maxRecDepth 65536 in
theorem w_c10 : (Jvm.Cond.code ({ cls := "java/util/ArrayList", name := "size", desc := "()I" } : Jvm.MethodName) jdk_38_method_8_code (1 : Nat) (Option.some Jvm.ClassFile.FieldType.int)).before args0 about1 = true := code_word (m := ⟨12, 3⟩) (meth := k12m3) (c := k12c3) (by decide +kernel) rfl rfl rfl (by decide +kernel)
set_option maxRecDepth 65536 in
theorem w_c11 : (Jvm.Cond.code ({ cls := "java/lang/StringBuilder", name := "toString", desc := "()Ljava/lang/String;" } : Jvm.MethodName) jdk_67_method_42_code (1 : Nat) (Option.some (Jvm.ClassFile.FieldType.object "java/lang/String"))).before args0 about1 = true := code_word (m := ⟨17, 3⟩) (meth := k17m3) (c := k17c3) (by decide +kernel) rfl rfl rfl (by decide +kernel)
set_option maxRecDepth 65536 in
theorem w_c12 : (Jvm.Cond.code ({ cls := "java/lang/String", name := "<init>", desc := "(Ljava/lang/StringBuilder;)V" } : Jvm.MethodName) jdk_42_method_53_code (2 : Nat) (Option.none : Option Jvm.ClassFile.FieldType)).before args0 about1 = true := code_word (m := ⟨20, 1⟩) (meth := k20m1) (c := k20c1) (by decide +kernel) rfl rfl rfl (by decide +kernel)
set_option maxRecDepth 65536 in
theorem w_c13 : (Jvm.Cond.code ({ cls := "java/lang/String", name := "<init>", desc := "(Ljava/lang/AbstractStringBuilder;Ljava/lang/Void;)V" } : Jvm.MethodName) jdk_42_method_150_code (5 : Nat) (Option.none : Option Jvm.ClassFile.FieldType)).before args0 about1 = true := code_word (m := ⟨20, 6⟩) (meth := k20m6) (c := k20c6) (by decide +kernel) rfl rfl rfl (by decide +kernel)
set_option maxRecDepth 65536 in
theorem w_c14 : (Jvm.Cond.code ({ cls := "java/lang/AbstractStringBuilder", name := "getValue", desc := "()[B" } : Jvm.MethodName) jdk_68_method_64_code (1 : Nat) (Option.some (Jvm.ClassFile.FieldType.array Jvm.ClassFile.FieldType.byte))).before args0 about1 = true := code_word (m := ⟨15, 6⟩) (meth := k15m6) (c := k15c6) (by decide +kernel) rfl rfl rfl (by decide +kernel)
set_option maxRecDepth 65536 in
theorem w_c15 : (Jvm.Cond.code ({ cls := "java/lang/StringBuilder", name := "length", desc := "()I" } : Jvm.MethodName) jdk_67_method_93_code (1 : Nat) (Option.some Jvm.ClassFile.FieldType.int)).before args0 about1 = true := code_word (m := ⟨17, 4⟩) (meth := k17m4) (c := k17c4) (by decide +kernel) rfl rfl rfl (by decide +kernel)
set_option maxRecDepth 65536 in
theorem w_c16 : (Jvm.Cond.code ({ cls := "java/lang/AbstractStringBuilder", name := "length", desc := "()I" } : Jvm.MethodName) jdk_68_method_6_code (1 : Nat) (Option.some Jvm.ClassFile.FieldType.int)).before args0 about1 = true := code_word (m := ⟨15, 2⟩) (meth := k15m2) (c := k15c2) (by decide +kernel) rfl rfl rfl (by decide +kernel)
set_option maxRecDepth 65536 in
theorem w_c17 : (Jvm.Cond.code ({ cls := "java/lang/AbstractStringBuilder", name := "isLatin1", desc := "()Z" } : Jvm.MethodName) jdk_68_method_68_code (1 : Nat) (Option.some Jvm.ClassFile.FieldType.boolean)).before args0 about1 = true := code_word (m := ⟨15, 7⟩) (meth := k15m7) (c := k15c7) (by decide +kernel) rfl rfl rfl (by decide +kernel)
set_option maxRecDepth 65536 in
theorem w_c18 : (Jvm.Cond.code ({ cls := "java/util/Arrays", name := "copyOfRange", desc := "([BII)[B" } : Jvm.MethodName) jdk_65_method_132_code (3 : Nat) (Option.some (Jvm.ClassFile.FieldType.array Jvm.ClassFile.FieldType.byte))).before args0 about1 = true := code_word (m := ⟨21, 2⟩) (meth := k21m2) (c := k21c2) (by decide +kernel) rfl rfl rfl (by decide +kernel)
set_option maxRecDepth 65536 in
theorem w_c19 : (Jvm.Cond.code ({ cls := "java/util/Arrays", name := "copyOfRangeByte", desc := "([BII)[B" } : Jvm.MethodName) jdk_65_method_133_code (5 : Nat) (Option.some (Jvm.ClassFile.FieldType.array Jvm.ClassFile.FieldType.byte))).before args0 about1 = true := code_word (m := ⟨21, 3⟩) (meth := k21m3) (c := k21c3) (by decide +kernel) rfl rfl rfl (by decide +kernel)
set_option maxRecDepth 65536 in
theorem w_c20 : (Jvm.Cond.code ({ cls := "java/util/Arrays", name := "checkLength", desc := "(II)V" } : Jvm.MethodName) jdk_65_method_131_code (2 : Nat) (Option.none : Option Jvm.ClassFile.FieldType)).before args0 about1 = true := code_word (m := ⟨21, 1⟩) (meth := k21m1) (c := k21c1) (by decide +kernel) rfl rfl rfl (by decide +kernel)
set_option maxRecDepth 65536 in
theorem w_c21 : (Jvm.Cond.code ({ cls := "java/lang/Math", name := "min", desc := "(II)I" } : Jvm.MethodName) jdk_29_method_69_code (2 : Nat) (Option.some Jvm.ClassFile.FieldType.int)).before args0 about1 = true := code_word (m := ⟨22, 2⟩) (meth := k22m2) (c := k22c2) (by decide +kernel) rfl rfl rfl (by decide +kernel)
set_option maxRecDepth 65536 in
theorem w_c22 : (Jvm.Cond.code ({ cls := "com/example/hinta/hinta/StatementTextPinLaw", name := "same", desc := "(Ljava/lang/String;[CI)Z" } : Jvm.MethodName) method_4_code (3 : Nat) (Option.some Jvm.ClassFile.FieldType.boolean)).before args0 about1 = true := code_word (m := ⟨1, 3⟩) (meth := k1m3) (c := k1c3) (by decide +kernel) rfl rfl rfl (by decide +kernel)
set_option maxRecDepth 65536 in
theorem w_c23 : (Jvm.Cond.code ({ cls := "java/lang/String", name := "length", desc := "()I" } : Jvm.MethodName) jdk_42_method_54_code (1 : Nat) (Option.some Jvm.ClassFile.FieldType.int)).before args0 about1 = true := code_word (m := ⟨20, 2⟩) (meth := k20m2) (c := k20c2) (by decide +kernel) rfl rfl rfl (by decide +kernel)
set_option maxRecDepth 65536 in
theorem w_c24 : (Jvm.Cond.code ({ cls := "java/lang/String", name := "coder", desc := "()B" } : Jvm.MethodName) jdk_42_method_152_code (1 : Nat) (Option.some Jvm.ClassFile.FieldType.byte)).before args0 about1 = true := code_word (m := ⟨20, 8⟩) (meth := k20m8) (c := k20c8) (by decide +kernel) rfl rfl rfl (by decide +kernel)
set_option maxRecDepth 65536 in
theorem w_c25 : (Jvm.Cond.code ({ cls := "java/lang/String", name := "valueOf", desc := "(C)Ljava/lang/String;" } : Jvm.MethodName) jdk_42_method_139_code (1 : Nat) (Option.some (Jvm.ClassFile.FieldType.object "java/lang/String"))).before args0 about1 = true := code_word (m := ⟨20, 4⟩) (meth := k20m4) (c := k20c4) (by decide +kernel) rfl rfl rfl (by decide +kernel)
set_option maxRecDepth 65536 in
theorem w_c26 : (Jvm.Cond.code ({ cls := "java/lang/StringLatin1", name := "canEncode", desc := "(C)Z" } : Jvm.MethodName) jdk_43_method_3_code (1 : Nat) (Option.some Jvm.ClassFile.FieldType.boolean)).before args0 about1 = true := code_word (m := ⟨24, 2⟩) (meth := k24m2) (c := k24c2) (by decide +kernel) rfl rfl rfl (by decide +kernel)
set_option maxRecDepth 65536 in
theorem w_c27 : (Jvm.Cond.code ({ cls := "java/lang/StringLatin1", name := "toBytes", desc := "(C)[B" } : Jvm.MethodName) jdk_43_method_46_code (1 : Nat) (Option.some (Jvm.ClassFile.FieldType.array Jvm.ClassFile.FieldType.byte))).before args0 about1 = true := code_word (m := ⟨24, 3⟩) (meth := k24m3) (c := k24c3) (by decide +kernel) rfl rfl rfl (by decide +kernel)
set_option maxRecDepth 65536 in
theorem w_c28 : (Jvm.Cond.code ({ cls := "java/lang/String", name := "<init>", desc := "([BB)V" } : Jvm.MethodName) jdk_42_method_151_code (3 : Nat) (Option.none : Option Jvm.ClassFile.FieldType)).before args0 about1 = true := code_word (m := ⟨20, 7⟩) (meth := k20m7) (c := k20c7) (by decide +kernel) rfl rfl rfl (by decide +kernel)
set_option maxRecDepth 65536 in
theorem w_c29 : (Jvm.Cond.code ({ cls := "com/example/hinta/hinta/Statement", name := "add", desc := "(Ljava/lang/String;Ljava/lang/String;)Lcom/example/hinta/hinta/Statement;" } : Jvm.MethodName) prog_26_method_2_code (3 : Nat) (Option.some (Jvm.ClassFile.FieldType.object "com/example/hinta/hinta/Statement"))).before args0 about1 = true := code_word (m := ⟨2, 1⟩) (meth := k2m1) (c := k2c1) (by decide +kernel) rfl rfl rfl (by decide +kernel)
set_option maxRecDepth 65536 in
theorem w_c30 : (Jvm.Cond.code ({ cls := "java/util/ArrayList", name := "add", desc := "(Ljava/lang/Object;)Z" } : Jvm.MethodName) jdk_38_method_25_code (2 : Nat) (Option.some Jvm.ClassFile.FieldType.boolean)).before args0 about1 = true := code_word (m := ⟨12, 7⟩) (meth := k12m7) (c := k12c7) (by decide +kernel) rfl rfl rfl (by decide +kernel)
set_option maxRecDepth 65536 in
theorem w_c31 : (Jvm.Cond.code ({ cls := "java/util/ArrayList", name := "add", desc := "(Ljava/lang/Object;[Ljava/lang/Object;I)V" } : Jvm.MethodName) jdk_38_method_24_code (4 : Nat) (Option.none : Option Jvm.ClassFile.FieldType)).before args0 about1 = true := code_word (m := ⟨12, 6⟩) (meth := k12m6) (c := k12c6) (by decide +kernel) rfl rfl rfl (by decide +kernel)
set_option maxRecDepth 65536 in
theorem w_c32 : (Jvm.Cond.code ({ cls := "java/util/ArrayList", name := "grow", desc := "()[Ljava/lang/Object;" } : Jvm.MethodName) jdk_38_method_7_code (1 : Nat) (Option.some (Jvm.ClassFile.FieldType.array (Jvm.ClassFile.FieldType.object "java/lang/Object")))).before args0 about1 = true := code_word (m := ⟨12, 2⟩) (meth := k12m2) (c := k12c2) (by decide +kernel) rfl rfl rfl (by decide +kernel)
set_option maxRecDepth 65536 in
theorem w_c33 : (Jvm.Cond.code ({ cls := "java/util/ArrayList", name := "grow", desc := "(I)[Ljava/lang/Object;" } : Jvm.MethodName) jdk_38_method_6_code (4 : Nat) (Option.some (Jvm.ClassFile.FieldType.array (Jvm.ClassFile.FieldType.object "java/lang/Object")))).before args0 about1 = true := code_word (m := ⟨12, 1⟩) (meth := k12m1) (c := k12c1) (by decide +kernel) rfl rfl rfl (by decide +kernel)
set_option maxRecDepth 65536 in
theorem w_c34 : (Jvm.Cond.code ({ cls := "java/lang/Math", name := "max", desc := "(II)I" } : Jvm.MethodName) jdk_29_method_65_code (2 : Nat) (Option.some Jvm.ClassFile.FieldType.int)).before args0 about1 = true := code_word (m := ⟨22, 1⟩) (meth := k22m1) (c := k22c1) (by decide +kernel) rfl rfl rfl (by decide +kernel)
set_option maxRecDepth 65536 in
theorem w_c35 : (Jvm.Cond.code ({ cls := "java/util/ArrayList", name := "get", desc := "(I)Ljava/lang/Object;" } : Jvm.MethodName) jdk_38_method_20_code (2 : Nat) (Option.some (Jvm.ClassFile.FieldType.object "java/lang/Object"))).before args0 about1 = true := code_word (m := ⟨12, 5⟩) (meth := k12m5) (c := k12c5) (by decide +kernel) rfl rfl rfl (by decide +kernel)
set_option maxRecDepth 65536 in
theorem w_c36 : (Jvm.Cond.code ({ cls := "java/util/Objects", name := "checkIndex", desc := "(II)I" } : Jvm.MethodName) jdk_31_method_17_code (2 : Nat) (Option.some Jvm.ClassFile.FieldType.int)).before args0 about1 = true := code_word (m := ⟨25, 1⟩) (meth := k25m1) (c := k25c1) (by decide +kernel) rfl rfl rfl (by decide +kernel)
set_option maxRecDepth 65536 in
theorem w_c37 : (Jvm.Cond.code ({ cls := "jdk/internal/util/Preconditions", name := "checkIndex", desc := "(IILjava/util/function/BiFunction;)I" } : Jvm.MethodName) jdk_41_method_11_code (3 : Nat) (Option.some Jvm.ClassFile.FieldType.int)).before args0 about1 = true := code_word (m := ⟨26, 1⟩) (meth := k26m1) (c := k26c1) (by decide +kernel) rfl rfl rfl (by decide +kernel)
set_option maxRecDepth 65536 in
theorem w_c38 : (Jvm.Cond.code ({ cls := "java/util/ArrayList", name := "elementData", desc := "(I)Ljava/lang/Object;" } : Jvm.MethodName) jdk_38_method_18_code (2 : Nat) (Option.some (Jvm.ClassFile.FieldType.object "java/lang/Object"))).before args0 about1 = true := code_word (m := ⟨12, 4⟩) (meth := k12m4) (c := k12c4) (by decide +kernel) rfl rfl rfl (by decide +kernel)
set_option maxRecDepth 65536 in
theorem w_c39 : (Jvm.Cond.code ({ cls := "java/lang/StringBuilder", name := "append", desc := "(Ljava/lang/String;)Ljava/lang/StringBuilder;" } : Jvm.MethodName) jdk_67_method_7_code (2 : Nat) (Option.some (Jvm.ClassFile.FieldType.object "java/lang/StringBuilder"))).before args0 about1 = true := code_word (m := ⟨17, 1⟩) (meth := k17m1) (c := k17c1) (by decide +kernel) rfl rfl rfl (by decide +kernel)
set_option maxRecDepth 65536 in
theorem w_c40 : (Jvm.Cond.code ({ cls := "java/lang/AbstractStringBuilder", name := "append", desc := "(Ljava/lang/String;)Ljava/lang/AbstractStringBuilder;" } : Jvm.MethodName) jdk_68_method_22_code (3 : Nat) (Option.some (Jvm.ClassFile.FieldType.object "java/lang/AbstractStringBuilder"))).before args0 about1 = true := code_word (m := ⟨15, 4⟩) (meth := k15m4) (c := k15c4) (by decide +kernel) rfl rfl rfl (by decide +kernel)
set_option maxRecDepth 65536 in
theorem w_c41 : (Jvm.Cond.code ({ cls := "java/lang/AbstractStringBuilder", name := "ensureCapacityInternal", desc := "(I)V" } : Jvm.MethodName) jdk_68_method_9_code (3 : Nat) (Option.none : Option Jvm.ClassFile.FieldType)).before args0 about1 = true := code_word (m := ⟨15, 3⟩) (meth := k15m3) (c := k15c3) (by decide +kernel) rfl rfl rfl (by decide +kernel)
set_option maxRecDepth 65536 in
theorem w_c42 : (Jvm.Cond.code ({ cls := "java/lang/AbstractStringBuilder", name := "putStringAt", desc := "(ILjava/lang/String;)V" } : Jvm.MethodName) jdk_68_method_73_code (3 : Nat) (Option.none : Option Jvm.ClassFile.FieldType)).before args0 about1 = true := code_word (m := ⟨15, 9⟩) (meth := k15m9) (c := k15c9) (by decide +kernel) rfl rfl rfl (by decide +kernel)
set_option maxRecDepth 65536 in
theorem w_c43 : (Jvm.Cond.code ({ cls := "java/lang/AbstractStringBuilder", name := "inflateIfNeededFor", desc := "(Ljava/lang/String;)V" } : Jvm.MethodName) jdk_68_method_71_code (2 : Nat) (Option.none : Option Jvm.ClassFile.FieldType)).before args0 about1 = true := code_word (m := ⟨15, 8⟩) (meth := k15m8) (c := k15c8) (by decide +kernel) rfl rfl rfl (by decide +kernel)
set_option maxRecDepth 65536 in
theorem w_c44 : (Jvm.Cond.code ({ cls := "java/lang/String", name := "getBytes", desc := "([BIB)V" } : Jvm.MethodName) jdk_42_method_147_code (4 : Nat) (Option.none : Option Jvm.ClassFile.FieldType)).before args0 about1 = true := code_word (m := ⟨20, 5⟩) (meth := k20m5) (c := k20c5) (by decide +kernel) rfl rfl rfl (by decide +kernel)
set_option maxRecDepth 65536 in
theorem w_c45 : (Jvm.Cond.code ({ cls := "java/lang/StringBuilder", name := "append", desc := "(C)Ljava/lang/StringBuilder;" } : Jvm.MethodName) jdk_67_method_14_code (2 : Nat) (Option.some (Jvm.ClassFile.FieldType.object "java/lang/StringBuilder"))).before args0 about1 = true := code_word (m := ⟨17, 2⟩) (meth := k17m2) (c := k17c2) (by decide +kernel) rfl rfl rfl (by decide +kernel)
set_option maxRecDepth 65536 in
theorem w_c46 : (Jvm.Cond.code ({ cls := "java/lang/AbstractStringBuilder", name := "append", desc := "(C)Ljava/lang/AbstractStringBuilder;" } : Jvm.MethodName) jdk_68_method_31_code (2 : Nat) (Option.some (Jvm.ClassFile.FieldType.object "java/lang/AbstractStringBuilder"))).before args0 about1 = true := code_word (m := ⟨15, 5⟩) (meth := k15m5) (c := k15c5) (by decide +kernel) rfl rfl rfl (by decide +kernel)
set_option maxRecDepth 65536 in
theorem w_c47 : (Jvm.Cond.code ({ cls := "java/lang/String", name := "charAt", desc := "(I)C" } : Jvm.MethodName) jdk_42_method_56_code (2 : Nat) (Option.some Jvm.ClassFile.FieldType.char)).before args0 about1 = true := code_word (m := ⟨20, 3⟩) (meth := k20m3) (c := k20c3) (by decide +kernel) rfl rfl rfl (by decide +kernel)
set_option maxRecDepth 65536 in
theorem w_c48 : (Jvm.Cond.code ({ cls := "java/lang/String", name := "isLatin1", desc := "()Z" } : Jvm.MethodName) jdk_42_method_154_code (1 : Nat) (Option.some Jvm.ClassFile.FieldType.boolean)).before args0 about1 = true := code_word (m := ⟨20, 9⟩) (meth := k20m9) (c := k20c9) (by decide +kernel) rfl rfl rfl (by decide +kernel)
set_option maxRecDepth 65536 in
theorem w_c49 : (Jvm.Cond.code ({ cls := "java/lang/StringLatin1", name := "charAt", desc := "([BI)C" } : Jvm.MethodName) jdk_43_method_2_code (2 : Nat) (Option.some Jvm.ClassFile.FieldType.char)).before args0 about1 = true := code_word (m := ⟨24, 1⟩) (meth := k24m1) (c := k24c1) (by decide +kernel) rfl rfl rfl (by decide +kernel)
set_option maxRecDepth 65536 in
theorem w_c50 : (Jvm.Cond.code ({ cls := "java/lang/String", name := "checkIndex", desc := "(II)V" } : Jvm.MethodName) jdk_42_method_155_code (2 : Nat) (Option.none : Option Jvm.ClassFile.FieldType)).before args0 about1 = true := code_word (m := ⟨20, 10⟩) (meth := k20m10) (c := k20c10) (by decide +kernel) rfl rfl rfl (by decide +kernel)
def codes1 : List Jvm.Cond := [Jvm.Cond.code x code maxLocals ret, Jvm.Cond.code ({ cls := "com/example/hinta/hinta/Statement", name := "<init>", desc := "()V" } : Jvm.MethodName) prog_26_method_1_code (1 : Nat) (Option.none : Option Jvm.ClassFile.FieldType), Jvm.Cond.code ({ cls := "java/lang/Object", name := "<init>", desc := "()V" } : Jvm.MethodName) object_method_1_code (1 : Nat) (Option.none : Option Jvm.ClassFile.FieldType), Jvm.Cond.code ({ cls := "java/util/ArrayList", name := "<init>", desc := "()V" } : Jvm.MethodName) jdk_38_method_2_code (1 : Nat) (Option.none : Option Jvm.ClassFile.FieldType), Jvm.Cond.code ({ cls := "java/util/AbstractList", name := "<init>", desc := "()V" } : Jvm.MethodName) jdk_39_method_1_code (1 : Nat) (Option.none : Option Jvm.ClassFile.FieldType), Jvm.Cond.code ({ cls := "java/util/AbstractCollection", name := "<init>", desc := "()V" } : Jvm.MethodName) jdk_22_method_1_code (1 : Nat) (Option.none : Option Jvm.ClassFile.FieldType), Jvm.Cond.code ({ cls := "com/example/hinta/hinta/StatementTextPinLaw", name := "line", desc := "(Lcom/example/hinta/hinta/Statement;[CIZII)I" } : Jvm.MethodName) method_3_code (13 : Nat) (Option.some Jvm.ClassFile.FieldType.int), Jvm.Cond.code ({ cls := "com/example/hinta/hinta/Statement", name := "text", desc := "()Ljava/lang/String;" } : Jvm.MethodName) prog_26_method_4_code (3 : Nat) (Option.some (Jvm.ClassFile.FieldType.object "java/lang/String")), Jvm.Cond.code ({ cls := "java/lang/StringBuilder", name := "<init>", desc := "()V" } : Jvm.MethodName) jdk_67_method_1_code (1 : Nat) (Option.none : Option Jvm.ClassFile.FieldType), Jvm.Cond.code ({ cls := "java/lang/AbstractStringBuilder", name := "<init>", desc := "(I)V" } : Jvm.MethodName) jdk_68_method_2_code (2 : Nat) (Option.none : Option Jvm.ClassFile.FieldType), Jvm.Cond.code ({ cls := "java/util/ArrayList", name := "size", desc := "()I" } : Jvm.MethodName) jdk_38_method_8_code (1 : Nat) (Option.some Jvm.ClassFile.FieldType.int), Jvm.Cond.code ({ cls := "java/lang/StringBuilder", name := "toString", desc := "()Ljava/lang/String;" } : Jvm.MethodName) jdk_67_method_42_code (1 : Nat) (Option.some (Jvm.ClassFile.FieldType.object "java/lang/String")), Jvm.Cond.code ({ cls := "java/lang/String", name := "<init>", desc := "(Ljava/lang/StringBuilder;)V" } : Jvm.MethodName) jdk_42_method_53_code (2 : Nat) (Option.none : Option Jvm.ClassFile.FieldType), Jvm.Cond.code ({ cls := "java/lang/String", name := "<init>", desc := "(Ljava/lang/AbstractStringBuilder;Ljava/lang/Void;)V" } : Jvm.MethodName) jdk_42_method_150_code (5 : Nat) (Option.none : Option Jvm.ClassFile.FieldType), Jvm.Cond.code ({ cls := "java/lang/AbstractStringBuilder", name := "getValue", desc := "()[B" } : Jvm.MethodName) jdk_68_method_64_code (1 : Nat) (Option.some (Jvm.ClassFile.FieldType.array Jvm.ClassFile.FieldType.byte)), Jvm.Cond.code ({ cls := "java/lang/StringBuilder", name := "length", desc := "()I" } : Jvm.MethodName) jdk_67_method_93_code (1 : Nat) (Option.some Jvm.ClassFile.FieldType.int), Jvm.Cond.code ({ cls := "java/lang/AbstractStringBuilder", name := "length", desc := "()I" } : Jvm.MethodName) jdk_68_method_6_code (1 : Nat) (Option.some Jvm.ClassFile.FieldType.int), Jvm.Cond.code ({ cls := "java/lang/AbstractStringBuilder", name := "isLatin1", desc := "()Z" } : Jvm.MethodName) jdk_68_method_68_code (1 : Nat) (Option.some Jvm.ClassFile.FieldType.boolean), Jvm.Cond.code ({ cls := "java/util/Arrays", name := "copyOfRange", desc := "([BII)[B" } : Jvm.MethodName) jdk_65_method_132_code (3 : Nat) (Option.some (Jvm.ClassFile.FieldType.array Jvm.ClassFile.FieldType.byte)), Jvm.Cond.code ({ cls := "java/util/Arrays", name := "copyOfRangeByte", desc := "([BII)[B" } : Jvm.MethodName) jdk_65_method_133_code (5 : Nat) (Option.some (Jvm.ClassFile.FieldType.array Jvm.ClassFile.FieldType.byte)), Jvm.Cond.code ({ cls := "java/util/Arrays", name := "checkLength", desc := "(II)V" } : Jvm.MethodName) jdk_65_method_131_code (2 : Nat) (Option.none : Option Jvm.ClassFile.FieldType), Jvm.Cond.code ({ cls := "java/lang/Math", name := "min", desc := "(II)I" } : Jvm.MethodName) jdk_29_method_69_code (2 : Nat) (Option.some Jvm.ClassFile.FieldType.int), Jvm.Cond.code ({ cls := "com/example/hinta/hinta/StatementTextPinLaw", name := "same", desc := "(Ljava/lang/String;[CI)Z" } : Jvm.MethodName) method_4_code (3 : Nat) (Option.some Jvm.ClassFile.FieldType.boolean), Jvm.Cond.code ({ cls := "java/lang/String", name := "length", desc := "()I" } : Jvm.MethodName) jdk_42_method_54_code (1 : Nat) (Option.some Jvm.ClassFile.FieldType.int), Jvm.Cond.code ({ cls := "java/lang/String", name := "coder", desc := "()B" } : Jvm.MethodName) jdk_42_method_152_code (1 : Nat) (Option.some Jvm.ClassFile.FieldType.byte), Jvm.Cond.code ({ cls := "java/lang/String", name := "valueOf", desc := "(C)Ljava/lang/String;" } : Jvm.MethodName) jdk_42_method_139_code (1 : Nat) (Option.some (Jvm.ClassFile.FieldType.object "java/lang/String")), Jvm.Cond.code ({ cls := "java/lang/StringLatin1", name := "canEncode", desc := "(C)Z" } : Jvm.MethodName) jdk_43_method_3_code (1 : Nat) (Option.some Jvm.ClassFile.FieldType.boolean), Jvm.Cond.code ({ cls := "java/lang/StringLatin1", name := "toBytes", desc := "(C)[B" } : Jvm.MethodName) jdk_43_method_46_code (1 : Nat) (Option.some (Jvm.ClassFile.FieldType.array Jvm.ClassFile.FieldType.byte)), Jvm.Cond.code ({ cls := "java/lang/String", name := "<init>", desc := "([BB)V" } : Jvm.MethodName) jdk_42_method_151_code (3 : Nat) (Option.none : Option Jvm.ClassFile.FieldType), Jvm.Cond.code ({ cls := "com/example/hinta/hinta/Statement", name := "add", desc := "(Ljava/lang/String;Ljava/lang/String;)Lcom/example/hinta/hinta/Statement;" } : Jvm.MethodName) prog_26_method_2_code (3 : Nat) (Option.some (Jvm.ClassFile.FieldType.object "com/example/hinta/hinta/Statement")), Jvm.Cond.code ({ cls := "java/util/ArrayList", name := "add", desc := "(Ljava/lang/Object;)Z" } : Jvm.MethodName) jdk_38_method_25_code (2 : Nat) (Option.some Jvm.ClassFile.FieldType.boolean), Jvm.Cond.code ({ cls := "java/util/ArrayList", name := "add", desc := "(Ljava/lang/Object;[Ljava/lang/Object;I)V" } : Jvm.MethodName) jdk_38_method_24_code (4 : Nat) (Option.none : Option Jvm.ClassFile.FieldType), Jvm.Cond.code ({ cls := "java/util/ArrayList", name := "grow", desc := "()[Ljava/lang/Object;" } : Jvm.MethodName) jdk_38_method_7_code (1 : Nat) (Option.some (Jvm.ClassFile.FieldType.array (Jvm.ClassFile.FieldType.object "java/lang/Object"))), Jvm.Cond.code ({ cls := "java/util/ArrayList", name := "grow", desc := "(I)[Ljava/lang/Object;" } : Jvm.MethodName) jdk_38_method_6_code (4 : Nat) (Option.some (Jvm.ClassFile.FieldType.array (Jvm.ClassFile.FieldType.object "java/lang/Object"))), Jvm.Cond.code ({ cls := "java/lang/Math", name := "max", desc := "(II)I" } : Jvm.MethodName) jdk_29_method_65_code (2 : Nat) (Option.some Jvm.ClassFile.FieldType.int), Jvm.Cond.code ({ cls := "java/util/ArrayList", name := "get", desc := "(I)Ljava/lang/Object;" } : Jvm.MethodName) jdk_38_method_20_code (2 : Nat) (Option.some (Jvm.ClassFile.FieldType.object "java/lang/Object")), Jvm.Cond.code ({ cls := "java/util/Objects", name := "checkIndex", desc := "(II)I" } : Jvm.MethodName) jdk_31_method_17_code (2 : Nat) (Option.some Jvm.ClassFile.FieldType.int), Jvm.Cond.code ({ cls := "jdk/internal/util/Preconditions", name := "checkIndex", desc := "(IILjava/util/function/BiFunction;)I" } : Jvm.MethodName) jdk_41_method_11_code (3 : Nat) (Option.some Jvm.ClassFile.FieldType.int), Jvm.Cond.code ({ cls := "java/util/ArrayList", name := "elementData", desc := "(I)Ljava/lang/Object;" } : Jvm.MethodName) jdk_38_method_18_code (2 : Nat) (Option.some (Jvm.ClassFile.FieldType.object "java/lang/Object")), Jvm.Cond.code ({ cls := "java/lang/StringBuilder", name := "append", desc := "(Ljava/lang/String;)Ljava/lang/StringBuilder;" } : Jvm.MethodName) jdk_67_method_7_code (2 : Nat) (Option.some (Jvm.ClassFile.FieldType.object "java/lang/StringBuilder")), Jvm.Cond.code ({ cls := "java/lang/AbstractStringBuilder", name := "append", desc := "(Ljava/lang/String;)Ljava/lang/AbstractStringBuilder;" } : Jvm.MethodName) jdk_68_method_22_code (3 : Nat) (Option.some (Jvm.ClassFile.FieldType.object "java/lang/AbstractStringBuilder")), Jvm.Cond.code ({ cls := "java/lang/AbstractStringBuilder", name := "ensureCapacityInternal", desc := "(I)V" } : Jvm.MethodName) jdk_68_method_9_code (3 : Nat) (Option.none : Option Jvm.ClassFile.FieldType), Jvm.Cond.code ({ cls := "java/lang/AbstractStringBuilder", name := "putStringAt", desc := "(ILjava/lang/String;)V" } : Jvm.MethodName) jdk_68_method_73_code (3 : Nat) (Option.none : Option Jvm.ClassFile.FieldType), Jvm.Cond.code ({ cls := "java/lang/AbstractStringBuilder", name := "inflateIfNeededFor", desc := "(Ljava/lang/String;)V" } : Jvm.MethodName) jdk_68_method_71_code (2 : Nat) (Option.none : Option Jvm.ClassFile.FieldType), Jvm.Cond.code ({ cls := "java/lang/String", name := "getBytes", desc := "([BIB)V" } : Jvm.MethodName) jdk_42_method_147_code (4 : Nat) (Option.none : Option Jvm.ClassFile.FieldType), Jvm.Cond.code ({ cls := "java/lang/StringBuilder", name := "append", desc := "(C)Ljava/lang/StringBuilder;" } : Jvm.MethodName) jdk_67_method_14_code (2 : Nat) (Option.some (Jvm.ClassFile.FieldType.object "java/lang/StringBuilder")), Jvm.Cond.code ({ cls := "java/lang/AbstractStringBuilder", name := "append", desc := "(C)Ljava/lang/AbstractStringBuilder;" } : Jvm.MethodName) jdk_68_method_31_code (2 : Nat) (Option.some (Jvm.ClassFile.FieldType.object "java/lang/AbstractStringBuilder")), Jvm.Cond.code ({ cls := "java/lang/String", name := "charAt", desc := "(I)C" } : Jvm.MethodName) jdk_42_method_56_code (2 : Nat) (Option.some Jvm.ClassFile.FieldType.char), Jvm.Cond.code ({ cls := "java/lang/String", name := "isLatin1", desc := "()Z" } : Jvm.MethodName) jdk_42_method_154_code (1 : Nat) (Option.some Jvm.ClassFile.FieldType.boolean), Jvm.Cond.code ({ cls := "java/lang/StringLatin1", name := "charAt", desc := "([BI)C" } : Jvm.MethodName) jdk_43_method_2_code (2 : Nat) (Option.some Jvm.ClassFile.FieldType.char), Jvm.Cond.code ({ cls := "java/lang/String", name := "checkIndex", desc := "(II)V" } : Jvm.MethodName) jdk_42_method_155_code (2 : Nat) (Option.none : Option Jvm.ClassFile.FieldType)]
set_option maxRecDepth 65536 in
theorem codes_eq : words1.filter isCode = codes1 := rfl
theorem w_codes : ∀ c ∈ words1.filter isCode, c.before args0 about1 = true := by
  rw [codes_eq]
  intro c hc
  simp only [codes1, List.mem_cons, List.not_mem_nil, or_false] at hc
  rcases hc with rfl | rfl | rfl | rfl | rfl | rfl | rfl | rfl | rfl | rfl | rfl | rfl | rfl | rfl | rfl | rfl | rfl | rfl | rfl | rfl | rfl | rfl | rfl | rfl | rfl | rfl | rfl | rfl | rfl | rfl | rfl | rfl | rfl | rfl | rfl | rfl | rfl | rfl | rfl | rfl | rfl | rfl | rfl | rfl | rfl | rfl | rfl | rfl | rfl | rfl | rfl
  · exact w_c0
  · exact w_c1
  · exact w_c2
  · exact w_c3
  · exact w_c4
  · exact w_c5
  · exact w_c6
  · exact w_c7
  · exact w_c8
  · exact w_c9
  · exact w_c10
  · exact w_c11
  · exact w_c12
  · exact w_c13
  · exact w_c14
  · exact w_c15
  · exact w_c16
  · exact w_c17
  · exact w_c18
  · exact w_c19
  · exact w_c20
  · exact w_c21
  · exact w_c22
  · exact w_c23
  · exact w_c24
  · exact w_c25
  · exact w_c26
  · exact w_c27
  · exact w_c28
  · exact w_c29
  · exact w_c30
  · exact w_c31
  · exact w_c32
  · exact w_c33
  · exact w_c34
  · exact w_c35
  · exact w_c36
  · exact w_c37
  · exact w_c38
  · exact w_c39
  · exact w_c40
  · exact w_c41
  · exact w_c42
  · exact w_c43
  · exact w_c44
  · exact w_c45
  · exact w_c46
  · exact w_c47
  · exact w_c48
  · exact w_c49
  · exact w_c50
set_option maxRecDepth 65536 in
theorem w_t1 : (words1.take 24).all (fun c => isCode c || c.before args0 about1) = true := by decide +kernel
set_option maxRecDepth 65536 in
theorem w_t2 : ((words1.drop 24).take 24).all (fun c => isCode c || c.before args0 about1) = true := by decide +kernel
set_option maxRecDepth 65536 in
theorem w_t3 : (((words1.drop 24).drop 24).take 24).all (fun c => isCode c || c.before args0 about1) = true := by decide +kernel
set_option maxRecDepth 65536 in
theorem w_t4 : ((((words1.drop 24).drop 24).drop 24).take 24).all (fun c => isCode c || c.before args0 about1) = true := by decide +kernel
set_option maxRecDepth 65536 in
theorem w_t5 : (((((words1.drop 24).drop 24).drop 24).drop 24).take 24).all (fun c => isCode c || c.before args0 about1) = true := by decide +kernel
set_option maxRecDepth 65536 in
theorem w_t6 : ((((((words1.drop 24).drop 24).drop 24).drop 24).drop 24).take 24).all (fun c => isCode c || c.before args0 about1) = true := by decide +kernel
set_option maxRecDepth 65536 in
theorem w_t7 : (((((((words1.drop 24).drop 24).drop 24).drop 24).drop 24).drop 24).take 24).all (fun c => isCode c || c.before args0 about1) = true := by decide +kernel
set_option maxRecDepth 65536 in
theorem w_t8 : ((((((((words1.drop 24).drop 24).drop 24).drop 24).drop 24).drop 24).drop 24).take 24).all (fun c => isCode c || c.before args0 about1) = true := by decide +kernel
set_option maxRecDepth 65536 in
theorem w_t9 : (((((((((words1.drop 24).drop 24).drop 24).drop 24).drop 24).drop 24).drop 24).drop 24).take 24).all (fun c => isCode c || c.before args0 about1) = true := by decide +kernel
set_option maxRecDepth 65536 in
theorem w_t10 : ((((((((((words1.drop 24).drop 24).drop 24).drop 24).drop 24).drop 24).drop 24).drop 24).drop 24).take 24).all (fun c => isCode c || c.before args0 about1) = true := by decide +kernel
set_option maxRecDepth 65536 in
theorem w_t11 : (((((((((((words1.drop 24).drop 24).drop 24).drop 24).drop 24).drop 24).drop 24).drop 24).drop 24).drop 24).take 24).all (fun c => isCode c || c.before args0 about1) = true := by decide +kernel
set_option maxRecDepth 65536 in
theorem w_t12 : (((((((((((words1.drop 24).drop 24).drop 24).drop 24).drop 24).drop 24).drop 24).drop 24).drop 24).drop 24).drop 24).all (fun c => isCode c || c.before args0 about1) = true := by decide +kernel
theorem w_tables : (allAtoms (Jvm.Cond.code x code maxLocals ret :: tables_1)).before args0 about1 = true := by
  rw [allAtoms_all]
  show words1.all (fun c => c.before args0 about1) = true
  refine all_split ?_ w_codes
  rw [← List.take_append_drop 24 words1, List.all_append, w_t1, ← List.take_append_drop 24 (words1.drop 24), List.all_append, w_t2, ← List.take_append_drop 24 ((words1.drop 24).drop 24), List.all_append, w_t3, ← List.take_append_drop 24 (((words1.drop 24).drop 24).drop 24), List.all_append, w_t4, ← List.take_append_drop 24 ((((words1.drop 24).drop 24).drop 24).drop 24), List.all_append, w_t5, ← List.take_append_drop 24 (((((words1.drop 24).drop 24).drop 24).drop 24).drop 24), List.all_append, w_t6, ← List.take_append_drop 24 ((((((words1.drop 24).drop 24).drop 24).drop 24).drop 24).drop 24), List.all_append, w_t7, ← List.take_append_drop 24 (((((((words1.drop 24).drop 24).drop 24).drop 24).drop 24).drop 24).drop 24), List.all_append, w_t8, ← List.take_append_drop 24 ((((((((words1.drop 24).drop 24).drop 24).drop 24).drop 24).drop 24).drop 24).drop 24), List.all_append, w_t9, ← List.take_append_drop 24 (((((((((words1.drop 24).drop 24).drop 24).drop 24).drop 24).drop 24).drop 24).drop 24).drop 24), List.all_append, w_t10, ← List.take_append_drop 24 ((((((((((words1.drop 24).drop 24).drop 24).drop 24).drop 24).drop 24).drop 24).drop 24).drop 24).drop 24), List.all_append, w_t11, w_t12]
  rfl
set_option maxRecDepth 65536 in
theorem w_rest : rest_1_c.before args0 about1 = true := by decide +kernel
set_option maxRecDepth 65536 in
theorem w_case : (Jvm.Cond.and given_1 narrow_1).before args0 about1 = true := by decide +kernel
set_option maxRecDepth 65536 in
theorem w_consts : constsHeld consts_1 about1 := Jvm.Lit.constsHeldB_iff.mp (by decide +kernel)
theorem w_applies : (headSpec (Jvm.Cond.code x code maxLocals ret :: tables_1) room_1).applies x e0.platform about1 = true :=
  (Spec.applies_iff w_frames).mpr ⟨w_running, w_runnable, w_alone, w_named, w_hears, w_ripe, w_room, w_tables⟩
theorem atStart : AtStart classFile x code maxLocals ret World_1 tables_1 room_1 Calls_1 rest_1 Pre_1 launch0 p0 e0 about1 theMethod args0 below0 :=
  ⟨lists_1, trivial, launch0.admits_env _ _ _, launch0.least_env, fairChoices_fair.cas, fairChoices_fair.clock, w_frames, w_args, w_heap, w_applies, ⟨w_consts, trivial⟩, w_rest, w_case⟩
end start1
theorem witness_1 : WitnessClaimed_1 := ⟨start1.p0, start1.e0, start1.about1, start1.theMethod, start1.args0, start1.below0, start1.atStart⟩
end Jvm.Pilot.@@N@@
