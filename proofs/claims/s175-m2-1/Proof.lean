import JvmDerived
import JvmDerived.Pilot.@@N@@Statement
import JvmDerived.Pilot.@@N@@Code
set_option linter.unusedVariables false
set_option linter.unusedSimpArgs false
@@BLOCK:NumsL.lean.txt@@
namespace Jvm.OwnN
theorem own_rem32 (x y : Int32) : (x - x / y * y).toInt = x.toInt.tmod y.toInt := by
  have a := (x % y).toInt_lt; have b := (x % y).le_toInt
  rw [Int32.toInt_mod] at a b
  rw [Int32.toInt_sub, Int32.toInt_mul, Int32.toInt_div, Int.bmod_mul_bmod, Int.sub_bmod_bmod, Int.mul_comm, ← Int.tmod_def]
  exact Jvm.Kit.bmod32 b a
theorem own_rem32n {x y : Int32} (hx : 0 ≤ x.toInt) : (x - x / y * y).toInt = x.toInt % y.toInt := by rw [own_rem32, Int.tmod_eq_emod_of_nonneg hx]
end Jvm.OwnN
namespace Jvm.RoadKit
open Sem ClassFile Op Lib Jvm.Stand Jvm.Free Jvm.LawKit
section New
variable {p : Program} {l : Launch} {e : Env} {R : Room} {s : State} {m : MethodId} {args : Array Value} {below : List Frame} {meth : Method} {c : Code} {T : State} {locs : List Loc} {cells slots : Nat}
theorem retI (X : Stand p l e R s m args below meth c T locs cells slots) (hx : p.tables.exec = Jvm.exec) {pc : Nat} {Ls : Array Slot} {z : Int32} {rest : List Value} (hret : meth.sig.returnType = some .int) (hd : decode c.code pc = .ok (.ireturn, 1)) {fs : List Frame}
    (hl : ∀ (f : JFrame) (acts : List Action), f.method = m → f.locked = none → f.entered = [] → (doReturn e (T.setTop f) acts (some (.int z))).1 = T.setFrames fs) : Steps p.tables e below (T.setTop (mkF m pc Ls (.int z :: rest))) (T.setFrames fs) := by
  have hm' : T.vm.method? m = some meth := X.method'
  have hn : narrow .int (.int z) = .int z := rfl
  show Steps p.tables e below (T.setTop { method := m, pc := pc, locals := Ls, stack := _ :: rest, locked := none }) _
  jvm_step X.here [X.here.top, hx, hd, hm', hret, hn]
  first | (intro acts; rw [hl _ acts rfl rfl rfl]) | rw [hl _ _ rfl rfl rfl]
  exact Steps.refl _
/-- the run goes on from S to an end of which P holds -/
def Goes (p : Program) (e : Env) (below : List Frame) (S : State) (P : Outcome → State → Prop) : Prop := ∃ s₂ o, Steps p.tables e below S s₂ ∧ s₂.status = .running ∧ Ended s₂ below o ∧ P o s₂
/-- what every contract here says of the end -/
def Fin (s : State) (Q : Option Value → Heap → List Loc → Prop) (C N : Nat) (o : Outcome) (U : State) : Prop := ∃ v L, o = .returned v ∧ Q v U.heap L ∧ FrameEnd s o U L C N
theorem Goes.of {S S' : State} {P : Outcome → State → Prop} (h : ∀ t, Steps p.tables e below S' t → Steps p.tables e below S t) (g : Goes p e below S' P) : Goes p e below S P := by
  obtain ⟨s₂, o, h1, h2⟩ := g
  exact ⟨s₂, o, h _ h1, h2⟩
theorem Goes.out (X : Stand p l e R s m args below meth c T locs cells slots) {v : Option Value} (hv : meth.sig.returnType = none → v = none) (hlocks : meth.locks = false) {g : JFrame} {Q : Option Value → Heap → List Loc → Prop} {C N : Nat}
    (hst : ∀ fs, (∀ (f : JFrame) (acts : List Action), f.method = m → f.locked = none → f.entered = [] → (doReturn e (T.setTop f) acts v).1 = T.setFrames fs) → Steps p.tables e below (T.setTop g) (T.setFrames fs))
    (hq : Q v T.heap locs) (h1 : cells ≤ C) (h2 : slots ≤ N) : Goes p e below (T.setTop g) (Fin s Q C N) := by
  obtain ⟨fs, hr, hrun, hended, hW, hsame⟩ := X.leave (v := v) hv hlocks
  exact ⟨_, _, hst fs hr, hrun, hended, v, locs, rfl, hq, ⟨_, rfl⟩, hW, hsame.mono h1 h2⟩
theorem Goes.retI (X : Stand p l e R s m args below meth c T locs cells slots) (hx : p.tables.exec = Jvm.exec) (hret : meth.sig.returnType = some .int) (hlocks : meth.locks = false) {pc : Nat} {Ls : Array Slot} {z : Int32} {rest : List Value} (hd : decode c.code pc = .ok (.ireturn, 1)) {Q : Option Value → Heap → List Loc → Prop} {C N : Nat}
    (hq : Q (some (.int z)) T.heap locs) (h1 : cells ≤ C) (h2 : slots ≤ N) : Goes p e below (T.setTop (mkF m pc Ls (.int z :: rest))) (Fin s Q C N) :=
  Goes.out X (v := some (.int z)) (fun h => by rw [hret] at h; cases h) hlocks (fun fs hr => Jvm.RoadKit.retI X hx hret hd hr) hq h1 h2
theorem Goes.retN (X : Stand p l e R s m args below meth c T locs cells slots) (hx : p.tables.exec = Jvm.exec) {t : FieldType} (hret : meth.sig.returnType = some t) (ht : t = .boolean ∨ t = .byte ∨ t = .char ∨ t = .short) (hlocks : meth.locks = false) {pc : Nat} {Ls : Array Slot} {z : Int32} {rest : List Value} (hd : decode c.code pc = .ok (.ireturn, 1)) {Q : Option Value → Heap → List Loc → Prop} {C N : Nat}
    (hq : Q (some (.int (nar t z))) T.heap locs) (h1 : cells ≤ C) (h2 : slots ≤ N) : Goes p e below (T.setTop (mkF m pc Ls (.int z :: rest))) (Fin s Q C N) :=
  Goes.out X (v := some (.int (nar t z))) (fun h => by rw [hret] at h; cases h) hlocks (fun fs hr => Jvm.RoadKit.retN X hx (t := t) hret ht hd hr) hq h1 h2
theorem Goes.retJ (X : Stand p l e R s m args below meth c T locs cells slots) (hx : p.tables.exec = Jvm.exec) (hret : meth.sig.returnType = some .long) (hlocks : meth.locks = false) {pc : Nat} {Ls : Array Slot} {z : Int64} (hd : decode c.code pc = .ok (.lreturn, 1)) {Q : Option Value → Heap → List Loc → Prop} {C N : Nat}
    (hq : Q (some (.long z)) T.heap locs) (h1 : cells ≤ C) (h2 : slots ≤ N) : Goes p e below (T.setTop (mkF m pc Ls [.long z])) (Fin s Q C N) :=
  Goes.out X (v := some (.long z)) (fun h => by rw [hret] at h; cases h) hlocks (fun fs hr => X.lreturnOut hx hret hd hr) hq h1 h2
theorem Goes.retD (X : Stand p l e R s m args below meth c T locs cells slots) (hx : p.tables.exec = Jvm.exec) (hret : meth.sig.returnType = some .double) (hlocks : meth.locks = false) {pc : Nat} {Ls : Array Slot} {z : UInt64} (hd : decode c.code pc = .ok (.dreturn, 1)) {Q : Option Value → Heap → List Loc → Prop} {C N : Nat}
    (hq : Q (some (.double z)) T.heap locs) (h1 : cells ≤ C) (h2 : slots ≤ N) : Goes p e below (T.setTop (mkF m pc Ls [.double z])) (Fin s Q C N) :=
  Goes.out X (v := some (.double z)) (fun h => by rw [hret] at h; cases h) hlocks (fun fs hr => by
    have hm' : T.vm.method? m = some meth := X.method'
    jvm_step X.here [X.here.top, hx, hd, hm', hret, narrow]
    first | (intro acts; rw [hr _ acts rfl rfl rfl]) | rw [hr _ _ rfl rfl rfl]
    exact Steps.refl _) hq h1 h2
theorem Goes.retA (X : Stand p l e R s m args below meth c T locs cells slots) (hx : p.tables.exec = Jvm.exec) {w : Value} {t : FieldType} (hw : w.isRef = true) (hret : meth.sig.returnType = some t) (ht : t.isReference = true) (hlocks : meth.locks = false) {pc : Nat} {Ls : Array Slot} (hd : decode c.code pc = .ok (.areturn, 1)) {Q : Option Value → Heap → List Loc → Prop} {C N : Nat}
    (hq : Q (some w) T.heap locs) (h1 : cells ≤ C) (h2 : slots ≤ N) : Goes p e below (T.setTop (mkF m pc Ls [w])) (Fin s Q C N) :=
  Goes.out X (v := some w) (fun h => by rw [hret] at h; cases h) hlocks (fun fs hr => X.areturnOut hx hw hret ht hd hr) hq h1 h2
theorem Goes.retV (X : Stand p l e R s m args below meth c T locs cells slots) (hx : p.tables.exec = Jvm.exec) (hret : meth.sig.returnType = none) (hlocks : meth.locks = false) {pc : Nat} {Ls : Array Slot} (hd : decode c.code pc = .ok (.return_, 1)) {Q : Option Value → Heap → List Loc → Prop} {C N : Nat}
    (hq : Q none T.heap locs) (h1 : cells ≤ C) (h2 : slots ≤ N) : Goes p e below (T.setTop (mkF m pc Ls [])) (Fin s Q C N) :=
  Goes.out X (v := none) (fun _ => rfl) hlocks (fun fs hr => X.returnOut hx hret hd hr) hq h1 h2
/-- the same of a walk that may have interned -/
def FinW (s : State) (Q : Option Value → Heap → List Loc → Prop) (C N : Nat) (o : Outcome) (U : State) : Prop := ∃ v L, o = .returned v ∧ Q v U.heap L ∧ ReturnedEndW s o U L C N
theorem Goes.outW {vm0 : Vm} (X : Stand p l e R (s.setVm vm0) m args below meth c T locs cells slots) {k0 : Nat} (hS : s.Since vm0 k0) (hk : k0 ≤ T.heap.size) {v : Option Value} (hv : meth.sig.returnType = none → v = none) (hlocks : meth.locks = false) {g : JFrame} {Q : Option Value → Heap → List Loc → Prop} {C N : Nat}
    (hst : ∀ fs, (∀ (f : JFrame) (acts : List Action), f.method = m → f.locked = none → f.entered = [] → (doReturn e (T.setTop f) acts v).1 = T.setFrames fs) → Steps p.tables e below (T.setTop g) (T.setFrames fs))
    (hq : Q v T.heap locs) (h1 : cells ≤ C) (h2 : slots ≤ N) : Goes p e below (T.setTop g) (FinW s Q C N) := by
  obtain ⟨fs, hr, hrun, hended, ha, hb, hc, hsame⟩ := X.leaveW hS hk (v := v) hv hlocks
  exact ⟨_, _, hst fs hr, hrun, hended, v, locs, rfl, hq, ha, hb, hc, hsame.mono h1 h2⟩
theorem Goes.retIW {vm0 : Vm} (X : Stand p l e R (s.setVm vm0) m args below meth c T locs cells slots) {k0 : Nat} (hS : s.Since vm0 k0) (hk : k0 ≤ T.heap.size) (hx : p.tables.exec = Jvm.exec) (hret : meth.sig.returnType = some .int) (hlocks : meth.locks = false) {pc : Nat} {Ls : Array Slot} {z : Int32} {rest : List Value} (hd : decode c.code pc = .ok (.ireturn, 1)) {Q : Option Value → Heap → List Loc → Prop} {C N : Nat}
    (hq : Q (some (.int z)) T.heap locs) (h1 : cells ≤ C) (h2 : slots ≤ N) : Goes p e below (T.setTop (mkF m pc Ls (.int z :: rest))) (FinW s Q C N) :=
  Goes.outW X hS hk (v := some (.int z)) (fun h => by rw [hret] at h; cases h) hlocks (fun fs hr => Jvm.RoadKit.retI X hx hret hd hr) hq h1 h2
theorem Goes.retNW {vm0 : Vm} (X : Stand p l e R (s.setVm vm0) m args below meth c T locs cells slots) {k0 : Nat} (hS : s.Since vm0 k0) (hk : k0 ≤ T.heap.size) (hx : p.tables.exec = Jvm.exec) {t : FieldType} (hret : meth.sig.returnType = some t) (ht : t = .boolean ∨ t = .byte ∨ t = .char ∨ t = .short) (hlocks : meth.locks = false) {pc : Nat} {Ls : Array Slot} {z : Int32} {rest : List Value} (hd : decode c.code pc = .ok (.ireturn, 1)) {Q : Option Value → Heap → List Loc → Prop} {C N : Nat}
    (hq : Q (some (.int (nar t z))) T.heap locs) (h1 : cells ≤ C) (h2 : slots ≤ N) : Goes p e below (T.setTop (mkF m pc Ls (.int z :: rest))) (FinW s Q C N) :=
  Goes.outW X hS hk (v := some (.int (nar t z))) (fun h => by rw [hret] at h; cases h) hlocks (fun fs hr => Jvm.RoadKit.retN X hx (t := t) hret ht hd hr) hq h1 h2
theorem Goes.retJW {vm0 : Vm} (X : Stand p l e R (s.setVm vm0) m args below meth c T locs cells slots) {k0 : Nat} (hS : s.Since vm0 k0) (hk : k0 ≤ T.heap.size) (hx : p.tables.exec = Jvm.exec) (hret : meth.sig.returnType = some .long) (hlocks : meth.locks = false) {pc : Nat} {Ls : Array Slot} {z : Int64} (hd : decode c.code pc = .ok (.lreturn, 1)) {Q : Option Value → Heap → List Loc → Prop} {C N : Nat}
    (hq : Q (some (.long z)) T.heap locs) (h1 : cells ≤ C) (h2 : slots ≤ N) : Goes p e below (T.setTop (mkF m pc Ls [.long z])) (FinW s Q C N) :=
  Goes.outW X hS hk (v := some (.long z)) (fun h => by rw [hret] at h; cases h) hlocks (fun fs hr => X.lreturnOut hx hret hd hr) hq h1 h2
theorem Goes.retDW {vm0 : Vm} (X : Stand p l e R (s.setVm vm0) m args below meth c T locs cells slots) {k0 : Nat} (hS : s.Since vm0 k0) (hk : k0 ≤ T.heap.size) (hx : p.tables.exec = Jvm.exec) (hret : meth.sig.returnType = some .double) (hlocks : meth.locks = false) {pc : Nat} {Ls : Array Slot} {z : UInt64} (hd : decode c.code pc = .ok (.dreturn, 1)) {Q : Option Value → Heap → List Loc → Prop} {C N : Nat}
    (hq : Q (some (.double z)) T.heap locs) (h1 : cells ≤ C) (h2 : slots ≤ N) : Goes p e below (T.setTop (mkF m pc Ls [.double z])) (FinW s Q C N) :=
  Goes.outW X hS hk (v := some (.double z)) (fun h => by rw [hret] at h; cases h) hlocks (fun fs hr => by
    have hm' : T.vm.method? m = some meth := X.method'
    jvm_step X.here [X.here.top, hx, hd, hm', hret, narrow]
    first | (intro acts; rw [hr _ acts rfl rfl rfl]) | rw [hr _ _ rfl rfl rfl]
    exact Steps.refl _) hq h1 h2
theorem Goes.retAW {vm0 : Vm} (X : Stand p l e R (s.setVm vm0) m args below meth c T locs cells slots) {k0 : Nat} (hS : s.Since vm0 k0) (hk : k0 ≤ T.heap.size) (hx : p.tables.exec = Jvm.exec) {w : Value} {t : FieldType} (hw : w.isRef = true) (hret : meth.sig.returnType = some t) (ht : t.isReference = true) (hlocks : meth.locks = false) {pc : Nat} {Ls : Array Slot} (hd : decode c.code pc = .ok (.areturn, 1)) {Q : Option Value → Heap → List Loc → Prop} {C N : Nat}
    (hq : Q (some w) T.heap locs) (h1 : cells ≤ C) (h2 : slots ≤ N) : Goes p e below (T.setTop (mkF m pc Ls [w])) (FinW s Q C N) :=
  Goes.outW X hS hk (v := some w) (fun h => by rw [hret] at h; cases h) hlocks (fun fs hr => X.areturnOut hx hw hret ht hd hr) hq h1 h2
theorem Goes.retVW {vm0 : Vm} (X : Stand p l e R (s.setVm vm0) m args below meth c T locs cells slots) {k0 : Nat} (hS : s.Since vm0 k0) (hk : k0 ≤ T.heap.size) (hx : p.tables.exec = Jvm.exec) (hret : meth.sig.returnType = none) (hlocks : meth.locks = false) {pc : Nat} {Ls : Array Slot} (hd : decode c.code pc = .ok (.return_, 1)) {Q : Option Value → Heap → List Loc → Prop} {C N : Nat}
    (hq : Q none T.heap locs) (h1 : cells ≤ C) (h2 : slots ≤ N) : Goes p e below (T.setTop (mkF m pc Ls [])) (FinW s Q C N) :=
  Goes.outW X hS hk (v := none) (fun _ => rfl) hlocks (fun fs hr => X.returnOut hx hret hd hr) hq h1 h2
/-- .. and that keeps the constants -/
def FinH (Z : State) (EL : List (String × Nat)) (s : State) (Q : Option Value → Heap → List Loc → Prop) (C N : Nat) (o : Outcome) (U : State) : Prop := ∃ v L, o = .returned v ∧ Q v U.heap L ∧ CHr Z EL s.vm s.heap U.vm U.heap ∧ ReturnedEndW s o U L C N
theorem Goes.outH {Z : State} {EL : List (String × Nat)} {vm0 : Vm} (X : Stand p l e R (s.setVm vm0) m args below meth c T locs cells slots) {k0 : Nat} (hS : s.Since vm0 k0) (hk : k0 ≤ T.heap.size) {v : Option Value} (hv : meth.sig.returnType = none → v = none) (hlocks : meth.locks = false) {g : JFrame} {Q : Option Value → Heap → List Loc → Prop} {C N : Nat}
    (hst : ∀ fs, (∀ (f : JFrame) (acts : List Action), f.method = m → f.locked = none → f.entered = [] → (doReturn e (T.setTop f) acts v).1 = T.setFrames fs) → Steps p.tables e below (T.setTop g) (T.setFrames fs))
    (hq : Q v T.heap locs) (hc : CHr Z EL s.vm s.heap T.vm T.heap) (h1 : cells ≤ C) (h2 : slots ≤ N) : Goes p e below (T.setTop g) (FinH Z EL s Q C N) := by
  obtain ⟨fs, hr, hrun, hended, ha, hb, hc', hsame⟩ := X.leaveW hS hk (v := v) hv hlocks
  exact ⟨_, _, hst fs hr, hrun, hended, v, locs, rfl, hq, hc, ha, hb, hc', hsame.mono h1 h2⟩
theorem Goes.retIH {Z : State} {EL : List (String × Nat)} {vm0 : Vm} (X : Stand p l e R (s.setVm vm0) m args below meth c T locs cells slots) {k0 : Nat} (hS : s.Since vm0 k0) (hk : k0 ≤ T.heap.size) (hx : p.tables.exec = Jvm.exec) (hret : meth.sig.returnType = some .int) (hlocks : meth.locks = false) {pc : Nat} {Ls : Array Slot} {z : Int32} {rest : List Value} (hd : decode c.code pc = .ok (.ireturn, 1)) {Q : Option Value → Heap → List Loc → Prop} {C N : Nat}
    (hq : Q (some (.int z)) T.heap locs) (hc : CHr Z EL s.vm s.heap T.vm T.heap) (h1 : cells ≤ C) (h2 : slots ≤ N) : Goes p e below (T.setTop (mkF m pc Ls (.int z :: rest))) (FinH Z EL s Q C N) :=
  Goes.outH X hS hk (v := some (.int z)) (fun h => by rw [hret] at h; cases h) hlocks (fun fs hr => Jvm.RoadKit.retI X hx hret hd hr) hq hc h1 h2
theorem Goes.retNH {Z : State} {EL : List (String × Nat)} {vm0 : Vm} (X : Stand p l e R (s.setVm vm0) m args below meth c T locs cells slots) {k0 : Nat} (hS : s.Since vm0 k0) (hk : k0 ≤ T.heap.size) (hx : p.tables.exec = Jvm.exec) {t : FieldType} (hret : meth.sig.returnType = some t) (ht : t = .boolean ∨ t = .byte ∨ t = .char ∨ t = .short) (hlocks : meth.locks = false) {pc : Nat} {Ls : Array Slot} {z : Int32} {rest : List Value} (hd : decode c.code pc = .ok (.ireturn, 1)) {Q : Option Value → Heap → List Loc → Prop} {C N : Nat}
    (hq : Q (some (.int (nar t z))) T.heap locs) (hc : CHr Z EL s.vm s.heap T.vm T.heap) (h1 : cells ≤ C) (h2 : slots ≤ N) : Goes p e below (T.setTop (mkF m pc Ls (.int z :: rest))) (FinH Z EL s Q C N) :=
  Goes.outH X hS hk (v := some (.int (nar t z))) (fun h => by rw [hret] at h; cases h) hlocks (fun fs hr => Jvm.RoadKit.retN X hx (t := t) hret ht hd hr) hq hc h1 h2
theorem Goes.retJH {Z : State} {EL : List (String × Nat)} {vm0 : Vm} (X : Stand p l e R (s.setVm vm0) m args below meth c T locs cells slots) {k0 : Nat} (hS : s.Since vm0 k0) (hk : k0 ≤ T.heap.size) (hx : p.tables.exec = Jvm.exec) (hret : meth.sig.returnType = some .long) (hlocks : meth.locks = false) {pc : Nat} {Ls : Array Slot} {z : Int64} (hd : decode c.code pc = .ok (.lreturn, 1)) {Q : Option Value → Heap → List Loc → Prop} {C N : Nat}
    (hq : Q (some (.long z)) T.heap locs) (hc : CHr Z EL s.vm s.heap T.vm T.heap) (h1 : cells ≤ C) (h2 : slots ≤ N) : Goes p e below (T.setTop (mkF m pc Ls [.long z])) (FinH Z EL s Q C N) :=
  Goes.outH X hS hk (v := some (.long z)) (fun h => by rw [hret] at h; cases h) hlocks (fun fs hr => X.lreturnOut hx hret hd hr) hq hc h1 h2
theorem Goes.retDH {Z : State} {EL : List (String × Nat)} {vm0 : Vm} (X : Stand p l e R (s.setVm vm0) m args below meth c T locs cells slots) {k0 : Nat} (hS : s.Since vm0 k0) (hk : k0 ≤ T.heap.size) (hx : p.tables.exec = Jvm.exec) (hret : meth.sig.returnType = some .double) (hlocks : meth.locks = false) {pc : Nat} {Ls : Array Slot} {z : UInt64} (hd : decode c.code pc = .ok (.dreturn, 1)) {Q : Option Value → Heap → List Loc → Prop} {C N : Nat}
    (hq : Q (some (.double z)) T.heap locs) (hc : CHr Z EL s.vm s.heap T.vm T.heap) (h1 : cells ≤ C) (h2 : slots ≤ N) : Goes p e below (T.setTop (mkF m pc Ls [.double z])) (FinH Z EL s Q C N) :=
  Goes.outH X hS hk (v := some (.double z)) (fun h => by rw [hret] at h; cases h) hlocks (fun fs hr => by
    have hm' : T.vm.method? m = some meth := X.method'
    jvm_step X.here [X.here.top, hx, hd, hm', hret, narrow]
    first | (intro acts; rw [hr _ acts rfl rfl rfl]) | rw [hr _ _ rfl rfl rfl]
    exact Steps.refl _) hq hc h1 h2
theorem Goes.retAH {Z : State} {EL : List (String × Nat)} {vm0 : Vm} (X : Stand p l e R (s.setVm vm0) m args below meth c T locs cells slots) {k0 : Nat} (hS : s.Since vm0 k0) (hk : k0 ≤ T.heap.size) (hx : p.tables.exec = Jvm.exec) {w : Value} {t : FieldType} (hw : w.isRef = true) (hret : meth.sig.returnType = some t) (ht : t.isReference = true) (hlocks : meth.locks = false) {pc : Nat} {Ls : Array Slot} (hd : decode c.code pc = .ok (.areturn, 1)) {Q : Option Value → Heap → List Loc → Prop} {C N : Nat}
    (hq : Q (some w) T.heap locs) (hc : CHr Z EL s.vm s.heap T.vm T.heap) (h1 : cells ≤ C) (h2 : slots ≤ N) : Goes p e below (T.setTop (mkF m pc Ls [w])) (FinH Z EL s Q C N) :=
  Goes.outH X hS hk (v := some w) (fun h => by rw [hret] at h; cases h) hlocks (fun fs hr => X.areturnOut hx hw hret ht hd hr) hq hc h1 h2
theorem Goes.retVH {Z : State} {EL : List (String × Nat)} {vm0 : Vm} (X : Stand p l e R (s.setVm vm0) m args below meth c T locs cells slots) {k0 : Nat} (hS : s.Since vm0 k0) (hk : k0 ≤ T.heap.size) (hx : p.tables.exec = Jvm.exec) (hret : meth.sig.returnType = none) (hlocks : meth.locks = false) {pc : Nat} {Ls : Array Slot} (hd : decode c.code pc = .ok (.return_, 1)) {Q : Option Value → Heap → List Loc → Prop} {C N : Nat}
    (hq : Q none T.heap locs) (hc : CHr Z EL s.vm s.heap T.vm T.heap) (h1 : cells ≤ C) (h2 : slots ≤ N) : Goes p e below (T.setTop (mkF m pc Ls [])) (FinH Z EL s Q C N) :=
  Goes.outH X hS hk (v := none) (fun _ => rfl) hlocks (fun fs hr => X.returnOut hx hret hd hr) hq hc h1 h2
end New
theorem own_pop2 {tb : Tables} [Ours tb] {e : Env} {below : List Frame} {T target : State} {m : MethodId} {c : Code} {g : JFrame} (h : At T m c below) (hx : tb.exec = Jvm.exec) (hg : g.method = m) {x : Value} {rest : List Value} (hd : decode c.code g.pc = .ok (.pop2, 1)) (hs : g.stack = x :: rest) (hc : x.category = 2)
    (hr : Steps tb e below (T.setTop { g with pc := g.pc + 1, stack := rest }) target) : Steps tb e below (T.setTop g) target := by
  subst hg
  jvm_step h [h.top, hx, hd, hs, hc]
  exact hr
theorem mvMN {Z s : State} {a0 args : Array Value} {own host : String} {x : MethodName} {index : Nat} (hZ : Z.Warmed39 s.vm) (w : (Cond.methodLinkNest own index x host).before a0 Z = true) : (Cond.methodLinkNest own index x host).before args s = true := (Cond.methodLinkNest_wide hZ w :)
theorem selPriv {s : State} {args : Array Value} {y : MethodName} {n : Nat} (hpriv : s.PrivateAt y) (hinst : (Cond.instanceMethod y).before args s = true) (hi : (Cond.instantiable y.cls n).before args s = true) (hy : y.cls ≠ "java/lang/invoke/MethodHandle" ∧ y.cls ≠ "java/lang/invoke/VarHandle") : (Cond.selects y.cls y y).before args s = true := by
  obtain ⟨c, k, h1, h2, -, h3, -⟩ := Cond.instantiable_spec hi
  exact Jvm.Stand.selects_self_of_private h1 h2 (by cases hk : k.isInterface <;> simp_all) hpriv hinst hy
end Jvm.RoadKit
namespace Jvm.Pilot.@@N@@
open Jvm Jvm.ClassFile Sem Op Lib Jvm.Free Jvm.Stand Jvm.LawKit Jvm.RoadKit Bundle Jvm.OwnN Jvm.Pilot.@@N@@.Jvm.D
theorem wd {Z : State} {a0 : Array Value} (hw : ∀ d ∈ tables_1, d.before a0 Z = true) (i : Nat) {c : Jvm.Cond} (h : tables_1[i]? = some c) : c.before a0 Z = true := hw c (List.mem_of_getElem? h)
theorem d8_0 : decode jdk_22_method_1_code 0 = .ok (.aload_n 0, 1) := by decide +kernel
theorem d8_1 : decode jdk_22_method_1_code 1 = .ok (.invokespecial 1, 3) := by decide +kernel
theorem d8_4 : decode jdk_22_method_1_code 4 = .ok (.return_, 1) := by decide +kernel
theorem pn_0 : plainName "java/util/AbstractCollection" = true := by first | (simp [plainName, overriddenIn]; done) | decide +kernel
theorem d7_0 : decode jdk_47_method_1_code 0 = .ok (.aload_n 0, 1) := by decide +kernel
theorem d7_1 : decode jdk_47_method_1_code 1 = .ok (.invokespecial 1, 3) := by decide +kernel
theorem d7_4 : decode jdk_47_method_1_code 4 = .ok (.return_, 1) := by decide +kernel
theorem pn_1 : plainName "java/util/ImmutableCollections$AbstractImmutableCollection" = true := by first | (simp [plainName, overriddenIn]; done) | decide +kernel
theorem pd_2 : parseMethodDescriptor "()V" = some ⟨[], none⟩ := by decide +kernel
theorem d6_0 : decode jdk_46_method_1_code 0 = .ok (.aload_n 0, 1) := by decide +kernel
theorem d6_1 : decode jdk_46_method_1_code 1 = .ok (.invokespecial 1, 3) := by decide +kernel
theorem d6_4 : decode jdk_46_method_1_code 4 = .ok (.return_, 1) := by decide +kernel
theorem pn_3 : plainName "java/util/ImmutableCollections$AbstractImmutableList" = true := by first | (simp [plainName, overriddenIn]; done) | decide +kernel
theorem d5_0 : decode jdk_45_method_1_code 0 = .ok (.aload_n 0, 1) := by decide +kernel
theorem d5_1 : decode jdk_45_method_1_code 1 = .ok (.invokespecial 1, 3) := by decide +kernel
theorem d5_4 : decode jdk_45_method_1_code 4 = .ok (.aload_n 0, 1) := by decide +kernel
theorem d5_5 : decode jdk_45_method_1_code 5 = .ok (.aload_n 1, 1) := by decide +kernel
theorem d5_6 : decode jdk_45_method_1_code 6 = .ok (.putfield 7, 3) := by decide +kernel
theorem d5_9 : decode jdk_45_method_1_code 9 = .ok (.aload_n 0, 1) := by decide +kernel
theorem d5_10 : decode jdk_45_method_1_code 10 = .ok (.iload_n 2, 1) := by decide +kernel
theorem d5_11 : decode jdk_45_method_1_code 11 = .ok (.putfield 13, 3) := by decide +kernel
theorem d5_14 : decode jdk_45_method_1_code 14 = .ok (.return_, 1) := by decide +kernel
theorem pn_4 : plainName "java/util/ImmutableCollections$ListN" = true := by first | (simp [plainName, overriddenIn]; done) | decide +kernel
theorem d4_0 : decode jdk_31_method_10_code 0 = .ok (.aload_n 0, 1) := by decide +kernel
theorem d4_1 : decode jdk_31_method_10_code 1 = .ok (.ifnonnull 11, 3) := by decide +kernel
theorem d4_4 : decode jdk_31_method_10_code 4 = .ok (.new 84, 3) := by decide +kernel
theorem d4_7 : decode jdk_31_method_10_code 7 = .ok (.dup, 1) := by decide +kernel
theorem d4_8 : decode jdk_31_method_10_code 8 = .ok (.invokespecial 86, 3) := by decide +kernel
theorem d4_11 : decode jdk_31_method_10_code 11 = .ok (.athrow, 1) := by decide +kernel
theorem d4_12 : decode jdk_31_method_10_code 12 = .ok (.aload_n 0, 1) := by decide +kernel
theorem d4_13 : decode jdk_31_method_10_code 13 = .ok (.areturn, 1) := by decide +kernel
theorem pn_5 : plainName "java/util/Objects" = true := by first | (simp [plainName, overriddenIn]; done) | decide +kernel
theorem d3_0 : decode jdk_56_method_5_code 0 = .ok (.getstatic 46, 3) := by decide +kernel
theorem d3_3 : decode jdk_56_method_5_code 3 = .ok (.ifCond .ne 20, 3) := by decide +kernel
theorem d3_6 : decode jdk_56_method_5_code 6 = .ok (.aload_n 0, 1) := by decide +kernel
theorem d3_7 : decode jdk_56_method_5_code 7 = .ok (.invokevirtual 51, 3) := by decide +kernel
theorem d3_10 : decode jdk_56_method_5_code 10 = .ok (.ldc 55, 2) := by decide +kernel
theorem d3_12 : decode jdk_56_method_5_code 12 = .ok (.if_acmp .eq 11, 3) := by decide +kernel
theorem d3_15 : decode jdk_56_method_5_code 15 = .ok (.new 57, 3) := by decide +kernel
theorem d3_18 : decode jdk_56_method_5_code 18 = .ok (.dup, 1) := by decide +kernel
theorem d3_19 : decode jdk_56_method_5_code 19 = .ok (.invokespecial 59, 3) := by decide +kernel
theorem d3_22 : decode jdk_56_method_5_code 22 = .ok (.athrow, 1) := by decide +kernel
theorem d3_23 : decode jdk_56_method_5_code 23 = .ok (.aload_n 0, 1) := by decide +kernel
theorem d3_24 : decode jdk_56_method_5_code 24 = .ok (.astore_n 1, 1) := by decide +kernel
theorem d3_25 : decode jdk_56_method_5_code 25 = .ok (.aload_n 1, 1) := by decide +kernel
theorem d3_26 : decode jdk_56_method_5_code 26 = .ok (.arraylength, 1) := by decide +kernel
theorem d3_27 : decode jdk_56_method_5_code 27 = .ok (.istore_n 2, 1) := by decide +kernel
theorem d3_28 : decode jdk_56_method_5_code 28 = .ok (.iconst 0, 1) := by decide +kernel
theorem d3_29 : decode jdk_56_method_5_code 29 = .ok (.istore_n 3, 1) := by decide +kernel
theorem d3_30 : decode jdk_56_method_5_code 30 = .ok (.iload_n 3, 1) := by decide +kernel
theorem d3_31 : decode jdk_56_method_5_code 31 = .ok (.iload_n 2, 1) := by decide +kernel
theorem d3_32 : decode jdk_56_method_5_code 32 = .ok (.if_icmp .ge 20, 3) := by decide +kernel
theorem d3_35 : decode jdk_56_method_5_code 35 = .ok (.aload_n 1, 1) := by decide +kernel
theorem d3_36 : decode jdk_56_method_5_code 36 = .ok (.iload_n 3, 1) := by decide +kernel
theorem d3_37 : decode jdk_56_method_5_code 37 = .ok (.aaload, 1) := by decide +kernel
theorem d3_38 : decode jdk_56_method_5_code 38 = .ok (.astore 4, 2) := by decide +kernel
theorem d3_40 : decode jdk_56_method_5_code 40 = .ok (.aload 4, 2) := by decide +kernel
theorem d3_42 : decode jdk_56_method_5_code 42 = .ok (.invokestatic 37, 3) := by decide +kernel
theorem d3_45 : decode jdk_56_method_5_code 45 = .ok (.pop, 1) := by decide +kernel
theorem d3_46 : decode jdk_56_method_5_code 46 = .ok (.iinc 3 1, 3) := by decide +kernel
theorem d3_49 : decode jdk_56_method_5_code 49 = .ok (.goto (-19), 3) := by decide +kernel
theorem d3_52 : decode jdk_56_method_5_code 52 = .ok (.aload_n 0, 1) := by decide +kernel
theorem d3_53 : decode jdk_56_method_5_code 53 = .ok (.arraylength, 1) := by decide +kernel
theorem d3_54 : decode jdk_56_method_5_code 54 = .ok (.tableswitch 61 0 2 #[26, 32, 45], 26) := by decide +kernel
theorem d3_80 : decode jdk_56_method_5_code 80 = .ok (.getstatic 60, 3) := by decide +kernel
theorem d3_83 : decode jdk_56_method_5_code 83 = .ok (.goto 41, 3) := by decide +kernel
theorem d3_86 : decode jdk_56_method_5_code 86 = .ok (.new 10, 3) := by decide +kernel
theorem d3_89 : decode jdk_56_method_5_code 89 = .ok (.dup, 1) := by decide +kernel
theorem d3_90 : decode jdk_56_method_5_code 90 = .ok (.aload_n 0, 1) := by decide +kernel
theorem d3_91 : decode jdk_56_method_5_code 91 = .ok (.iconst 0, 1) := by decide +kernel
theorem d3_92 : decode jdk_56_method_5_code 92 = .ok (.aaload, 1) := by decide +kernel
theorem d3_93 : decode jdk_56_method_5_code 93 = .ok (.invokespecial 64, 3) := by decide +kernel
theorem d3_96 : decode jdk_56_method_5_code 96 = .ok (.goto 28, 3) := by decide +kernel
theorem d3_99 : decode jdk_56_method_5_code 99 = .ok (.new 10, 3) := by decide +kernel
theorem d3_102 : decode jdk_56_method_5_code 102 = .ok (.dup, 1) := by decide +kernel
theorem d3_103 : decode jdk_56_method_5_code 103 = .ok (.aload_n 0, 1) := by decide +kernel
theorem d3_104 : decode jdk_56_method_5_code 104 = .ok (.iconst 0, 1) := by decide +kernel
theorem d3_105 : decode jdk_56_method_5_code 105 = .ok (.aaload, 1) := by decide +kernel
theorem d3_106 : decode jdk_56_method_5_code 106 = .ok (.aload_n 0, 1) := by decide +kernel
theorem d3_107 : decode jdk_56_method_5_code 107 = .ok (.iconst 1, 1) := by decide +kernel
theorem d3_108 : decode jdk_56_method_5_code 108 = .ok (.aaload, 1) := by decide +kernel
theorem d3_109 : decode jdk_56_method_5_code 109 = .ok (.invokespecial 67, 3) := by decide +kernel
theorem d3_112 : decode jdk_56_method_5_code 112 = .ok (.goto 12, 3) := by decide +kernel
theorem d3_115 : decode jdk_56_method_5_code 115 = .ok (.new 12, 3) := by decide +kernel
theorem d3_118 : decode jdk_56_method_5_code 118 = .ok (.dup, 1) := by decide +kernel
theorem d3_119 : decode jdk_56_method_5_code 119 = .ok (.aload_n 0, 1) := by decide +kernel
theorem d3_120 : decode jdk_56_method_5_code 120 = .ok (.iconst 0, 1) := by decide +kernel
theorem d3_121 : decode jdk_56_method_5_code 121 = .ok (.invokespecial 43, 3) := by decide +kernel
theorem d3_124 : decode jdk_56_method_5_code 124 = .ok (.areturn, 1) := by decide +kernel
theorem pn_6 : plainName "java/util/ImmutableCollections" = true := by first | (simp [plainName, overriddenIn]; done) | decide +kernel
theorem pd_7 : parseMethodDescriptor "(Ljava/lang/Object;)Ljava/lang/Object;" = some ⟨[(.object "java/lang/Object")], some (.object "java/lang/Object")⟩ := by decide +kernel
theorem pd_8 : parseMethodDescriptor "([Ljava/lang/Object;Z)V" = some ⟨[(.array (.object "java/lang/Object")), .boolean], none⟩ := by decide +kernel
theorem d14_0 : decode jdk_40_method_39_code 0 = .ok (.iconst 3, 1) := by decide +kernel
theorem d14_1 : decode jdk_40_method_39_code 1 = .ok (.anewarray 103, 3) := by decide +kernel
theorem d14_4 : decode jdk_40_method_39_code 4 = .ok (.dup, 1) := by decide +kernel
theorem d14_5 : decode jdk_40_method_39_code 5 = .ok (.iconst 0, 1) := by decide +kernel
theorem d14_6 : decode jdk_40_method_39_code 6 = .ok (.aload_n 0, 1) := by decide +kernel
theorem d14_7 : decode jdk_40_method_39_code 7 = .ok (.aastore, 1) := by decide +kernel
theorem d14_8 : decode jdk_40_method_39_code 8 = .ok (.dup, 1) := by decide +kernel
theorem d14_9 : decode jdk_40_method_39_code 9 = .ok (.iconst 1, 1) := by decide +kernel
theorem d14_10 : decode jdk_40_method_39_code 10 = .ok (.aload_n 1, 1) := by decide +kernel
theorem d14_11 : decode jdk_40_method_39_code 11 = .ok (.aastore, 1) := by decide +kernel
theorem d14_12 : decode jdk_40_method_39_code 12 = .ok (.dup, 1) := by decide +kernel
theorem d14_13 : decode jdk_40_method_39_code 13 = .ok (.iconst 2, 1) := by decide +kernel
theorem d14_14 : decode jdk_40_method_39_code 14 = .ok (.aload_n 2, 1) := by decide +kernel
theorem d14_15 : decode jdk_40_method_39_code 15 = .ok (.aastore, 1) := by decide +kernel
theorem d14_16 : decode jdk_40_method_39_code 16 = .ok (.invokestatic 105, 3) := by decide +kernel
theorem d14_19 : decode jdk_40_method_39_code 19 = .ok (.areturn, 1) := by decide +kernel
theorem pn_9 : plainName "java/util/List" = true := by first | (simp [plainName, overriddenIn]; done) | decide +kernel
theorem pd_10 : parseMethodDescriptor "([Ljava/lang/Object;)Ljava/util/List;" = some ⟨[(.array (.object "java/lang/Object"))], some (.object "java/util/List")⟩ := by decide +kernel
theorem d2_0 : decode jdk_40_method_40_code 0 = .ok (.iconst 4, 1) := by decide +kernel
theorem d2_1 : decode jdk_40_method_40_code 1 = .ok (.anewarray 103, 3) := by decide +kernel
theorem d2_4 : decode jdk_40_method_40_code 4 = .ok (.dup, 1) := by decide +kernel
theorem d2_5 : decode jdk_40_method_40_code 5 = .ok (.iconst 0, 1) := by decide +kernel
theorem d2_6 : decode jdk_40_method_40_code 6 = .ok (.aload_n 0, 1) := by decide +kernel
theorem d2_7 : decode jdk_40_method_40_code 7 = .ok (.aastore, 1) := by decide +kernel
theorem d2_8 : decode jdk_40_method_40_code 8 = .ok (.dup, 1) := by decide +kernel
theorem d2_9 : decode jdk_40_method_40_code 9 = .ok (.iconst 1, 1) := by decide +kernel
theorem d2_10 : decode jdk_40_method_40_code 10 = .ok (.aload_n 1, 1) := by decide +kernel
theorem d2_11 : decode jdk_40_method_40_code 11 = .ok (.aastore, 1) := by decide +kernel
theorem d2_12 : decode jdk_40_method_40_code 12 = .ok (.dup, 1) := by decide +kernel
theorem d2_13 : decode jdk_40_method_40_code 13 = .ok (.iconst 2, 1) := by decide +kernel
theorem d2_14 : decode jdk_40_method_40_code 14 = .ok (.aload_n 2, 1) := by decide +kernel
theorem d2_15 : decode jdk_40_method_40_code 15 = .ok (.aastore, 1) := by decide +kernel
theorem d2_16 : decode jdk_40_method_40_code 16 = .ok (.dup, 1) := by decide +kernel
theorem d2_17 : decode jdk_40_method_40_code 17 = .ok (.iconst 3, 1) := by decide +kernel
theorem d2_18 : decode jdk_40_method_40_code 18 = .ok (.aload_n 3, 1) := by decide +kernel
theorem d2_19 : decode jdk_40_method_40_code 19 = .ok (.aastore, 1) := by decide +kernel
theorem d2_20 : decode jdk_40_method_40_code 20 = .ok (.invokestatic 105, 3) := by decide +kernel
theorem d2_23 : decode jdk_40_method_40_code 23 = .ok (.areturn, 1) := by decide +kernel
theorem d10_0 : decode jdk_45_method_3_code 0 = .ok (.aload_n 0, 1) := by decide +kernel
theorem d10_1 : decode jdk_45_method_3_code 1 = .ok (.getfield 7, 3) := by decide +kernel
theorem d10_4 : decode jdk_45_method_3_code 4 = .ok (.arraylength, 1) := by decide +kernel
theorem d10_5 : decode jdk_45_method_3_code 5 = .ok (.ireturn, 1) := by decide +kernel
theorem d11_0 : decode jdk_45_method_4_code 0 = .ok (.aload_n 0, 1) := by decide +kernel
theorem d11_1 : decode jdk_45_method_4_code 1 = .ok (.getfield 7, 3) := by decide +kernel
theorem d11_4 : decode jdk_45_method_4_code 4 = .ok (.iload_n 1, 1) := by decide +kernel
theorem d11_5 : decode jdk_45_method_4_code 5 = .ok (.aaload, 1) := by decide +kernel
theorem d11_6 : decode jdk_45_method_4_code 6 = .ok (.areturn, 1) := by decide +kernel
theorem d13_0 : decode jdk_43_method_13_code 0 = .ok (.aload_n 0, 1) := by decide +kernel
theorem d13_1 : decode jdk_43_method_13_code 1 = .ok (.arraylength, 1) := by decide +kernel
theorem d13_2 : decode jdk_43_method_13_code 2 = .ok (.aload_n 1, 1) := by decide +kernel
theorem d13_3 : decode jdk_43_method_13_code 3 = .ok (.arraylength, 1) := by decide +kernel
theorem d13_4 : decode jdk_43_method_13_code 4 = .ok (.if_icmp .ne 30, 3) := by decide +kernel
theorem d13_7 : decode jdk_43_method_13_code 7 = .ok (.iconst 0, 1) := by decide +kernel
theorem d13_8 : decode jdk_43_method_13_code 8 = .ok (.istore_n 2, 1) := by decide +kernel
theorem d13_9 : decode jdk_43_method_13_code 9 = .ok (.iload_n 2, 1) := by decide +kernel
theorem d13_10 : decode jdk_43_method_13_code 10 = .ok (.aload_n 0, 1) := by decide +kernel
theorem d13_11 : decode jdk_43_method_13_code 11 = .ok (.arraylength, 1) := by decide +kernel
theorem d13_12 : decode jdk_43_method_13_code 12 = .ok (.if_icmp .ge 20, 3) := by decide +kernel
theorem d13_15 : decode jdk_43_method_13_code 15 = .ok (.aload_n 0, 1) := by decide +kernel
theorem d13_16 : decode jdk_43_method_13_code 16 = .ok (.iload_n 2, 1) := by decide +kernel
theorem d13_17 : decode jdk_43_method_13_code 17 = .ok (.baload, 1) := by decide +kernel
theorem d13_18 : decode jdk_43_method_13_code 18 = .ok (.aload_n 1, 1) := by decide +kernel
theorem d13_19 : decode jdk_43_method_13_code 19 = .ok (.iload_n 2, 1) := by decide +kernel
theorem d13_20 : decode jdk_43_method_13_code 20 = .ok (.baload, 1) := by decide +kernel
theorem d13_21 : decode jdk_43_method_13_code 21 = .ok (.if_icmp .eq 5, 3) := by decide +kernel
theorem d13_24 : decode jdk_43_method_13_code 24 = .ok (.iconst 0, 1) := by decide +kernel
theorem d13_25 : decode jdk_43_method_13_code 25 = .ok (.ireturn, 1) := by decide +kernel
theorem d13_26 : decode jdk_43_method_13_code 26 = .ok (.iinc 2 1, 3) := by decide +kernel
theorem d13_29 : decode jdk_43_method_13_code 29 = .ok (.goto (-20), 3) := by decide +kernel
theorem d13_32 : decode jdk_43_method_13_code 32 = .ok (.iconst 1, 1) := by decide +kernel
theorem d13_33 : decode jdk_43_method_13_code 33 = .ok (.ireturn, 1) := by decide +kernel
theorem d13_34 : decode jdk_43_method_13_code 34 = .ok (.iconst 0, 1) := by decide +kernel
theorem d13_35 : decode jdk_43_method_13_code 35 = .ok (.ireturn, 1) := by decide +kernel
theorem pn_11 : plainName "java/lang/StringLatin1" = true := by first | (simp [plainName, overriddenIn]; done) | decide +kernel
theorem d12_0 : decode jdk_42_method_66_code 0 = .ok (.aload_n 0, 1) := by decide +kernel
theorem d12_1 : decode jdk_42_method_66_code 1 = .ok (.aload_n 1, 1) := by decide +kernel
theorem d12_2 : decode jdk_42_method_66_code 2 = .ok (.if_acmp .ne 5, 3) := by decide +kernel
theorem d12_5 : decode jdk_42_method_66_code 5 = .ok (.iconst 1, 1) := by decide +kernel
theorem d12_6 : decode jdk_42_method_66_code 6 = .ok (.ireturn, 1) := by decide +kernel
theorem d12_7 : decode jdk_42_method_66_code 7 = .ok (.aload_n 1, 1) := by decide +kernel
theorem d12_8 : decode jdk_42_method_66_code 8 = .ok (.instanceof 10, 3) := by decide +kernel
theorem d12_11 : decode jdk_42_method_66_code 11 = .ok (.ifCond .eq 43, 3) := by decide +kernel
theorem d12_14 : decode jdk_42_method_66_code 14 = .ok (.aload_n 1, 1) := by decide +kernel
theorem d12_15 : decode jdk_42_method_66_code 15 = .ok (.checkcast 10, 3) := by decide +kernel
theorem d12_18 : decode jdk_42_method_66_code 18 = .ok (.astore_n 2, 1) := by decide +kernel
theorem d12_19 : decode jdk_42_method_66_code 19 = .ok (.getstatic 38, 3) := by decide +kernel
theorem d12_22 : decode jdk_42_method_66_code 22 = .ok (.ifCond .eq 14, 3) := by decide +kernel
theorem d12_25 : decode jdk_42_method_66_code 25 = .ok (.aload_n 0, 1) := by decide +kernel
theorem d12_26 : decode jdk_42_method_66_code 26 = .ok (.getfield 15, 3) := by decide +kernel
theorem d12_29 : decode jdk_42_method_66_code 29 = .ok (.aload_n 2, 1) := by decide +kernel
theorem d12_30 : decode jdk_42_method_66_code 30 = .ok (.getfield 15, 3) := by decide +kernel
theorem d12_33 : decode jdk_42_method_66_code 33 = .ok (.if_icmp .ne 21, 3) := by decide +kernel
theorem d12_36 : decode jdk_42_method_66_code 36 = .ok (.aload_n 0, 1) := by decide +kernel
theorem d12_37 : decode jdk_42_method_66_code 37 = .ok (.getfield 9, 3) := by decide +kernel
theorem d12_40 : decode jdk_42_method_66_code 40 = .ok (.aload_n 2, 1) := by decide +kernel
theorem d12_41 : decode jdk_42_method_66_code 41 = .ok (.getfield 9, 3) := by decide +kernel
theorem d12_44 : decode jdk_42_method_66_code 44 = .ok (.invokestatic 541, 3) := by decide +kernel
theorem d12_47 : decode jdk_42_method_66_code 47 = .ok (.ifCond .eq 7, 3) := by decide +kernel
theorem d12_50 : decode jdk_42_method_66_code 50 = .ok (.iconst 1, 1) := by decide +kernel
theorem d12_51 : decode jdk_42_method_66_code 51 = .ok (.goto 4, 3) := by decide +kernel
theorem d12_54 : decode jdk_42_method_66_code 54 = .ok (.iconst 0, 1) := by decide +kernel
theorem d12_55 : decode jdk_42_method_66_code 55 = .ok (.ireturn, 1) := by decide +kernel
theorem pn_12 : plainName "java/lang/String" = true := by first | (simp [plainName, overriddenIn]; done) | decide +kernel
theorem pd_13 : parseMethodDescriptor "([B[B)Z" = some ⟨[(.array .byte), (.array .byte)], some .boolean⟩ := by decide +kernel
theorem d1_0 : decode prog_13_method_5_code 0 = .ok (.iload_n 1, 1) := by decide +kernel
theorem d1_1 : decode prog_13_method_5_code 1 = .ok (.ifCond .eq 17, 3) := by decide +kernel
theorem d1_4 : decode prog_13_method_5_code 4 = .ok (.aload_n 0, 1) := by decide +kernel
theorem d1_5 : decode prog_13_method_5_code 5 = .ok (.getfield 29, 3) := by decide +kernel
theorem d1_8 : decode prog_13_method_5_code 8 = .ok (.ldc 33, 2) := by decide +kernel
theorem d1_10 : decode prog_13_method_5_code 10 = .ok (.ldc 35, 2) := by decide +kernel
theorem d1_12 : decode prog_13_method_5_code 12 = .ok (.ldc 37, 2) := by decide +kernel
theorem d1_14 : decode prog_13_method_5_code 14 = .ok (.invokestatic 39, 3) := by decide +kernel
theorem d1_17 : decode prog_13_method_5_code 17 = .ok (.areturn, 1) := by decide +kernel
theorem d1_18 : decode prog_13_method_5_code 18 = .ok (.aload_n 0, 1) := by decide +kernel
theorem d1_19 : decode prog_13_method_5_code 19 = .ok (.getfield 29, 3) := by decide +kernel
theorem d1_22 : decode prog_13_method_5_code 22 = .ok (.ldc 33, 2) := by decide +kernel
theorem d1_24 : decode prog_13_method_5_code 24 = .ok (.ldc 35, 2) := by decide +kernel
theorem d1_26 : decode prog_13_method_5_code 26 = .ok (.invokestatic 45, 3) := by decide +kernel
theorem d1_29 : decode prog_13_method_5_code 29 = .ok (.areturn, 1) := by decide +kernel
theorem pn_14 : plainName "com/example/leaklint/leaklint/GrantListHeader" = true := by first | (simp [plainName, overriddenIn]; done) | decide +kernel
theorem pd_15 : parseMethodDescriptor "(Ljava/lang/Object;Ljava/lang/Object;Ljava/lang/Object;)Ljava/util/List;" = some ⟨[(.object "java/lang/Object"), (.object "java/lang/Object"), (.object "java/lang/Object")], some (.object "java/util/List")⟩ := by decide +kernel
theorem pd_16 : parseMethodDescriptor "(Ljava/lang/Object;Ljava/lang/Object;Ljava/lang/Object;Ljava/lang/Object;)Ljava/util/List;" = some ⟨[(.object "java/lang/Object"), (.object "java/lang/Object"), (.object "java/lang/Object"), (.object "java/lang/Object")], some (.object "java/util/List")⟩ := by decide +kernel
theorem pn_17 : plainName "com/example/leaklint/leaklint/GrantListHeaderFieldsPinLaw" = true := by first | (simp [plainName, overriddenIn]; done) | decide +kernel
theorem pd_18 : parseMethodDescriptor "(Z)Ljava/util/List;" = some ⟨[.boolean], some (.object "java/util/List")⟩ := by decide +kernel
theorem pd_19 : parseMethodDescriptor "()I" = some ⟨[], some .int⟩ := by decide +kernel
theorem pd_20 : parseMethodDescriptor "(I)Ljava/lang/Object;" = some ⟨[.int], some (.object "java/lang/Object")⟩ := by decide +kernel
theorem pd_21 : parseMethodDescriptor "(Ljava/lang/Object;)Z" = some ⟨[(.object "java/lang/Object")], some .boolean⟩ := by decide +kernel
theorem own_wS {Z : State} {a0 : Array Value} (hw : ∀ d ∈ tables_1, d.before a0 Z = true) : ∀ a ∈ Bundle.stringAtoms, a.before a0 Z = true := by
  intro d hd
  simp only [Bundle.stringAtoms, List.mem_cons, List.not_mem_nil, or_false] at hd
  rcases hd with rfl | rfl | rfl | rfl | rfl | rfl | rfl
  · first | exact (wd hw 11 rfl) | exact (wd hw 12 rfl) | exact (wd hw 13 rfl) | exact (wd hw 14 rfl) | exact (wd hw 15 rfl) | exact (wd hw 16 rfl) | exact (wd hw 17 rfl)
  · first | exact (wd hw 11 rfl) | exact (wd hw 12 rfl) | exact (wd hw 13 rfl) | exact (wd hw 14 rfl) | exact (wd hw 15 rfl) | exact (wd hw 16 rfl) | exact (wd hw 17 rfl)
  · first | exact (wd hw 11 rfl) | exact (wd hw 12 rfl) | exact (wd hw 13 rfl) | exact (wd hw 14 rfl) | exact (wd hw 15 rfl) | exact (wd hw 16 rfl) | exact (wd hw 17 rfl)
  · first | exact (wd hw 11 rfl) | exact (wd hw 12 rfl) | exact (wd hw 13 rfl) | exact (wd hw 14 rfl) | exact (wd hw 15 rfl) | exact (wd hw 16 rfl) | exact (wd hw 17 rfl)
  · first | exact (wd hw 11 rfl) | exact (wd hw 12 rfl) | exact (wd hw 13 rfl) | exact (wd hw 14 rfl) | exact (wd hw 15 rfl) | exact (wd hw 16 rfl) | exact (wd hw 17 rfl)
  · first | exact (wd hw 11 rfl) | exact (wd hw 12 rfl) | exact (wd hw 13 rfl) | exact (wd hw 14 rfl) | exact (wd hw 15 rfl) | exact (wd hw 16 rfl) | exact (wd hw 17 rfl)
  · first | exact (wd hw 11 rfl) | exact (wd hw 12 rfl) | exact (wd hw 13 rfl) | exact (wd hw 14 rfl) | exact (wd hw 15 rfl) | exact (wd hw 16 rfl) | exact (wd hw 17 rfl)
theorem own_EW {Z : State} {a0 : Array Value} (hw : ∀ d ∈ tables_1, d.before a0 Z = true) : EW Z a0 consts_1 := (EW.cons (wd hw 10 rfl) (by decide) (EW.cons (wd hw 18 rfl) (by decide) (EW.cons (wd hw 19 rfl) (by decide) (EW.cons (wd hw 108 rfl) (by decide) (EW.cons (wd hw 77 rfl) (by decide) (EW.cons (wd hw 100 rfl) (by decide) (EW.cons (wd hw 101 rfl) (by decide) (EW.cons (wd hw 102 rfl) (by decide) EW.nil))))))))
theorem ef_8 (m : MethodId) (x0 : Addr) : entryFrame m #[(.ref x0)] 1 = mkF m 0 #[.val (.ref x0)] [] := by first | (simp [entryFrame, mkF, argsToLocals, Value.category]; done) | rfl
def Q8 (Z : State) (a1 : Addr) (h0 : Heap) (n0 : Nat) (v : Option Value) (h : Heap) (L : List Loc) : Prop := v = none ∧ Fr n0 L ∧ h = h0
set_option maxRecDepth 65536 in
set_option maxHeartbeats 40000000 in
theorem rm8 (l : Launch) (Z : State) (a0 : Array Value) (hw : ∀ d ∈ tables_1, d.before a0 Z = true) (ws : List Jvm.Cond) (a1 : Addr) (h0 : Heap) (n0 : Nat) (Z0 : n0 ≤ h0.size)  :
    MetFree l (⟨"java/util/AbstractCollection", "<init>", "()V"⟩ : MethodName) (head1 (Jvm.Cond.code (⟨"java/util/AbstractCollection", "<init>", "()V"⟩ : MethodName) jdk_22_method_1_code 1 none :: ws) ({ frames := 1, cells := 0, slots := 0, locals := 12 } : Room)) (fun a U => a = #[(.ref a1)] ∧ Z.Warmed39 U.vm ∧ U.heap = h0) (fun _ _ _ _ _ => True) (fun _ U o U' => ∃ v L, o = .returned v ∧ Q8 Z a1 h0 n0 v U'.heap L ∧ FrameEnd U o U' L ({ frames := 1, cells := 0, slots := 0, locals := 12 } : Room).cells ({ frames := 1, cells := 0, slots := 0, locals := 12 } : Room).slots) := by
  refine MetFree.of_bodySF (plainFor_of_name pn_0) hisR ?_
  intro p e s m args below meth c s₁ Bd hml0 hP hK
  obtain ⟨rfl, hZ, hh⟩ := hP
  have hx := Bd.exec
  have hby := Bd.bytes
  have hml : c.maxLocals = 1 := hml0
  have hown : s.vm.findClass "java/util/AbstractCollection" = some m.cls := findClass_of_methodNamed Bd.named
  have hnm := (name_of_methodNamed Bd.named Bd.method).1
  have hlocks : meth.locks = false := BodyLoose.notSynchronized Bd
  have X0 : Stand p l e ({ frames := 1, cells := 0, slots := 0, locals := 12 } : Room) s m #[(.ref a1)] below meth c s₁ [] 0 0 := Stand.of_body Bd
  have e0 : s₁.heap = h0 := by rw [← hh, Bd.state]; rfl
  have N0 := Fr.nil n0
  show Goes p e below (s₁.setTop (entryFrame m #[(.ref a1)] 1)) (Fin s (Q8 Z a1 h0 n0) ({ frames := 1, cells := 0, slots := 0, locals := 12 } : Room).cells ({ frames := 1, cells := 0, slots := 0, locals := 12 } : Room).slots)
  refine Goes.of (fun t k => castTop (ef_8 m a1) k) ?_
  show Goes p e below (s₁.setTop (mkF m 0 #[.val (.ref a1)] [])) _
  refine Goes.of (fun t k => XS.aloadN X0.here hx rfl (hb hby d8_0) rfl rfl k) ?_
  obtain ⟨T1, X1, e1, st1⟩ := initO X0 hx hZ hown (wd hw 61 rfl) (wd hw 62 rfl) (wd hw 63 rfl) e0 (g := (mkF m 1 #[.val (.ref a1)] [(.ref a1)])) rfl (by rw [hml]; rfl) rfl (hb hby d8_1) (by decide) (W := 0) (by show 2 * 0 + _ ≤ _; exact Nat.le_of_eq rfl) (by decide)
  refine Goes.of st1 ?_
  show Goes p e below (T1.setTop (mkF m 4 #[.val (.ref a1)] [])) _
  exact Goes.retV X1 hx Bd.returns hlocks (hb hby d8_4) (⟨rfl, N0, e1⟩) (by decide) (by decide)
theorem ef_7 (m : MethodId) (x0 : Addr) : entryFrame m #[(.ref x0)] 1 = mkF m 0 #[.val (.ref x0)] [] := by first | (simp [entryFrame, mkF, argsToLocals, Value.category]; done) | rfl
def Q7 (Z : State) (a1 : Addr) (h0 : Heap) (n0 : Nat) (v : Option Value) (h : Heap) (L : List Loc) : Prop := v = none ∧ Fr n0 L ∧ h = h0
set_option maxRecDepth 65536 in
set_option maxHeartbeats 40000000 in
theorem rm7 (l : Launch) (Z : State) (a0 : Array Value) (hw : ∀ d ∈ tables_1, d.before a0 Z = true) (ws : List Jvm.Cond) (a1 : Addr) (h0 : Heap) (n0 : Nat) (Z0 : n0 ≤ h0.size)  :
    MetFree l (⟨"java/util/ImmutableCollections$AbstractImmutableCollection", "<init>", "()V"⟩ : MethodName) (head1 (Jvm.Cond.code (⟨"java/util/ImmutableCollections$AbstractImmutableCollection", "<init>", "()V"⟩ : MethodName) jdk_47_method_1_code 1 none :: ws) ({ frames := 2, cells := 0, slots := 0, locals := 24 } : Room)) (fun a U => a = #[(.ref a1)] ∧ Z.Warmed39 U.vm ∧ U.heap = h0) (fun _ _ _ _ _ => True) (fun _ U o U' => ∃ v L, o = .returned v ∧ Q7 Z a1 h0 n0 v U'.heap L ∧ FrameEnd U o U' L ({ frames := 2, cells := 0, slots := 0, locals := 24 } : Room).cells ({ frames := 2, cells := 0, slots := 0, locals := 24 } : Room).slots) := by
  refine MetFree.of_bodySF (plainFor_of_name pn_1) hisR ?_
  intro p e s m args below meth c s₁ Bd hml0 hP hK
  obtain ⟨rfl, hZ, hh⟩ := hP
  have hx := Bd.exec
  have hby := Bd.bytes
  have hml : c.maxLocals = 1 := hml0
  have hown : s.vm.findClass "java/util/ImmutableCollections$AbstractImmutableCollection" = some m.cls := findClass_of_methodNamed Bd.named
  have hnm := (name_of_methodNamed Bd.named Bd.method).1
  have hlocks : meth.locks = false := BodyLoose.notSynchronized Bd
  have X0 : Stand p l e ({ frames := 2, cells := 0, slots := 0, locals := 24 } : Room) s m #[(.ref a1)] below meth c s₁ [] 0 0 := Stand.of_body Bd
  have e0 : s₁.heap = h0 := by rw [← hh, Bd.state]; rfl
  have N0 := Fr.nil n0
  show Goes p e below (s₁.setTop (entryFrame m #[(.ref a1)] 1)) (Fin s (Q7 Z a1 h0 n0) ({ frames := 2, cells := 0, slots := 0, locals := 24 } : Room).cells ({ frames := 2, cells := 0, slots := 0, locals := 24 } : Room).slots)
  refine Goes.of (fun t k => castTop (ef_7 m a1) k) ?_
  show Goes p e below (s₁.setTop (mkF m 0 #[.val (.ref a1)] [])) _
  refine Goes.of (fun t k => XS.aloadN X0.here hx rfl (hb hby d7_0) rfl rfl k) ?_
  obtain ⟨_, _, ⟨T2, L2, k2, n2⟩, -, X2, ⟨Lc2, hQ2, l2, y2, z2⟩, st2⟩ := X0.specialBack hx (y := (⟨"java/util/AbstractCollection", "<init>", "()V"⟩ : MethodName)) rfl hown (mvT hZ (wd hw 55 rfl)) (mvT hZ (wd hw 56 rfl)) (mvT hZ (wd hw 60 rfl)) (by decide) (backOf (W := 0) (rm8 l Z a0 hw [] a1  h0 n0 Z0 ) hZ (wd hw 60 rfl) (wd hw 59 rfl) (by decide) (by decide)) (g := (mkF m 1 #[.val (.ref a1)] [(.ref a1)])) rfl (by rw [hml]; rfl) (Steps.refl _) (a := a1) (argsL := []) (rest := []) (lenOf pd_2 rfl) rfl (by show 2 * 0 + _ ≤ _; exact Nat.le_of_eq rfl) (hb hby d7_1) (fun _ _ => ⟨rfl, e0, (by decide : 0 + 0 ≤ _), (by decide : 0 + 0 ≤ _)⟩)
  dsimp only [Pt.U, Pt.locs, Pt.cells, Pt.slots] at X2 l2 y2 z2 st2 hQ2
  subst l2 y2 z2
  obtain ⟨rfl, N2q, e2⟩ := hQ2
  have N2 := Fr.app N0 N2q
  refine Goes.of (fun t k => st2.trans k) ?_
  show Goes p e below (T2.setTop (mkF m 4 #[.val (.ref a1)] [])) _
  exact Goes.retV X2 hx Bd.returns hlocks (hb hby d7_4) (⟨rfl, N2, e2⟩) (by decide) (by decide)
theorem ef_6 (m : MethodId) (x0 : Addr) : entryFrame m #[(.ref x0)] 1 = mkF m 0 #[.val (.ref x0)] [] := by first | (simp [entryFrame, mkF, argsToLocals, Value.category]; done) | rfl
def Q6 (Z : State) (a1 : Addr) (h0 : Heap) (n0 : Nat) (v : Option Value) (h : Heap) (L : List Loc) : Prop := v = none ∧ Fr n0 L ∧ h = h0
set_option maxRecDepth 65536 in
set_option maxHeartbeats 40000000 in
theorem rm6 (l : Launch) (Z : State) (a0 : Array Value) (hw : ∀ d ∈ tables_1, d.before a0 Z = true) (ws : List Jvm.Cond) (a1 : Addr) (h0 : Heap) (n0 : Nat) (Z0 : n0 ≤ h0.size)  :
    MetFree l (⟨"java/util/ImmutableCollections$AbstractImmutableList", "<init>", "()V"⟩ : MethodName) (head1 (Jvm.Cond.code (⟨"java/util/ImmutableCollections$AbstractImmutableList", "<init>", "()V"⟩ : MethodName) jdk_46_method_1_code 1 none :: ws) ({ frames := 3, cells := 0, slots := 0, locals := 36 } : Room)) (fun a U => a = #[(.ref a1)] ∧ Z.Warmed39 U.vm ∧ U.heap = h0) (fun _ _ _ _ _ => True) (fun _ U o U' => ∃ v L, o = .returned v ∧ Q6 Z a1 h0 n0 v U'.heap L ∧ FrameEnd U o U' L ({ frames := 3, cells := 0, slots := 0, locals := 36 } : Room).cells ({ frames := 3, cells := 0, slots := 0, locals := 36 } : Room).slots) := by
  refine MetFree.of_bodySF (plainFor_of_name pn_3) hisR ?_
  intro p e s m args below meth c s₁ Bd hml0 hP hK
  obtain ⟨rfl, hZ, hh⟩ := hP
  have hx := Bd.exec
  have hby := Bd.bytes
  have hml : c.maxLocals = 1 := hml0
  have hown : s.vm.findClass "java/util/ImmutableCollections$AbstractImmutableList" = some m.cls := findClass_of_methodNamed Bd.named
  have hnm := (name_of_methodNamed Bd.named Bd.method).1
  have hlocks : meth.locks = false := BodyLoose.notSynchronized Bd
  have X0 : Stand p l e ({ frames := 3, cells := 0, slots := 0, locals := 36 } : Room) s m #[(.ref a1)] below meth c s₁ [] 0 0 := Stand.of_body Bd
  have e0 : s₁.heap = h0 := by rw [← hh, Bd.state]; rfl
  have N0 := Fr.nil n0
  show Goes p e below (s₁.setTop (entryFrame m #[(.ref a1)] 1)) (Fin s (Q6 Z a1 h0 n0) ({ frames := 3, cells := 0, slots := 0, locals := 36 } : Room).cells ({ frames := 3, cells := 0, slots := 0, locals := 36 } : Room).slots)
  refine Goes.of (fun t k => castTop (ef_6 m a1) k) ?_
  show Goes p e below (s₁.setTop (mkF m 0 #[.val (.ref a1)] [])) _
  refine Goes.of (fun t k => XS.aloadN X0.here hx rfl (hb hby d6_0) rfl rfl k) ?_
  obtain ⟨_, _, ⟨T3, L3, k3, n3⟩, -, X3, ⟨Lc3, hQ3, l3, y3, z3⟩, st3⟩ := X0.specialBack hx (y := (⟨"java/util/ImmutableCollections$AbstractImmutableCollection", "<init>", "()V"⟩ : MethodName)) rfl hown (mvT hZ (wd hw 49 rfl)) (mvT hZ (wd hw 50 rfl)) (mvT hZ (wd hw 54 rfl)) (by decide) (backOf (W := 0) (rm7 l Z a0 hw [] a1  h0 n0 Z0 ) hZ (wd hw 54 rfl) (wd hw 53 rfl) (by decide) (by decide)) (g := (mkF m 1 #[.val (.ref a1)] [(.ref a1)])) rfl (by rw [hml]; rfl) (Steps.refl _) (a := a1) (argsL := []) (rest := []) (lenOf pd_2 rfl) rfl (by show 2 * 0 + _ ≤ _; exact Nat.le_of_eq rfl) (hb hby d6_1) (fun _ _ => ⟨rfl, e0, (by decide : 0 + 0 ≤ _), (by decide : 0 + 0 ≤ _)⟩)
  dsimp only [Pt.U, Pt.locs, Pt.cells, Pt.slots] at X3 l3 y3 z3 st3 hQ3
  subst l3 y3 z3
  obtain ⟨rfl, N3q, e3⟩ := hQ3
  have N3 := Fr.app N0 N3q
  refine Goes.of (fun t k => st3.trans k) ?_
  show Goes p e below (T3.setTop (mkF m 4 #[.val (.ref a1)] [])) _
  exact Goes.retV X3 hx Bd.returns hlocks (hb hby d6_4) (⟨rfl, N3, e3⟩) (by decide) (by decide)
theorem ef_5 (m : MethodId) (x0 : Addr) (x1 : Addr) (x2 : Int32) : entryFrame m #[(.ref x0), (.ref x1), (.int x2)] 3 = mkF m 0 #[.val (.ref x0), .val (.ref x1), .val (.int x2)] [] := by first | (simp [entryFrame, mkF, argsToLocals, Value.category]; done) | rfl
def Q5 (Z : State) (a1 : Addr) (a2 : Addr) (h0 : Heap) (n0 : Nat) (v : Option Value) (h : Heap) (L : List Loc) : Prop := v = none ∧ Fr n0 L ∧ Keep h0 h [a1] ∧ Exa Z h a1 "java/util/ImmutableCollections$ListN" ∧ Fld Z h a1 "java/util/ImmutableCollections$ListN" "elements" "[Ljava/lang/Object;" (.ref a2) ∧ Fld Z h a1 "java/util/ImmutableCollections$ListN" "allowNulls" "Z" (.int (0 : Int32))
set_option maxRecDepth 65536 in
set_option maxHeartbeats 40000000 in
theorem rm5 (l : Launch) (Z : State) (a0 : Array Value) (hw : ∀ d ∈ tables_1, d.before a0 Z = true) (ws : List Jvm.Cond) (a1 : Addr) (a2 : Addr) (h0 : Heap) (n0 : Nat) (Z0 : n0 ≤ h0.size) (E : Exa Z h0 a1 "java/util/ImmutableCollections$ListN") (F_elements : Fld Z h0 a1 "java/util/ImmutableCollections$ListN" "elements" "[Ljava/lang/Object;" .null) (F_allowNulls : Fld Z h0 a1 "java/util/ImmutableCollections$ListN" "allowNulls" "Z" (.int (0 : Int32))) (g : n0 ≤ a1) :
    MetFree l (⟨"java/util/ImmutableCollections$ListN", "<init>", "([Ljava/lang/Object;Z)V"⟩ : MethodName) (head1 (Jvm.Cond.code (⟨"java/util/ImmutableCollections$ListN", "<init>", "([Ljava/lang/Object;Z)V"⟩ : MethodName) jdk_45_method_1_code 3 none :: ws) ({ frames := 4, cells := 0, slots := 0, locals := 48 } : Room)) (fun a U => a = #[(.ref a1), (.ref a2), (.int (0 : Int32))] ∧ Z.Warmed39 U.vm ∧ U.heap = h0) (fun _ _ _ _ _ => True) (fun _ U o U' => ∃ v L, o = .returned v ∧ Q5 Z a1 a2 h0 n0 v U'.heap L ∧ FrameEnd U o U' L ({ frames := 4, cells := 0, slots := 0, locals := 48 } : Room).cells ({ frames := 4, cells := 0, slots := 0, locals := 48 } : Room).slots) := by
  refine MetFree.of_bodySF (plainFor_of_name pn_4) hisR ?_
  intro p e s m args below meth c s₁ Bd hml0 hP hK
  obtain ⟨rfl, hZ, hh⟩ := hP
  have hx := Bd.exec
  have hby := Bd.bytes
  have hml : c.maxLocals = 3 := hml0
  have hown : s.vm.findClass "java/util/ImmutableCollections$ListN" = some m.cls := findClass_of_methodNamed Bd.named
  have hnm := (name_of_methodNamed Bd.named Bd.method).1
  have hlocks : meth.locks = false := BodyLoose.notSynchronized Bd
  have X0 : Stand p l e ({ frames := 4, cells := 0, slots := 0, locals := 48 } : Room) s m #[(.ref a1), (.ref a2), (.int (0 : Int32))] below meth c s₁ [] 0 0 := Stand.of_body Bd
  have e0 : s₁.heap = h0 := by rw [← hh, Bd.state]; rfl
  have N0 := Fr.nil n0
  show Goes p e below (s₁.setTop (entryFrame m #[(.ref a1), (.ref a2), (.int (0 : Int32))] 3)) (Fin s (Q5 Z a1 a2 h0 n0) ({ frames := 4, cells := 0, slots := 0, locals := 48 } : Room).cells ({ frames := 4, cells := 0, slots := 0, locals := 48 } : Room).slots)
  refine Goes.of (fun t k => castTop (ef_5 m a1 a2 (0 : Int32)) k) ?_
  have K0 : Keep h0 h0 [a1] := Keep.refl _ _
  show Goes p e below (s₁.setTop (mkF m 0 #[.val (.ref a1), .val (.ref a2), .val (.int (0 : Int32))] [])) _
  refine Goes.of (fun t k => XS.aloadN X0.here hx rfl (hb hby d5_0) rfl rfl k) ?_
  obtain ⟨_, _, ⟨T4, L4, k4, n4⟩, -, X4, ⟨Lc4, hQ4, l4, y4, z4⟩, st4⟩ := X0.specialBack hx (y := (⟨"java/util/ImmutableCollections$AbstractImmutableList", "<init>", "()V"⟩ : MethodName)) rfl hown (mvT hZ (wd hw 43 rfl)) (mvT hZ (wd hw 44 rfl)) (mvT hZ (wd hw 48 rfl)) (by decide) (backOf (W := 0) (rm6 l Z a0 hw [] a1  h0 n0 Z0 ) hZ (wd hw 48 rfl) (wd hw 47 rfl) (by decide) (by decide)) (g := (mkF m 1 #[.val (.ref a1), .val (.ref a2), .val (.int (0 : Int32))] [(.ref a1)])) rfl (by rw [hml]; rfl) (Steps.refl _) (a := a1) (argsL := []) (rest := []) (lenOf pd_2 rfl) rfl (by show 2 * 0 + _ ≤ _; exact Nat.le_of_eq rfl) (hb hby d5_1) (fun _ _ => ⟨rfl, e0, (by decide : 0 + 0 ≤ _), (by decide : 0 + 0 ≤ _)⟩)
  dsimp only [Pt.U, Pt.locs, Pt.cells, Pt.slots] at X4 l4 y4 z4 st4 hQ4
  subst l4 y4 z4
  obtain ⟨rfl, N4q, e4⟩ := hQ4
  have N4 := Fr.app N0 N4q
  refine Goes.of (fun t k => st4.trans k) ?_
  show Goes p e below (T4.setTop (mkF m 4 #[.val (.ref a1), .val (.ref a2), .val (.int (0 : Int32))] [])) _
  refine Goes.of (fun t k => XS.aloadN X4.here hx rfl (hb hby d5_4) rfl rfl k) ?_
  show Goes p e below (T4.setTop (mkF m 5 #[.val (.ref a1), .val (.ref a2), .val (.int (0 : Int32))] [(.ref a1)])) _
  refine Goes.of (fun t k => XS.aloadN X4.here hx rfl (hb hby d5_5) rfl rfl k) ?_
  obtain ⟨T5, h5, X5, e5, W5, st5⟩ := putF X4 hx hZ hown (host := "") (Or.inl (wd hw 64 rfl)) Via.refl e4 F_elements E (Or.inr ⟨(wd hw 65 rfl), rfl, hnm⟩) (wd hw 37 rfl) (ty := (.array (.object "java/lang/Object"))) (by decide) rfl rfl (g := (mkF m 6 #[.val (.ref a1), .val (.ref a2), .val (.int (0 : Int32))] [(.ref a2), (.ref a1)])) rfl rfl (hb hby d5_6)
  have f6 := F_elements.same W5
  have K7 : Keep h0 h5 [a1] := K0.wr W5 (Or.inl (List.mem_of_getElem? (i := 0) rfl))
  have z8 := Nat.le_trans Z0 (Keep.of_wr W5).1
  have f9 := E.wr W5
  have f11 := F_allowNulls.other W5 (Or.inr (slot_ne (Or.inr (wd hw 67 rfl)) (Or.inr (wd hw 65 rfl)) (by decide) (t := .boolean) (t' := (.array (.object "java/lang/Object"))) (by decide) (by decide)))
  have N5 := Fr.snoc X5 N4 g
  refine Goes.of st5 ?_
  show Goes p e below (T5.setTop (mkF m 9 #[.val (.ref a1), .val (.ref a2), .val (.int (0 : Int32))] [])) _
  refine Goes.of (fun t k => XS.aloadN X5.here hx rfl (hb hby d5_9) rfl rfl k) ?_
  show Goes p e below (T5.setTop (mkF m 10 #[.val (.ref a1), .val (.ref a2), .val (.int (0 : Int32))] [(.ref a1)])) _
  refine Goes.of (fun t k => XS.iloadN X5.here hx rfl (hb hby d5_10) rfl k) ?_
  obtain ⟨T12, h12, X12, e12, W12, st12⟩ := putFN X5 hx hZ hown (wd hw 66 rfl) Via.refl e5 f11 f9 (Or.inr ⟨(wd hw 67 rfl), rfl, hnm⟩) (wd hw 37 rfl) (ty := .boolean) (v' := (.int (0 : Int32))) (by decide) rfl (by decide) (g := (mkF m 11 #[.val (.ref a1), .val (.ref a2), .val (.int (0 : Int32))] [(.int (0 : Int32)), (.ref a1)])) rfl rfl (hb hby d5_11)
  have f13 := f11.same W12
  have K14 : Keep h0 h12 [a1] := K7.wr W12 (Or.inl (List.mem_of_getElem? (i := 0) rfl))
  have z15 := Nat.le_trans z8 (Keep.of_wr W12).1
  have f16 := f9.wr W12
  have f17 := f6.other W12 (Or.inr (slot_ne (Or.inr (wd hw 65 rfl)) (Or.inr (wd hw 67 rfl)) (by decide) (t := (.array (.object "java/lang/Object"))) (t' := .boolean) (by decide) (by decide)))
  have N12 := Fr.snoc X12 N5 g
  refine Goes.of st12 ?_
  show Goes p e below (T12.setTop (mkF m 14 #[.val (.ref a1), .val (.ref a2), .val (.int (0 : Int32))] [])) _
  have eh : T12.heap = h12 := e12
  exact Goes.retV X12 hx Bd.returns hlocks (hb hby d5_14) (⟨rfl, N12, by rw [eh]; exact K14, by rw [eh]; exact f16, by rw [eh]; exact f17, by rw [eh]; exact f13⟩) (by decide) (by decide)
theorem ef_4 (m : MethodId) (x0 : Addr) : entryFrame m #[(.ref x0)] 1 = mkF m 0 #[.val (.ref x0)] [] := by first | (simp [entryFrame, mkF, argsToLocals, Value.category]; done) | rfl
def Q4 (Z : State) (a1 : Addr) (h0 : Heap) (n0 : Nat) (v : Option Value) (h : Heap) (L : List Loc) : Prop := v = some (.ref a1) ∧ Fr n0 L ∧ h = h0
set_option maxRecDepth 65536 in
set_option maxHeartbeats 40000000 in
theorem rm4 (l : Launch) (Z : State) (a0 : Array Value) (hw : ∀ d ∈ tables_1, d.before a0 Z = true) (ws : List Jvm.Cond) (a1 : Addr) (h0 : Heap) (n0 : Nat) (Z0 : n0 ≤ h0.size)  :
    MetFree l (⟨"java/util/Objects", "requireNonNull", "(Ljava/lang/Object;)Ljava/lang/Object;"⟩ : MethodName) (head1 (Jvm.Cond.code (⟨"java/util/Objects", "requireNonNull", "(Ljava/lang/Object;)Ljava/lang/Object;"⟩ : MethodName) jdk_31_method_10_code 1 (some (.object "java/lang/Object")) :: ws) ({ frames := 0, cells := 0, slots := 0, locals := 0 } : Room)) (fun a U => a = #[(.ref a1)] ∧ Z.Warmed39 U.vm ∧ U.heap = h0) (fun _ _ _ _ _ => True) (fun _ U o U' => ∃ v L, o = .returned v ∧ Q4 Z a1 h0 n0 v U'.heap L ∧ FrameEnd U o U' L ({ frames := 0, cells := 0, slots := 0, locals := 0 } : Room).cells ({ frames := 0, cells := 0, slots := 0, locals := 0 } : Room).slots) := by
  refine MetFree.of_bodySF (plainFor_of_name pn_5) hisR ?_
  intro p e s m args below meth c s₁ Bd hml0 hP hK
  obtain ⟨rfl, hZ, hh⟩ := hP
  have hx := Bd.exec
  have hby := Bd.bytes
  have hml : c.maxLocals = 1 := hml0
  have hown : s.vm.findClass "java/util/Objects" = some m.cls := findClass_of_methodNamed Bd.named
  have hnm := (name_of_methodNamed Bd.named Bd.method).1
  have hlocks : meth.locks = false := BodyLoose.notSynchronized Bd
  have X0 : Stand p l e ({ frames := 0, cells := 0, slots := 0, locals := 0 } : Room) s m #[(.ref a1)] below meth c s₁ [] 0 0 := Stand.of_body Bd
  have e0 : s₁.heap = h0 := by rw [← hh, Bd.state]; rfl
  have N0 := Fr.nil n0
  show Goes p e below (s₁.setTop (entryFrame m #[(.ref a1)] 1)) (Fin s (Q4 Z a1 h0 n0) ({ frames := 0, cells := 0, slots := 0, locals := 0 } : Room).cells ({ frames := 0, cells := 0, slots := 0, locals := 0 } : Room).slots)
  refine Goes.of (fun t k => castTop (ef_4 m a1) k) ?_
  show Goes p e below (s₁.setTop (mkF m 0 #[.val (.ref a1)] [])) _
  refine Goes.of (fun t k => XS.aloadN X0.here hx rfl (hb hby d4_0) rfl rfl k) ?_
  show Goes p e below (s₁.setTop (mkF m 1 #[.val (.ref a1)] [(.ref a1)])) _
  refine Goes.of (fun t k => XS.ifnonnullYes X0.here hx rfl (pc0 := 1) (pc' := 12) rfl (hb hby d4_1) rfl (by decide) (by decide) k) ?_
  show Goes p e below (s₁.setTop (mkF m 12 #[.val (.ref a1)] [])) _
  refine Goes.of (fun t k => XS.aloadN X0.here hx rfl (hb hby d4_12) rfl rfl k) ?_
  show Goes p e below (s₁.setTop (mkF m 13 #[.val (.ref a1)] [(.ref a1)])) _
  exact Goes.retA X0 hx (by rfl) Bd.returns (by rfl) hlocks (hb hby d4_13) (⟨rfl, N0, e0⟩) (by decide) (by decide)
theorem ef_3 (m : MethodId) (x0 : Addr) : entryFrame m #[(.ref x0)] 5 = mkF m 0 #[.val (.ref x0), .unset, .unset, .unset, .unset] [] := by first | (simp [entryFrame, mkF, argsToLocals, Value.category]; done) | rfl
def Q3 (Z : State) (a1 : Addr) (k : ClassId) (x0 : Addr) (x1 : Addr) (x2 : Addr) (h0 : Heap) (n0 : Nat) (v : Option Value) (h : Heap) (L : List Loc) : Prop := ∃ b : Addr, v = some (.ref b) ∧ Fr n0 L ∧ Keep h0 h [] ∧ h0.size ≤ b ∧ Exa Z h b "java/util/ImmutableCollections$ListN" ∧ Fld Z h b "java/util/ImmutableCollections$ListN" "elements" "[Ljava/lang/Object;" (.ref a1)
set_option maxRecDepth 65536 in
set_option maxHeartbeats 40000000 in
theorem rm3 (l : Launch) (Z : State) (a0 : Array Value) (hw : ∀ d ∈ tables_1, d.before a0 Z = true) (ws : List Jvm.Cond) (a1 : Addr) (k : ClassId) (x0 : Addr) (x1 : Addr) (x2 : Addr) (h0 : Heap) (n0 : Nat) (Z0 : n0 ≤ h0.size) (O0 : Old Z n0 h0) (SA : Sta Z Z.heap "java/util/ImmutableCollections" "$assertionsDisabled" "Z" (.int 1)) (A : Arv Z h0 a1 k (.object "java/lang/Object") (3 : Int32) [(.ref x0), (.ref x1), (.ref x2)] .null) :
    MetFree l (⟨"java/util/ImmutableCollections", "listFromTrustedArray", "([Ljava/lang/Object;)Ljava/util/List;"⟩ : MethodName) (head1 (Jvm.Cond.code (⟨"java/util/ImmutableCollections", "listFromTrustedArray", "([Ljava/lang/Object;)Ljava/util/List;"⟩ : MethodName) jdk_56_method_5_code 5 (some (.object "java/util/List")) :: ws) ({ frames := 5, cells := 1, slots := 2, locals := 63 } : Room)) (fun a U => a = #[(.ref a1)] ∧ Z.Warmed39 U.vm ∧ U.heap = h0) (fun _ _ _ _ _ => True) (fun _ U o U' => ∃ v L, o = .returned v ∧ Q3 Z a1 k x0 x1 x2 h0 n0 v U'.heap L ∧ FrameEnd U o U' L ({ frames := 5, cells := 1, slots := 2, locals := 63 } : Room).cells ({ frames := 5, cells := 1, slots := 2, locals := 63 } : Room).slots) := by
  refine MetFree.of_bodySF (plainFor_of_name pn_6) hisR ?_
  intro p e s m args below meth c s₁ Bd hml0 hP hK
  obtain ⟨rfl, hZ, hh⟩ := hP
  have hx := Bd.exec
  have hby := Bd.bytes
  have hml : c.maxLocals = 5 := hml0
  have hown : s.vm.findClass "java/util/ImmutableCollections" = some m.cls := findClass_of_methodNamed Bd.named
  have hnm := (name_of_methodNamed Bd.named Bd.method).1
  have hlocks : meth.locks = false := BodyLoose.notSynchronized Bd
  have X0 : Stand p l e ({ frames := 5, cells := 1, slots := 2, locals := 63 } : Room) s m #[(.ref a1)] below meth c s₁ [] 0 0 := Stand.of_body Bd
  have e0 : s₁.heap = h0 := by rw [← hh, Bd.state]; rfl
  have N0 := Fr.nil n0
  show Goes p e below (s₁.setTop (entryFrame m #[(.ref a1)] 5)) (Fin s (Q3 Z a1 k x0 x1 x2 h0 n0) ({ frames := 5, cells := 1, slots := 2, locals := 63 } : Room).cells ({ frames := 5, cells := 1, slots := 2, locals := 63 } : Room).slots)
  refine Goes.of (fun t k => castTop (ef_3 m a1) k) ?_
  have K0 : Keep h0 h0 [] := Keep.refl _ _
  obtain ⟨T19, X19, e19, st19⟩ := getS2 X0 hx hZ hown (host := "") (Or.inl (wd hw 31 rfl)) Via.refl e0 (SA.ext O0.2) (g := (mkF m 0 #[.val (.ref a1), .unset, .unset, .unset, .unset] [])) rfl (hb hby d3_0)
  refine Goes.of st19 ?_
  show Goes p e below (T19.setTop (mkF m 3 #[.val (.ref a1), .unset, .unset, .unset, .unset] [(.int (1 : Int32))])) _
  refine Goes.of (fun t k => XS.ifYes X19.here hx rfl (pc0 := 3) (pc' := 23) rfl (hb hby d3_3) rfl ((if0 _ _).trans (feq (by decide)).2) (by decide) (by decide) k) ?_
  show Goes p e below (T19.setTop (mkF m 23 #[.val (.ref a1), .unset, .unset, .unset, .unset] [])) _
  refine Goes.of (fun t k => XS.aloadN X19.here hx rfl (hb hby d3_23) rfl rfl k) ?_
  show Goes p e below (T19.setTop (mkF m 24 #[.val (.ref a1), .unset, .unset, .unset, .unset] [(.ref a1)])) _
  refine Goes.of (fun t k => XS.astoreN X19.here hx rfl (hb hby d3_24) rfl rfl (l' := #[.val (.ref a1), .val (.ref a1), .unset, .unset, .unset]) rfl k) ?_
  show Goes p e below (T19.setTop (mkF m 25 #[.val (.ref a1), .val (.ref a1), .unset, .unset, .unset] [])) _
  refine Goes.of (fun t k => XS.aloadN X19.here hx rfl (hb hby d3_25) rfl rfl k) ?_
  have Vc20 := A
  obtain ⟨clc20, Arc20, qc20, Sc20, Nc20, Hc20, Gc20⟩ := Vc20
  refine Goes.of (X19.arraylength hx (by rw [e19]; exact Arc20.1) (State.isArrayOf_alike hZ.alike Arc20.2.1) (g := (mkF m 26 #[.val (.ref a1), .val (.ref a1), .unset, .unset, .unset] [(.ref a1)])) rfl rfl (hb hby d3_26)) ?_
  rw [len_of Sc20 Nc20]
  show Goes p e below (T19.setTop (mkF m 27 #[.val (.ref a1), .val (.ref a1), .unset, .unset, .unset] [(.int (3 : Int32))])) _
  refine Goes.of (fun t k => XS.istoreN X19.here hx rfl (hb hby d3_27) rfl (l' := #[.val (.ref a1), .val (.ref a1), .val (.int (3 : Int32)), .unset, .unset]) rfl k) ?_
  show Goes p e below (T19.setTop (mkF m 28 #[.val (.ref a1), .val (.ref a1), .val (.int (3 : Int32)), .unset, .unset] [])) _
  refine Goes.of (fun t k => XS.iconst X19.here hx rfl (hb hby d3_28) k) ?_
  show Goes p e below (T19.setTop (mkF m 29 #[.val (.ref a1), .val (.ref a1), .val (.int (3 : Int32)), .unset, .unset] [(.int (0 : Int32))])) _
  refine Goes.of (fun t k => XS.istoreN X19.here hx rfl (hb hby d3_29) rfl (l' := #[.val (.ref a1), .val (.ref a1), .val (.int (3 : Int32)), .val (.int (0 : Int32)), .unset]) rfl k) ?_
  show Goes p e below (T19.setTop (mkF m 30 #[.val (.ref a1), .val (.ref a1), .val (.int (3 : Int32)), .val (.int (0 : Int32)), .unset] [])) _
  refine Goes.of (fun t k => XS.iloadN X19.here hx rfl (hb hby d3_30) rfl k) ?_
  show Goes p e below (T19.setTop (mkF m 31 #[.val (.ref a1), .val (.ref a1), .val (.int (3 : Int32)), .val (.int (0 : Int32)), .unset] [(.int (0 : Int32))])) _
  refine Goes.of (fun t k => XS.iloadN X19.here hx rfl (hb hby d3_31) rfl k) ?_
  show Goes p e below (T19.setTop (mkF m 32 #[.val (.ref a1), .val (.ref a1), .val (.int (3 : Int32)), .val (.int (0 : Int32)), .unset] [(.int (3 : Int32)), (.int (0 : Int32))])) _
  refine Goes.of (fun t k => XS.icmpNo X19.here hx rfl (hb hby d3_32) rfl (tlt (by decide)).2.1 k) ?_
  show Goes p e below (T19.setTop (mkF m 35 #[.val (.ref a1), .val (.ref a1), .val (.int (3 : Int32)), .val (.int (0 : Int32)), .unset] [])) _
  refine Goes.of (fun t k => XS.aloadN X19.here hx rfl (hb hby d3_35) rfl rfl k) ?_
  show Goes p e below (T19.setTop (mkF m 36 #[.val (.ref a1), .val (.ref a1), .val (.int (3 : Int32)), .val (.int (0 : Int32)), .unset] [(.ref a1)])) _
  refine Goes.of (fun t k => XS.iloadN X19.here hx rfl (hb hby d3_36) rfl k) ?_
  have Vc21 := A
  obtain ⟨clc21, Arc21, qc21, Sc21, Nc21, Hc21, Gc21⟩ := Vc21
  have hin22 : ¬ ((0 : Int32) < 0 ∨ clc21.slots.size ≤ ((0 : Int32)).toNatClampNeg) := inb_of Sc21 ⟨by decide, by decide⟩
  have hat23 : clc21.slots[((0 : Int32)).toNatClampNeg]? = some (.ref x0) := Hc21.at hin22 rfl
  refine Goes.of (fun t k => X19.aaload hx (j := (0 : Int32)) (v := (.ref x0)) (by rw [e19]; exact Arc21.1) (State.isArrayOf_alike hZ.alike Arc21.2.1) rfl Arc21.2.2 hin22 hat23 (g := (mkF m 37 #[.val (.ref a1), .val (.ref a1), .val (.int (3 : Int32)), .val (.int (0 : Int32)), .unset] [(.int (0 : Int32)), (.ref a1)])) rfl rfl (hb hby d3_37) _ k) ?_
  show Goes p e below (T19.setTop (mkF m 38 #[.val (.ref a1), .val (.ref a1), .val (.int (3 : Int32)), .val (.int (0 : Int32)), .unset] [(.ref x0)])) _
  refine Goes.of (fun t k => XS.astore X19.here hx rfl (hb hby d3_38) rfl rfl (l' := #[.val (.ref a1), .val (.ref a1), .val (.int (3 : Int32)), .val (.int (0 : Int32)), .val (.ref x0)]) rfl k) ?_
  show Goes p e below (T19.setTop (mkF m 40 #[.val (.ref a1), .val (.ref a1), .val (.int (3 : Int32)), .val (.int (0 : Int32)), .val (.ref x0)] [])) _
  refine Goes.of (fun t k => XS.aload X19.here hx rfl (hb hby d3_40) rfl rfl k) ?_
  obtain ⟨_, _, ⟨T24, L24, k24, n24⟩, -, X24, ⟨Lc24, hQ24, l24, y24, z24⟩, st24⟩ := Jvm.LawKit.callS X19 hx (y := (⟨"java/util/Objects", "requireNonNull", "(Ljava/lang/Object;)Ljava/lang/Object;"⟩ : MethodName)) hown (mvT hZ (wd hw 32 rfl)) (mvT hZ (wd hw 33 rfl)) (mvT hZ (wd hw 34 rfl)) (mvT hZ (wd hw 35 rfl)) (by decide) (backOf (W := 0) (rm4 l Z a0 hw [] x0  h0 n0 Z0 ) hZ (wd hw 35 rfl) (wd hw 34 rfl) (by decide) (by decide)) (g := (mkF m 42 #[.val (.ref a1), .val (.ref a1), .val (.int (3 : Int32)), .val (.int (0 : Int32)), .val (.ref x0)] [(.ref x0)])) rfl (by rw [hml]; rfl) (argsL := [(.ref x0)]) (rest := []) (lenOf pd_7 rfl) rfl (by show 2 * 0 + _ ≤ _; exact Nat.le_of_eq rfl) (hb hby d3_42) (fun _ _ => ⟨rfl, e19, (by decide : 0 + 0 ≤ _), (by decide : 0 + 0 ≤ _)⟩)
  dsimp only [Pt.U, Pt.locs, Pt.cells, Pt.slots] at X24 l24 y24 z24 st24 hQ24
  subst l24 y24 z24
  obtain ⟨rfl, N24q, e24⟩ := hQ24
  have N24 := Fr.app N0 N24q
  refine Goes.of st24 ?_
  show Goes p e below (T24.setTop (mkF m 45 #[.val (.ref a1), .val (.ref a1), .val (.int (3 : Int32)), .val (.int (0 : Int32)), .val (.ref x0)] [(.ref x0)])) _
  refine Goes.of (fun t k => XS.pop X24.here hx rfl (hb hby d3_45) rfl rfl k) ?_
  show Goes p e below (T24.setTop (mkF m 46 #[.val (.ref a1), .val (.ref a1), .val (.int (3 : Int32)), .val (.int (0 : Int32)), .val (.ref x0)] [])) _
  refine Goes.of (fun t k => XS.iinc X24.here hx rfl (hb hby d3_46) rfl (l' := #[.val (.ref a1), .val (.ref a1), .val (.int (3 : Int32)), .val (.int (1 : Int32)), .val (.ref x0)]) rfl k) ?_
  show Goes p e below (T24.setTop (mkF m 49 #[.val (.ref a1), .val (.ref a1), .val (.int (3 : Int32)), .val (.int (1 : Int32)), .val (.ref x0)] [])) _
  refine Goes.of (fun t k => XS.goto X24.here hx rfl (pc0 := 49) (pc' := 30) rfl (hb hby d3_49) (by decide) (by decide) k) ?_
  show Goes p e below (T24.setTop (mkF m 30 #[.val (.ref a1), .val (.ref a1), .val (.int (3 : Int32)), .val (.int (1 : Int32)), .val (.ref x0)] [])) _
  refine Goes.of (fun t k => XS.iloadN X24.here hx rfl (hb hby d3_30) rfl k) ?_
  show Goes p e below (T24.setTop (mkF m 31 #[.val (.ref a1), .val (.ref a1), .val (.int (3 : Int32)), .val (.int (1 : Int32)), .val (.ref x0)] [(.int (1 : Int32))])) _
  refine Goes.of (fun t k => XS.iloadN X24.here hx rfl (hb hby d3_31) rfl k) ?_
  show Goes p e below (T24.setTop (mkF m 32 #[.val (.ref a1), .val (.ref a1), .val (.int (3 : Int32)), .val (.int (1 : Int32)), .val (.ref x0)] [(.int (3 : Int32)), (.int (1 : Int32))])) _
  refine Goes.of (fun t k => XS.icmpNo X24.here hx rfl (hb hby d3_32) rfl (tlt (by decide)).2.1 k) ?_
  show Goes p e below (T24.setTop (mkF m 35 #[.val (.ref a1), .val (.ref a1), .val (.int (3 : Int32)), .val (.int (1 : Int32)), .val (.ref x0)] [])) _
  refine Goes.of (fun t k => XS.aloadN X24.here hx rfl (hb hby d3_35) rfl rfl k) ?_
  show Goes p e below (T24.setTop (mkF m 36 #[.val (.ref a1), .val (.ref a1), .val (.int (3 : Int32)), .val (.int (1 : Int32)), .val (.ref x0)] [(.ref a1)])) _
  refine Goes.of (fun t k => XS.iloadN X24.here hx rfl (hb hby d3_36) rfl k) ?_
  have Vc25 := A
  obtain ⟨clc25, Arc25, qc25, Sc25, Nc25, Hc25, Gc25⟩ := Vc25
  have hin26 : ¬ ((1 : Int32) < 0 ∨ clc25.slots.size ≤ ((1 : Int32)).toNatClampNeg) := inb_of Sc25 ⟨by decide, by decide⟩
  have hat27 : clc25.slots[((1 : Int32)).toNatClampNeg]? = some (.ref x1) := Hc25.at hin26 rfl
  refine Goes.of (fun t k => X24.aaload hx (j := (1 : Int32)) (v := (.ref x1)) (by rw [e24]; exact Arc25.1) (State.isArrayOf_alike hZ.alike Arc25.2.1) rfl Arc25.2.2 hin26 hat27 (g := (mkF m 37 #[.val (.ref a1), .val (.ref a1), .val (.int (3 : Int32)), .val (.int (1 : Int32)), .val (.ref x0)] [(.int (1 : Int32)), (.ref a1)])) rfl rfl (hb hby d3_37) _ k) ?_
  show Goes p e below (T24.setTop (mkF m 38 #[.val (.ref a1), .val (.ref a1), .val (.int (3 : Int32)), .val (.int (1 : Int32)), .val (.ref x0)] [(.ref x1)])) _
  refine Goes.of (fun t k => XS.astore X24.here hx rfl (hb hby d3_38) rfl rfl (l' := #[.val (.ref a1), .val (.ref a1), .val (.int (3 : Int32)), .val (.int (1 : Int32)), .val (.ref x1)]) rfl k) ?_
  show Goes p e below (T24.setTop (mkF m 40 #[.val (.ref a1), .val (.ref a1), .val (.int (3 : Int32)), .val (.int (1 : Int32)), .val (.ref x1)] [])) _
  refine Goes.of (fun t k => XS.aload X24.here hx rfl (hb hby d3_40) rfl rfl k) ?_
  obtain ⟨_, _, ⟨T28, L28, k28, n28⟩, -, X28, ⟨Lc28, hQ28, l28, y28, z28⟩, st28⟩ := Jvm.LawKit.callS X24 hx (y := (⟨"java/util/Objects", "requireNonNull", "(Ljava/lang/Object;)Ljava/lang/Object;"⟩ : MethodName)) hown (mvT hZ (wd hw 32 rfl)) (mvT hZ (wd hw 33 rfl)) (mvT hZ (wd hw 34 rfl)) (mvT hZ (wd hw 35 rfl)) (by decide) (backOf (W := 0) (rm4 l Z a0 hw [] x1  h0 n0 Z0 ) hZ (wd hw 35 rfl) (wd hw 34 rfl) (by decide) (by decide)) (g := (mkF m 42 #[.val (.ref a1), .val (.ref a1), .val (.int (3 : Int32)), .val (.int (1 : Int32)), .val (.ref x1)] [(.ref x1)])) rfl (by rw [hml]; rfl) (argsL := [(.ref x1)]) (rest := []) (lenOf pd_7 rfl) rfl (by show 2 * 0 + _ ≤ _; exact Nat.le_of_eq rfl) (hb hby d3_42) (fun _ _ => ⟨rfl, e24, (by decide : 0 + 0 ≤ _), (by decide : 0 + 0 ≤ _)⟩)
  dsimp only [Pt.U, Pt.locs, Pt.cells, Pt.slots] at X28 l28 y28 z28 st28 hQ28
  subst l28 y28 z28
  obtain ⟨rfl, N28q, e28⟩ := hQ28
  have N28 := Fr.app N24 N28q
  refine Goes.of st28 ?_
  show Goes p e below (T28.setTop (mkF m 45 #[.val (.ref a1), .val (.ref a1), .val (.int (3 : Int32)), .val (.int (1 : Int32)), .val (.ref x1)] [(.ref x1)])) _
  refine Goes.of (fun t k => XS.pop X28.here hx rfl (hb hby d3_45) rfl rfl k) ?_
  show Goes p e below (T28.setTop (mkF m 46 #[.val (.ref a1), .val (.ref a1), .val (.int (3 : Int32)), .val (.int (1 : Int32)), .val (.ref x1)] [])) _
  refine Goes.of (fun t k => XS.iinc X28.here hx rfl (hb hby d3_46) rfl (l' := #[.val (.ref a1), .val (.ref a1), .val (.int (3 : Int32)), .val (.int (2 : Int32)), .val (.ref x1)]) rfl k) ?_
  show Goes p e below (T28.setTop (mkF m 49 #[.val (.ref a1), .val (.ref a1), .val (.int (3 : Int32)), .val (.int (2 : Int32)), .val (.ref x1)] [])) _
  refine Goes.of (fun t k => XS.goto X28.here hx rfl (pc0 := 49) (pc' := 30) rfl (hb hby d3_49) (by decide) (by decide) k) ?_
  show Goes p e below (T28.setTop (mkF m 30 #[.val (.ref a1), .val (.ref a1), .val (.int (3 : Int32)), .val (.int (2 : Int32)), .val (.ref x1)] [])) _
  refine Goes.of (fun t k => XS.iloadN X28.here hx rfl (hb hby d3_30) rfl k) ?_
  show Goes p e below (T28.setTop (mkF m 31 #[.val (.ref a1), .val (.ref a1), .val (.int (3 : Int32)), .val (.int (2 : Int32)), .val (.ref x1)] [(.int (2 : Int32))])) _
  refine Goes.of (fun t k => XS.iloadN X28.here hx rfl (hb hby d3_31) rfl k) ?_
  show Goes p e below (T28.setTop (mkF m 32 #[.val (.ref a1), .val (.ref a1), .val (.int (3 : Int32)), .val (.int (2 : Int32)), .val (.ref x1)] [(.int (3 : Int32)), (.int (2 : Int32))])) _
  refine Goes.of (fun t k => XS.icmpNo X28.here hx rfl (hb hby d3_32) rfl (tlt (by decide)).2.1 k) ?_
  show Goes p e below (T28.setTop (mkF m 35 #[.val (.ref a1), .val (.ref a1), .val (.int (3 : Int32)), .val (.int (2 : Int32)), .val (.ref x1)] [])) _
  refine Goes.of (fun t k => XS.aloadN X28.here hx rfl (hb hby d3_35) rfl rfl k) ?_
  show Goes p e below (T28.setTop (mkF m 36 #[.val (.ref a1), .val (.ref a1), .val (.int (3 : Int32)), .val (.int (2 : Int32)), .val (.ref x1)] [(.ref a1)])) _
  refine Goes.of (fun t k => XS.iloadN X28.here hx rfl (hb hby d3_36) rfl k) ?_
  have Vc29 := A
  obtain ⟨clc29, Arc29, qc29, Sc29, Nc29, Hc29, Gc29⟩ := Vc29
  have hin30 : ¬ ((2 : Int32) < 0 ∨ clc29.slots.size ≤ ((2 : Int32)).toNatClampNeg) := inb_of Sc29 ⟨by decide, by decide⟩
  have hat31 : clc29.slots[((2 : Int32)).toNatClampNeg]? = some (.ref x2) := Hc29.at hin30 rfl
  refine Goes.of (fun t k => X28.aaload hx (j := (2 : Int32)) (v := (.ref x2)) (by rw [e28]; exact Arc29.1) (State.isArrayOf_alike hZ.alike Arc29.2.1) rfl Arc29.2.2 hin30 hat31 (g := (mkF m 37 #[.val (.ref a1), .val (.ref a1), .val (.int (3 : Int32)), .val (.int (2 : Int32)), .val (.ref x1)] [(.int (2 : Int32)), (.ref a1)])) rfl rfl (hb hby d3_37) _ k) ?_
  show Goes p e below (T28.setTop (mkF m 38 #[.val (.ref a1), .val (.ref a1), .val (.int (3 : Int32)), .val (.int (2 : Int32)), .val (.ref x1)] [(.ref x2)])) _
  refine Goes.of (fun t k => XS.astore X28.here hx rfl (hb hby d3_38) rfl rfl (l' := #[.val (.ref a1), .val (.ref a1), .val (.int (3 : Int32)), .val (.int (2 : Int32)), .val (.ref x2)]) rfl k) ?_
  show Goes p e below (T28.setTop (mkF m 40 #[.val (.ref a1), .val (.ref a1), .val (.int (3 : Int32)), .val (.int (2 : Int32)), .val (.ref x2)] [])) _
  refine Goes.of (fun t k => XS.aload X28.here hx rfl (hb hby d3_40) rfl rfl k) ?_
  obtain ⟨_, _, ⟨T32, L32, k32, n32⟩, -, X32, ⟨Lc32, hQ32, l32, y32, z32⟩, st32⟩ := Jvm.LawKit.callS X28 hx (y := (⟨"java/util/Objects", "requireNonNull", "(Ljava/lang/Object;)Ljava/lang/Object;"⟩ : MethodName)) hown (mvT hZ (wd hw 32 rfl)) (mvT hZ (wd hw 33 rfl)) (mvT hZ (wd hw 34 rfl)) (mvT hZ (wd hw 35 rfl)) (by decide) (backOf (W := 0) (rm4 l Z a0 hw [] x2  h0 n0 Z0 ) hZ (wd hw 35 rfl) (wd hw 34 rfl) (by decide) (by decide)) (g := (mkF m 42 #[.val (.ref a1), .val (.ref a1), .val (.int (3 : Int32)), .val (.int (2 : Int32)), .val (.ref x2)] [(.ref x2)])) rfl (by rw [hml]; rfl) (argsL := [(.ref x2)]) (rest := []) (lenOf pd_7 rfl) rfl (by show 2 * 0 + _ ≤ _; exact Nat.le_of_eq rfl) (hb hby d3_42) (fun _ _ => ⟨rfl, e28, (by decide : 0 + 0 ≤ _), (by decide : 0 + 0 ≤ _)⟩)
  dsimp only [Pt.U, Pt.locs, Pt.cells, Pt.slots] at X32 l32 y32 z32 st32 hQ32
  subst l32 y32 z32
  obtain ⟨rfl, N32q, e32⟩ := hQ32
  have N32 := Fr.app N28 N32q
  refine Goes.of st32 ?_
  show Goes p e below (T32.setTop (mkF m 45 #[.val (.ref a1), .val (.ref a1), .val (.int (3 : Int32)), .val (.int (2 : Int32)), .val (.ref x2)] [(.ref x2)])) _
  refine Goes.of (fun t k => XS.pop X32.here hx rfl (hb hby d3_45) rfl rfl k) ?_
  show Goes p e below (T32.setTop (mkF m 46 #[.val (.ref a1), .val (.ref a1), .val (.int (3 : Int32)), .val (.int (2 : Int32)), .val (.ref x2)] [])) _
  refine Goes.of (fun t k => XS.iinc X32.here hx rfl (hb hby d3_46) rfl (l' := #[.val (.ref a1), .val (.ref a1), .val (.int (3 : Int32)), .val (.int (3 : Int32)), .val (.ref x2)]) rfl k) ?_
  show Goes p e below (T32.setTop (mkF m 49 #[.val (.ref a1), .val (.ref a1), .val (.int (3 : Int32)), .val (.int (3 : Int32)), .val (.ref x2)] [])) _
  refine Goes.of (fun t k => XS.goto X32.here hx rfl (pc0 := 49) (pc' := 30) rfl (hb hby d3_49) (by decide) (by decide) k) ?_
  show Goes p e below (T32.setTop (mkF m 30 #[.val (.ref a1), .val (.ref a1), .val (.int (3 : Int32)), .val (.int (3 : Int32)), .val (.ref x2)] [])) _
  refine Goes.of (fun t k => XS.iloadN X32.here hx rfl (hb hby d3_30) rfl k) ?_
  show Goes p e below (T32.setTop (mkF m 31 #[.val (.ref a1), .val (.ref a1), .val (.int (3 : Int32)), .val (.int (3 : Int32)), .val (.ref x2)] [(.int (3 : Int32))])) _
  refine Goes.of (fun t k => XS.iloadN X32.here hx rfl (hb hby d3_31) rfl k) ?_
  show Goes p e below (T32.setTop (mkF m 32 #[.val (.ref a1), .val (.ref a1), .val (.int (3 : Int32)), .val (.int (3 : Int32)), .val (.ref x2)] [(.int (3 : Int32)), (.int (3 : Int32))])) _
  refine Goes.of (fun t k => XS.icmpYes X32.here hx rfl (pc0 := 32) (pc' := 52) rfl (hb hby d3_32) rfl (flt (by decide)).2.1 (by decide) (by decide) k) ?_
  show Goes p e below (T32.setTop (mkF m 52 #[.val (.ref a1), .val (.ref a1), .val (.int (3 : Int32)), .val (.int (3 : Int32)), .val (.ref x2)] [])) _
  refine Goes.of (fun t k => XS.aloadN X32.here hx rfl (hb hby d3_52) rfl rfl k) ?_
  have Vc33 := A
  obtain ⟨clc33, Arc33, qc33, Sc33, Nc33, Hc33, Gc33⟩ := Vc33
  refine Goes.of (X32.arraylength hx (by rw [e32]; exact Arc33.1) (State.isArrayOf_alike hZ.alike Arc33.2.1) (g := (mkF m 53 #[.val (.ref a1), .val (.ref a1), .val (.int (3 : Int32)), .val (.int (3 : Int32)), .val (.ref x2)] [(.ref a1)])) rfl rfl (hb hby d3_53)) ?_
  rw [len_of Sc33 Nc33]
  show Goes p e below (T32.setTop (mkF m 54 #[.val (.ref a1), .val (.ref a1), .val (.int (3 : Int32)), .val (.int (3 : Int32)), .val (.ref x2)] [(.int (3 : Int32))])) _
  refine Goes.of (fun t k => XS.tswOut X32.here hx rfl (pc0 := 54) (pc' := 115) rfl (hb hby d3_54) rfl (by decide) (by decide) (by decide) k) ?_
  obtain ⟨T34, h34, X34, e34, E34, A34, D34, -, st34⟩ := newO X32 hx hZ hown (wd hw 36 rfl) (wd hw 37 rfl) (wd hw 38 rfl) e32 (g := (mkF m 115 #[.val (.ref a1), .val (.ref a1), .val (.int (3 : Int32)), .val (.int (3 : Int32)), .val (.ref x2)] [])) rfl (hb hby d3_115) (by decide) (by decide)
  obtain ⟨b34, g34⟩ : ∃ z, z = h0.size := ⟨_, rfl⟩
  rw [← g34] at A34 D34 st34
  have g35 : n0 ≤ b34 := Nat.le_trans Z0 (Nat.le_of_eq g34.symm)
  have z36 := Nat.le_trans Z0 E34.1
  have z37 : h0.size ≤ b34 := Nat.le_trans K0.1 (Nat.le_of_eq g34.symm)
  have q38 : a1 ≠ b34 := Nat.ne_of_lt (Nat.lt_of_lt_of_le A.lt (Nat.le_of_eq g34.symm))
  have f39 := O0.ext E34
  have f40 := A.ext E34
  have K41 : Keep h0 h34 [] := K0.ext E34
  have f42 : Fld Z h34 b34 "java/util/ImmutableCollections$ListN" "elements" "[Ljava/lang/Object;" .null := D34 (Or.inr (wd hw 65 rfl)) (ty := (.array (.object "java/lang/Object"))) (by decide)
  have f43 : Fld Z h34 b34 "java/util/ImmutableCollections$ListN" "allowNulls" "Z" (.int (0 : Int32)) := D34 (Or.inr (wd hw 67 rfl)) (ty := .boolean) (by decide)
  refine Goes.of st34 ?_
  show Goes p e below (T34.setTop (mkF m 118 #[.val (.ref a1), .val (.ref a1), .val (.int (3 : Int32)), .val (.int (3 : Int32)), .val (.ref x2)] [(.ref b34)])) _
  refine Goes.of (fun t k => XS.dup X34.here hx rfl (hb hby d3_118) rfl rfl k) ?_
  show Goes p e below (T34.setTop (mkF m 119 #[.val (.ref a1), .val (.ref a1), .val (.int (3 : Int32)), .val (.int (3 : Int32)), .val (.ref x2)] [(.ref b34), (.ref b34)])) _
  refine Goes.of (fun t k => XS.aloadN X34.here hx rfl (hb hby d3_119) rfl rfl k) ?_
  show Goes p e below (T34.setTop (mkF m 120 #[.val (.ref a1), .val (.ref a1), .val (.int (3 : Int32)), .val (.int (3 : Int32)), .val (.ref x2)] [(.ref a1), (.ref b34), (.ref b34)])) _
  refine Goes.of (fun t k => XS.iconst X34.here hx rfl (hb hby d3_120) k) ?_
  obtain ⟨_, _, ⟨T44, L44, k44, n44⟩, -, X44, ⟨Lc44, hQ44, l44, y44, z44⟩, st44⟩ := X34.specialBackNest hx (y := (⟨"java/util/ImmutableCollections$ListN", "<init>", "([Ljava/lang/Object;Z)V"⟩ : MethodName)) rfl hown (mvMN hZ (wd hw 39 rfl)) (mvT hZ (wd hw 40 rfl)) (mvT hZ (wd hw 42 rfl)) (by decide) (backOf (W := 1) (rm5 l Z a0 hw [] b34 a1  h34 n0 z36 A34 f42 f43 g35) hZ (wd hw 42 rfl) (wd hw 38 rfl) (by decide) (by decide)) (g := (mkF m 121 #[.val (.ref a1), .val (.ref a1), .val (.int (3 : Int32)), .val (.int (3 : Int32)), .val (.ref x2)] [(.int (0 : Int32)), (.ref a1), (.ref b34), (.ref b34)])) rfl (by rw [hml]; rfl) (Steps.refl _) (a := b34) (argsL := [(.ref a1), (.int (0 : Int32))]) (rest := [(.ref b34)]) (lenOf pd_8 rfl) rfl (by show 2 * 0 + _ ≤ _; exact Nat.le_of_eq rfl) (hb hby d3_121) (fun _ _ => ⟨rfl, e34, (by decide : 1 + 0 ≤ _), (by decide : 2 + 0 ≤ _)⟩)
  dsimp only [Pt.U, Pt.locs, Pt.cells, Pt.slots] at X44 l44 y44 z44 st44 hQ44
  subst l44 y44 z44
  obtain ⟨rfl, N44q, K44, E44, F44, -⟩ := hQ44
  have N44 := Fr.app N32 N44q
  have K45 : Keep h0 T44.heap [] := K41.trans K44 (allS (Or.inr z37) all0)
  have z46 := Nat.le_trans z36 K44.1
  have f47 := f39.keep K44 (allS g35 all0)
  have f48 := f40.keep K44 (ninS q38 nin0)
  have f49 := A34.keep K44
  refine Goes.of (fun t k => st44.trans k) ?_
  show Goes p e below (T44.setTop (mkF m 124 #[.val (.ref a1), .val (.ref a1), .val (.int (3 : Int32)), .val (.int (3 : Int32)), .val (.ref x2)] [(.ref b34)])) _
  have eh : T44.heap = T44.heap := rfl
  exact Goes.retA X44 hx (by rfl) Bd.returns (by rfl) hlocks (hb hby d3_124) (⟨b34, rfl, N44, by rw [eh]; exact K45, z37, by rw [eh]; exact E44, by rw [eh]; exact F44⟩) (by decide) (by decide)
theorem ef_3_52 (m : MethodId) (x0 : Addr) : entryFrame m #[(.ref x0)] 5 = mkF m 0 #[.val (.ref x0), .unset, .unset, .unset, .unset] [] := by first | (simp [entryFrame, mkF, argsToLocals, Value.category]; done) | rfl
def Q3_52 (Z : State) (a1 : Addr) (k : ClassId) (x0 : Addr) (x1 : Addr) (x2 : Addr) (x3 : Addr) (h0 : Heap) (n0 : Nat) (v : Option Value) (h : Heap) (L : List Loc) : Prop := ∃ b : Addr, v = some (.ref b) ∧ Fr n0 L ∧ Keep h0 h [] ∧ h0.size ≤ b ∧ Exa Z h b "java/util/ImmutableCollections$ListN" ∧ Fld Z h b "java/util/ImmutableCollections$ListN" "elements" "[Ljava/lang/Object;" (.ref a1)
set_option maxRecDepth 65536 in
set_option maxHeartbeats 40000000 in
theorem rm3_52 (l : Launch) (Z : State) (a0 : Array Value) (hw : ∀ d ∈ tables_1, d.before a0 Z = true) (ws : List Jvm.Cond) (a1 : Addr) (k : ClassId) (x0 : Addr) (x1 : Addr) (x2 : Addr) (x3 : Addr) (h0 : Heap) (n0 : Nat) (Z0 : n0 ≤ h0.size) (O0 : Old Z n0 h0) (SA : Sta Z Z.heap "java/util/ImmutableCollections" "$assertionsDisabled" "Z" (.int 1)) (A : Arv Z h0 a1 k (.object "java/lang/Object") (4 : Int32) [(.ref x0), (.ref x1), (.ref x2), (.ref x3)] .null) :
    MetFree l (⟨"java/util/ImmutableCollections", "listFromTrustedArray", "([Ljava/lang/Object;)Ljava/util/List;"⟩ : MethodName) (head1 (Jvm.Cond.code (⟨"java/util/ImmutableCollections", "listFromTrustedArray", "([Ljava/lang/Object;)Ljava/util/List;"⟩ : MethodName) jdk_56_method_5_code 5 (some (.object "java/util/List")) :: ws) ({ frames := 5, cells := 1, slots := 2, locals := 63 } : Room)) (fun a U => a = #[(.ref a1)] ∧ Z.Warmed39 U.vm ∧ U.heap = h0) (fun _ _ _ _ _ => True) (fun _ U o U' => ∃ v L, o = .returned v ∧ Q3_52 Z a1 k x0 x1 x2 x3 h0 n0 v U'.heap L ∧ FrameEnd U o U' L ({ frames := 5, cells := 1, slots := 2, locals := 63 } : Room).cells ({ frames := 5, cells := 1, slots := 2, locals := 63 } : Room).slots) := by
  refine MetFree.of_bodySF (plainFor_of_name pn_6) hisR ?_
  intro p e s m args below meth c s₁ Bd hml0 hP hK
  obtain ⟨rfl, hZ, hh⟩ := hP
  have hx := Bd.exec
  have hby := Bd.bytes
  have hml : c.maxLocals = 5 := hml0
  have hown : s.vm.findClass "java/util/ImmutableCollections" = some m.cls := findClass_of_methodNamed Bd.named
  have hnm := (name_of_methodNamed Bd.named Bd.method).1
  have hlocks : meth.locks = false := BodyLoose.notSynchronized Bd
  have X0 : Stand p l e ({ frames := 5, cells := 1, slots := 2, locals := 63 } : Room) s m #[(.ref a1)] below meth c s₁ [] 0 0 := Stand.of_body Bd
  have e0 : s₁.heap = h0 := by rw [← hh, Bd.state]; rfl
  have N0 := Fr.nil n0
  show Goes p e below (s₁.setTop (entryFrame m #[(.ref a1)] 5)) (Fin s (Q3_52 Z a1 k x0 x1 x2 x3 h0 n0) ({ frames := 5, cells := 1, slots := 2, locals := 63 } : Room).cells ({ frames := 5, cells := 1, slots := 2, locals := 63 } : Room).slots)
  refine Goes.of (fun t k => castTop (ef_3_52 m a1) k) ?_
  have K0 : Keep h0 h0 [] := Keep.refl _ _
  obtain ⟨T53, X53, e53, st53⟩ := getS2 X0 hx hZ hown (host := "") (Or.inl (wd hw 31 rfl)) Via.refl e0 (SA.ext O0.2) (g := (mkF m 0 #[.val (.ref a1), .unset, .unset, .unset, .unset] [])) rfl (hb hby d3_0)
  refine Goes.of st53 ?_
  show Goes p e below (T53.setTop (mkF m 3 #[.val (.ref a1), .unset, .unset, .unset, .unset] [(.int (1 : Int32))])) _
  refine Goes.of (fun t k => XS.ifYes X53.here hx rfl (pc0 := 3) (pc' := 23) rfl (hb hby d3_3) rfl ((if0 _ _).trans (feq (by decide)).2) (by decide) (by decide) k) ?_
  show Goes p e below (T53.setTop (mkF m 23 #[.val (.ref a1), .unset, .unset, .unset, .unset] [])) _
  refine Goes.of (fun t k => XS.aloadN X53.here hx rfl (hb hby d3_23) rfl rfl k) ?_
  show Goes p e below (T53.setTop (mkF m 24 #[.val (.ref a1), .unset, .unset, .unset, .unset] [(.ref a1)])) _
  refine Goes.of (fun t k => XS.astoreN X53.here hx rfl (hb hby d3_24) rfl rfl (l' := #[.val (.ref a1), .val (.ref a1), .unset, .unset, .unset]) rfl k) ?_
  show Goes p e below (T53.setTop (mkF m 25 #[.val (.ref a1), .val (.ref a1), .unset, .unset, .unset] [])) _
  refine Goes.of (fun t k => XS.aloadN X53.here hx rfl (hb hby d3_25) rfl rfl k) ?_
  have Vc54 := A
  obtain ⟨clc54, Arc54, qc54, Sc54, Nc54, Hc54, Gc54⟩ := Vc54
  refine Goes.of (X53.arraylength hx (by rw [e53]; exact Arc54.1) (State.isArrayOf_alike hZ.alike Arc54.2.1) (g := (mkF m 26 #[.val (.ref a1), .val (.ref a1), .unset, .unset, .unset] [(.ref a1)])) rfl rfl (hb hby d3_26)) ?_
  rw [len_of Sc54 Nc54]
  show Goes p e below (T53.setTop (mkF m 27 #[.val (.ref a1), .val (.ref a1), .unset, .unset, .unset] [(.int (4 : Int32))])) _
  refine Goes.of (fun t k => XS.istoreN X53.here hx rfl (hb hby d3_27) rfl (l' := #[.val (.ref a1), .val (.ref a1), .val (.int (4 : Int32)), .unset, .unset]) rfl k) ?_
  show Goes p e below (T53.setTop (mkF m 28 #[.val (.ref a1), .val (.ref a1), .val (.int (4 : Int32)), .unset, .unset] [])) _
  refine Goes.of (fun t k => XS.iconst X53.here hx rfl (hb hby d3_28) k) ?_
  show Goes p e below (T53.setTop (mkF m 29 #[.val (.ref a1), .val (.ref a1), .val (.int (4 : Int32)), .unset, .unset] [(.int (0 : Int32))])) _
  refine Goes.of (fun t k => XS.istoreN X53.here hx rfl (hb hby d3_29) rfl (l' := #[.val (.ref a1), .val (.ref a1), .val (.int (4 : Int32)), .val (.int (0 : Int32)), .unset]) rfl k) ?_
  show Goes p e below (T53.setTop (mkF m 30 #[.val (.ref a1), .val (.ref a1), .val (.int (4 : Int32)), .val (.int (0 : Int32)), .unset] [])) _
  refine Goes.of (fun t k => XS.iloadN X53.here hx rfl (hb hby d3_30) rfl k) ?_
  show Goes p e below (T53.setTop (mkF m 31 #[.val (.ref a1), .val (.ref a1), .val (.int (4 : Int32)), .val (.int (0 : Int32)), .unset] [(.int (0 : Int32))])) _
  refine Goes.of (fun t k => XS.iloadN X53.here hx rfl (hb hby d3_31) rfl k) ?_
  show Goes p e below (T53.setTop (mkF m 32 #[.val (.ref a1), .val (.ref a1), .val (.int (4 : Int32)), .val (.int (0 : Int32)), .unset] [(.int (4 : Int32)), (.int (0 : Int32))])) _
  refine Goes.of (fun t k => XS.icmpNo X53.here hx rfl (hb hby d3_32) rfl (tlt (by decide)).2.1 k) ?_
  show Goes p e below (T53.setTop (mkF m 35 #[.val (.ref a1), .val (.ref a1), .val (.int (4 : Int32)), .val (.int (0 : Int32)), .unset] [])) _
  refine Goes.of (fun t k => XS.aloadN X53.here hx rfl (hb hby d3_35) rfl rfl k) ?_
  show Goes p e below (T53.setTop (mkF m 36 #[.val (.ref a1), .val (.ref a1), .val (.int (4 : Int32)), .val (.int (0 : Int32)), .unset] [(.ref a1)])) _
  refine Goes.of (fun t k => XS.iloadN X53.here hx rfl (hb hby d3_36) rfl k) ?_
  have Vc55 := A
  obtain ⟨clc55, Arc55, qc55, Sc55, Nc55, Hc55, Gc55⟩ := Vc55
  have hin56 : ¬ ((0 : Int32) < 0 ∨ clc55.slots.size ≤ ((0 : Int32)).toNatClampNeg) := inb_of Sc55 ⟨by decide, by decide⟩
  have hat57 : clc55.slots[((0 : Int32)).toNatClampNeg]? = some (.ref x0) := Hc55.at hin56 rfl
  refine Goes.of (fun t k => X53.aaload hx (j := (0 : Int32)) (v := (.ref x0)) (by rw [e53]; exact Arc55.1) (State.isArrayOf_alike hZ.alike Arc55.2.1) rfl Arc55.2.2 hin56 hat57 (g := (mkF m 37 #[.val (.ref a1), .val (.ref a1), .val (.int (4 : Int32)), .val (.int (0 : Int32)), .unset] [(.int (0 : Int32)), (.ref a1)])) rfl rfl (hb hby d3_37) _ k) ?_
  show Goes p e below (T53.setTop (mkF m 38 #[.val (.ref a1), .val (.ref a1), .val (.int (4 : Int32)), .val (.int (0 : Int32)), .unset] [(.ref x0)])) _
  refine Goes.of (fun t k => XS.astore X53.here hx rfl (hb hby d3_38) rfl rfl (l' := #[.val (.ref a1), .val (.ref a1), .val (.int (4 : Int32)), .val (.int (0 : Int32)), .val (.ref x0)]) rfl k) ?_
  show Goes p e below (T53.setTop (mkF m 40 #[.val (.ref a1), .val (.ref a1), .val (.int (4 : Int32)), .val (.int (0 : Int32)), .val (.ref x0)] [])) _
  refine Goes.of (fun t k => XS.aload X53.here hx rfl (hb hby d3_40) rfl rfl k) ?_
  obtain ⟨_, _, ⟨T58, L58, k58, n58⟩, -, X58, ⟨Lc58, hQ58, l58, y58, z58⟩, st58⟩ := Jvm.LawKit.callS X53 hx (y := (⟨"java/util/Objects", "requireNonNull", "(Ljava/lang/Object;)Ljava/lang/Object;"⟩ : MethodName)) hown (mvT hZ (wd hw 32 rfl)) (mvT hZ (wd hw 33 rfl)) (mvT hZ (wd hw 34 rfl)) (mvT hZ (wd hw 35 rfl)) (by decide) (backOf (W := 0) (rm4 l Z a0 hw [] x0  h0 n0 Z0 ) hZ (wd hw 35 rfl) (wd hw 34 rfl) (by decide) (by decide)) (g := (mkF m 42 #[.val (.ref a1), .val (.ref a1), .val (.int (4 : Int32)), .val (.int (0 : Int32)), .val (.ref x0)] [(.ref x0)])) rfl (by rw [hml]; rfl) (argsL := [(.ref x0)]) (rest := []) (lenOf pd_7 rfl) rfl (by show 2 * 0 + _ ≤ _; exact Nat.le_of_eq rfl) (hb hby d3_42) (fun _ _ => ⟨rfl, e53, (by decide : 0 + 0 ≤ _), (by decide : 0 + 0 ≤ _)⟩)
  dsimp only [Pt.U, Pt.locs, Pt.cells, Pt.slots] at X58 l58 y58 z58 st58 hQ58
  subst l58 y58 z58
  obtain ⟨rfl, N58q, e58⟩ := hQ58
  have N58 := Fr.app N0 N58q
  refine Goes.of st58 ?_
  show Goes p e below (T58.setTop (mkF m 45 #[.val (.ref a1), .val (.ref a1), .val (.int (4 : Int32)), .val (.int (0 : Int32)), .val (.ref x0)] [(.ref x0)])) _
  refine Goes.of (fun t k => XS.pop X58.here hx rfl (hb hby d3_45) rfl rfl k) ?_
  show Goes p e below (T58.setTop (mkF m 46 #[.val (.ref a1), .val (.ref a1), .val (.int (4 : Int32)), .val (.int (0 : Int32)), .val (.ref x0)] [])) _
  refine Goes.of (fun t k => XS.iinc X58.here hx rfl (hb hby d3_46) rfl (l' := #[.val (.ref a1), .val (.ref a1), .val (.int (4 : Int32)), .val (.int (1 : Int32)), .val (.ref x0)]) rfl k) ?_
  show Goes p e below (T58.setTop (mkF m 49 #[.val (.ref a1), .val (.ref a1), .val (.int (4 : Int32)), .val (.int (1 : Int32)), .val (.ref x0)] [])) _
  refine Goes.of (fun t k => XS.goto X58.here hx rfl (pc0 := 49) (pc' := 30) rfl (hb hby d3_49) (by decide) (by decide) k) ?_
  show Goes p e below (T58.setTop (mkF m 30 #[.val (.ref a1), .val (.ref a1), .val (.int (4 : Int32)), .val (.int (1 : Int32)), .val (.ref x0)] [])) _
  refine Goes.of (fun t k => XS.iloadN X58.here hx rfl (hb hby d3_30) rfl k) ?_
  show Goes p e below (T58.setTop (mkF m 31 #[.val (.ref a1), .val (.ref a1), .val (.int (4 : Int32)), .val (.int (1 : Int32)), .val (.ref x0)] [(.int (1 : Int32))])) _
  refine Goes.of (fun t k => XS.iloadN X58.here hx rfl (hb hby d3_31) rfl k) ?_
  show Goes p e below (T58.setTop (mkF m 32 #[.val (.ref a1), .val (.ref a1), .val (.int (4 : Int32)), .val (.int (1 : Int32)), .val (.ref x0)] [(.int (4 : Int32)), (.int (1 : Int32))])) _
  refine Goes.of (fun t k => XS.icmpNo X58.here hx rfl (hb hby d3_32) rfl (tlt (by decide)).2.1 k) ?_
  show Goes p e below (T58.setTop (mkF m 35 #[.val (.ref a1), .val (.ref a1), .val (.int (4 : Int32)), .val (.int (1 : Int32)), .val (.ref x0)] [])) _
  refine Goes.of (fun t k => XS.aloadN X58.here hx rfl (hb hby d3_35) rfl rfl k) ?_
  show Goes p e below (T58.setTop (mkF m 36 #[.val (.ref a1), .val (.ref a1), .val (.int (4 : Int32)), .val (.int (1 : Int32)), .val (.ref x0)] [(.ref a1)])) _
  refine Goes.of (fun t k => XS.iloadN X58.here hx rfl (hb hby d3_36) rfl k) ?_
  have Vc59 := A
  obtain ⟨clc59, Arc59, qc59, Sc59, Nc59, Hc59, Gc59⟩ := Vc59
  have hin60 : ¬ ((1 : Int32) < 0 ∨ clc59.slots.size ≤ ((1 : Int32)).toNatClampNeg) := inb_of Sc59 ⟨by decide, by decide⟩
  have hat61 : clc59.slots[((1 : Int32)).toNatClampNeg]? = some (.ref x1) := Hc59.at hin60 rfl
  refine Goes.of (fun t k => X58.aaload hx (j := (1 : Int32)) (v := (.ref x1)) (by rw [e58]; exact Arc59.1) (State.isArrayOf_alike hZ.alike Arc59.2.1) rfl Arc59.2.2 hin60 hat61 (g := (mkF m 37 #[.val (.ref a1), .val (.ref a1), .val (.int (4 : Int32)), .val (.int (1 : Int32)), .val (.ref x0)] [(.int (1 : Int32)), (.ref a1)])) rfl rfl (hb hby d3_37) _ k) ?_
  show Goes p e below (T58.setTop (mkF m 38 #[.val (.ref a1), .val (.ref a1), .val (.int (4 : Int32)), .val (.int (1 : Int32)), .val (.ref x0)] [(.ref x1)])) _
  refine Goes.of (fun t k => XS.astore X58.here hx rfl (hb hby d3_38) rfl rfl (l' := #[.val (.ref a1), .val (.ref a1), .val (.int (4 : Int32)), .val (.int (1 : Int32)), .val (.ref x1)]) rfl k) ?_
  show Goes p e below (T58.setTop (mkF m 40 #[.val (.ref a1), .val (.ref a1), .val (.int (4 : Int32)), .val (.int (1 : Int32)), .val (.ref x1)] [])) _
  refine Goes.of (fun t k => XS.aload X58.here hx rfl (hb hby d3_40) rfl rfl k) ?_
  obtain ⟨_, _, ⟨T62, L62, k62, n62⟩, -, X62, ⟨Lc62, hQ62, l62, y62, z62⟩, st62⟩ := Jvm.LawKit.callS X58 hx (y := (⟨"java/util/Objects", "requireNonNull", "(Ljava/lang/Object;)Ljava/lang/Object;"⟩ : MethodName)) hown (mvT hZ (wd hw 32 rfl)) (mvT hZ (wd hw 33 rfl)) (mvT hZ (wd hw 34 rfl)) (mvT hZ (wd hw 35 rfl)) (by decide) (backOf (W := 0) (rm4 l Z a0 hw [] x1  h0 n0 Z0 ) hZ (wd hw 35 rfl) (wd hw 34 rfl) (by decide) (by decide)) (g := (mkF m 42 #[.val (.ref a1), .val (.ref a1), .val (.int (4 : Int32)), .val (.int (1 : Int32)), .val (.ref x1)] [(.ref x1)])) rfl (by rw [hml]; rfl) (argsL := [(.ref x1)]) (rest := []) (lenOf pd_7 rfl) rfl (by show 2 * 0 + _ ≤ _; exact Nat.le_of_eq rfl) (hb hby d3_42) (fun _ _ => ⟨rfl, e58, (by decide : 0 + 0 ≤ _), (by decide : 0 + 0 ≤ _)⟩)
  dsimp only [Pt.U, Pt.locs, Pt.cells, Pt.slots] at X62 l62 y62 z62 st62 hQ62
  subst l62 y62 z62
  obtain ⟨rfl, N62q, e62⟩ := hQ62
  have N62 := Fr.app N58 N62q
  refine Goes.of st62 ?_
  show Goes p e below (T62.setTop (mkF m 45 #[.val (.ref a1), .val (.ref a1), .val (.int (4 : Int32)), .val (.int (1 : Int32)), .val (.ref x1)] [(.ref x1)])) _
  refine Goes.of (fun t k => XS.pop X62.here hx rfl (hb hby d3_45) rfl rfl k) ?_
  show Goes p e below (T62.setTop (mkF m 46 #[.val (.ref a1), .val (.ref a1), .val (.int (4 : Int32)), .val (.int (1 : Int32)), .val (.ref x1)] [])) _
  refine Goes.of (fun t k => XS.iinc X62.here hx rfl (hb hby d3_46) rfl (l' := #[.val (.ref a1), .val (.ref a1), .val (.int (4 : Int32)), .val (.int (2 : Int32)), .val (.ref x1)]) rfl k) ?_
  show Goes p e below (T62.setTop (mkF m 49 #[.val (.ref a1), .val (.ref a1), .val (.int (4 : Int32)), .val (.int (2 : Int32)), .val (.ref x1)] [])) _
  refine Goes.of (fun t k => XS.goto X62.here hx rfl (pc0 := 49) (pc' := 30) rfl (hb hby d3_49) (by decide) (by decide) k) ?_
  show Goes p e below (T62.setTop (mkF m 30 #[.val (.ref a1), .val (.ref a1), .val (.int (4 : Int32)), .val (.int (2 : Int32)), .val (.ref x1)] [])) _
  refine Goes.of (fun t k => XS.iloadN X62.here hx rfl (hb hby d3_30) rfl k) ?_
  show Goes p e below (T62.setTop (mkF m 31 #[.val (.ref a1), .val (.ref a1), .val (.int (4 : Int32)), .val (.int (2 : Int32)), .val (.ref x1)] [(.int (2 : Int32))])) _
  refine Goes.of (fun t k => XS.iloadN X62.here hx rfl (hb hby d3_31) rfl k) ?_
  show Goes p e below (T62.setTop (mkF m 32 #[.val (.ref a1), .val (.ref a1), .val (.int (4 : Int32)), .val (.int (2 : Int32)), .val (.ref x1)] [(.int (4 : Int32)), (.int (2 : Int32))])) _
  refine Goes.of (fun t k => XS.icmpNo X62.here hx rfl (hb hby d3_32) rfl (tlt (by decide)).2.1 k) ?_
  show Goes p e below (T62.setTop (mkF m 35 #[.val (.ref a1), .val (.ref a1), .val (.int (4 : Int32)), .val (.int (2 : Int32)), .val (.ref x1)] [])) _
  refine Goes.of (fun t k => XS.aloadN X62.here hx rfl (hb hby d3_35) rfl rfl k) ?_
  show Goes p e below (T62.setTop (mkF m 36 #[.val (.ref a1), .val (.ref a1), .val (.int (4 : Int32)), .val (.int (2 : Int32)), .val (.ref x1)] [(.ref a1)])) _
  refine Goes.of (fun t k => XS.iloadN X62.here hx rfl (hb hby d3_36) rfl k) ?_
  have Vc63 := A
  obtain ⟨clc63, Arc63, qc63, Sc63, Nc63, Hc63, Gc63⟩ := Vc63
  have hin64 : ¬ ((2 : Int32) < 0 ∨ clc63.slots.size ≤ ((2 : Int32)).toNatClampNeg) := inb_of Sc63 ⟨by decide, by decide⟩
  have hat65 : clc63.slots[((2 : Int32)).toNatClampNeg]? = some (.ref x2) := Hc63.at hin64 rfl
  refine Goes.of (fun t k => X62.aaload hx (j := (2 : Int32)) (v := (.ref x2)) (by rw [e62]; exact Arc63.1) (State.isArrayOf_alike hZ.alike Arc63.2.1) rfl Arc63.2.2 hin64 hat65 (g := (mkF m 37 #[.val (.ref a1), .val (.ref a1), .val (.int (4 : Int32)), .val (.int (2 : Int32)), .val (.ref x1)] [(.int (2 : Int32)), (.ref a1)])) rfl rfl (hb hby d3_37) _ k) ?_
  show Goes p e below (T62.setTop (mkF m 38 #[.val (.ref a1), .val (.ref a1), .val (.int (4 : Int32)), .val (.int (2 : Int32)), .val (.ref x1)] [(.ref x2)])) _
  refine Goes.of (fun t k => XS.astore X62.here hx rfl (hb hby d3_38) rfl rfl (l' := #[.val (.ref a1), .val (.ref a1), .val (.int (4 : Int32)), .val (.int (2 : Int32)), .val (.ref x2)]) rfl k) ?_
  show Goes p e below (T62.setTop (mkF m 40 #[.val (.ref a1), .val (.ref a1), .val (.int (4 : Int32)), .val (.int (2 : Int32)), .val (.ref x2)] [])) _
  refine Goes.of (fun t k => XS.aload X62.here hx rfl (hb hby d3_40) rfl rfl k) ?_
  obtain ⟨_, _, ⟨T66, L66, k66, n66⟩, -, X66, ⟨Lc66, hQ66, l66, y66, z66⟩, st66⟩ := Jvm.LawKit.callS X62 hx (y := (⟨"java/util/Objects", "requireNonNull", "(Ljava/lang/Object;)Ljava/lang/Object;"⟩ : MethodName)) hown (mvT hZ (wd hw 32 rfl)) (mvT hZ (wd hw 33 rfl)) (mvT hZ (wd hw 34 rfl)) (mvT hZ (wd hw 35 rfl)) (by decide) (backOf (W := 0) (rm4 l Z a0 hw [] x2  h0 n0 Z0 ) hZ (wd hw 35 rfl) (wd hw 34 rfl) (by decide) (by decide)) (g := (mkF m 42 #[.val (.ref a1), .val (.ref a1), .val (.int (4 : Int32)), .val (.int (2 : Int32)), .val (.ref x2)] [(.ref x2)])) rfl (by rw [hml]; rfl) (argsL := [(.ref x2)]) (rest := []) (lenOf pd_7 rfl) rfl (by show 2 * 0 + _ ≤ _; exact Nat.le_of_eq rfl) (hb hby d3_42) (fun _ _ => ⟨rfl, e62, (by decide : 0 + 0 ≤ _), (by decide : 0 + 0 ≤ _)⟩)
  dsimp only [Pt.U, Pt.locs, Pt.cells, Pt.slots] at X66 l66 y66 z66 st66 hQ66
  subst l66 y66 z66
  obtain ⟨rfl, N66q, e66⟩ := hQ66
  have N66 := Fr.app N62 N66q
  refine Goes.of st66 ?_
  show Goes p e below (T66.setTop (mkF m 45 #[.val (.ref a1), .val (.ref a1), .val (.int (4 : Int32)), .val (.int (2 : Int32)), .val (.ref x2)] [(.ref x2)])) _
  refine Goes.of (fun t k => XS.pop X66.here hx rfl (hb hby d3_45) rfl rfl k) ?_
  show Goes p e below (T66.setTop (mkF m 46 #[.val (.ref a1), .val (.ref a1), .val (.int (4 : Int32)), .val (.int (2 : Int32)), .val (.ref x2)] [])) _
  refine Goes.of (fun t k => XS.iinc X66.here hx rfl (hb hby d3_46) rfl (l' := #[.val (.ref a1), .val (.ref a1), .val (.int (4 : Int32)), .val (.int (3 : Int32)), .val (.ref x2)]) rfl k) ?_
  show Goes p e below (T66.setTop (mkF m 49 #[.val (.ref a1), .val (.ref a1), .val (.int (4 : Int32)), .val (.int (3 : Int32)), .val (.ref x2)] [])) _
  refine Goes.of (fun t k => XS.goto X66.here hx rfl (pc0 := 49) (pc' := 30) rfl (hb hby d3_49) (by decide) (by decide) k) ?_
  show Goes p e below (T66.setTop (mkF m 30 #[.val (.ref a1), .val (.ref a1), .val (.int (4 : Int32)), .val (.int (3 : Int32)), .val (.ref x2)] [])) _
  refine Goes.of (fun t k => XS.iloadN X66.here hx rfl (hb hby d3_30) rfl k) ?_
  show Goes p e below (T66.setTop (mkF m 31 #[.val (.ref a1), .val (.ref a1), .val (.int (4 : Int32)), .val (.int (3 : Int32)), .val (.ref x2)] [(.int (3 : Int32))])) _
  refine Goes.of (fun t k => XS.iloadN X66.here hx rfl (hb hby d3_31) rfl k) ?_
  show Goes p e below (T66.setTop (mkF m 32 #[.val (.ref a1), .val (.ref a1), .val (.int (4 : Int32)), .val (.int (3 : Int32)), .val (.ref x2)] [(.int (4 : Int32)), (.int (3 : Int32))])) _
  refine Goes.of (fun t k => XS.icmpNo X66.here hx rfl (hb hby d3_32) rfl (tlt (by decide)).2.1 k) ?_
  show Goes p e below (T66.setTop (mkF m 35 #[.val (.ref a1), .val (.ref a1), .val (.int (4 : Int32)), .val (.int (3 : Int32)), .val (.ref x2)] [])) _
  refine Goes.of (fun t k => XS.aloadN X66.here hx rfl (hb hby d3_35) rfl rfl k) ?_
  show Goes p e below (T66.setTop (mkF m 36 #[.val (.ref a1), .val (.ref a1), .val (.int (4 : Int32)), .val (.int (3 : Int32)), .val (.ref x2)] [(.ref a1)])) _
  refine Goes.of (fun t k => XS.iloadN X66.here hx rfl (hb hby d3_36) rfl k) ?_
  have Vc67 := A
  obtain ⟨clc67, Arc67, qc67, Sc67, Nc67, Hc67, Gc67⟩ := Vc67
  have hin68 : ¬ ((3 : Int32) < 0 ∨ clc67.slots.size ≤ ((3 : Int32)).toNatClampNeg) := inb_of Sc67 ⟨by decide, by decide⟩
  have hat69 : clc67.slots[((3 : Int32)).toNatClampNeg]? = some (.ref x3) := Hc67.at hin68 rfl
  refine Goes.of (fun t k => X66.aaload hx (j := (3 : Int32)) (v := (.ref x3)) (by rw [e66]; exact Arc67.1) (State.isArrayOf_alike hZ.alike Arc67.2.1) rfl Arc67.2.2 hin68 hat69 (g := (mkF m 37 #[.val (.ref a1), .val (.ref a1), .val (.int (4 : Int32)), .val (.int (3 : Int32)), .val (.ref x2)] [(.int (3 : Int32)), (.ref a1)])) rfl rfl (hb hby d3_37) _ k) ?_
  show Goes p e below (T66.setTop (mkF m 38 #[.val (.ref a1), .val (.ref a1), .val (.int (4 : Int32)), .val (.int (3 : Int32)), .val (.ref x2)] [(.ref x3)])) _
  refine Goes.of (fun t k => XS.astore X66.here hx rfl (hb hby d3_38) rfl rfl (l' := #[.val (.ref a1), .val (.ref a1), .val (.int (4 : Int32)), .val (.int (3 : Int32)), .val (.ref x3)]) rfl k) ?_
  show Goes p e below (T66.setTop (mkF m 40 #[.val (.ref a1), .val (.ref a1), .val (.int (4 : Int32)), .val (.int (3 : Int32)), .val (.ref x3)] [])) _
  refine Goes.of (fun t k => XS.aload X66.here hx rfl (hb hby d3_40) rfl rfl k) ?_
  obtain ⟨_, _, ⟨T70, L70, k70, n70⟩, -, X70, ⟨Lc70, hQ70, l70, y70, z70⟩, st70⟩ := Jvm.LawKit.callS X66 hx (y := (⟨"java/util/Objects", "requireNonNull", "(Ljava/lang/Object;)Ljava/lang/Object;"⟩ : MethodName)) hown (mvT hZ (wd hw 32 rfl)) (mvT hZ (wd hw 33 rfl)) (mvT hZ (wd hw 34 rfl)) (mvT hZ (wd hw 35 rfl)) (by decide) (backOf (W := 0) (rm4 l Z a0 hw [] x3  h0 n0 Z0 ) hZ (wd hw 35 rfl) (wd hw 34 rfl) (by decide) (by decide)) (g := (mkF m 42 #[.val (.ref a1), .val (.ref a1), .val (.int (4 : Int32)), .val (.int (3 : Int32)), .val (.ref x3)] [(.ref x3)])) rfl (by rw [hml]; rfl) (argsL := [(.ref x3)]) (rest := []) (lenOf pd_7 rfl) rfl (by show 2 * 0 + _ ≤ _; exact Nat.le_of_eq rfl) (hb hby d3_42) (fun _ _ => ⟨rfl, e66, (by decide : 0 + 0 ≤ _), (by decide : 0 + 0 ≤ _)⟩)
  dsimp only [Pt.U, Pt.locs, Pt.cells, Pt.slots] at X70 l70 y70 z70 st70 hQ70
  subst l70 y70 z70
  obtain ⟨rfl, N70q, e70⟩ := hQ70
  have N70 := Fr.app N66 N70q
  refine Goes.of st70 ?_
  show Goes p e below (T70.setTop (mkF m 45 #[.val (.ref a1), .val (.ref a1), .val (.int (4 : Int32)), .val (.int (3 : Int32)), .val (.ref x3)] [(.ref x3)])) _
  refine Goes.of (fun t k => XS.pop X70.here hx rfl (hb hby d3_45) rfl rfl k) ?_
  show Goes p e below (T70.setTop (mkF m 46 #[.val (.ref a1), .val (.ref a1), .val (.int (4 : Int32)), .val (.int (3 : Int32)), .val (.ref x3)] [])) _
  refine Goes.of (fun t k => XS.iinc X70.here hx rfl (hb hby d3_46) rfl (l' := #[.val (.ref a1), .val (.ref a1), .val (.int (4 : Int32)), .val (.int (4 : Int32)), .val (.ref x3)]) rfl k) ?_
  show Goes p e below (T70.setTop (mkF m 49 #[.val (.ref a1), .val (.ref a1), .val (.int (4 : Int32)), .val (.int (4 : Int32)), .val (.ref x3)] [])) _
  refine Goes.of (fun t k => XS.goto X70.here hx rfl (pc0 := 49) (pc' := 30) rfl (hb hby d3_49) (by decide) (by decide) k) ?_
  show Goes p e below (T70.setTop (mkF m 30 #[.val (.ref a1), .val (.ref a1), .val (.int (4 : Int32)), .val (.int (4 : Int32)), .val (.ref x3)] [])) _
  refine Goes.of (fun t k => XS.iloadN X70.here hx rfl (hb hby d3_30) rfl k) ?_
  show Goes p e below (T70.setTop (mkF m 31 #[.val (.ref a1), .val (.ref a1), .val (.int (4 : Int32)), .val (.int (4 : Int32)), .val (.ref x3)] [(.int (4 : Int32))])) _
  refine Goes.of (fun t k => XS.iloadN X70.here hx rfl (hb hby d3_31) rfl k) ?_
  show Goes p e below (T70.setTop (mkF m 32 #[.val (.ref a1), .val (.ref a1), .val (.int (4 : Int32)), .val (.int (4 : Int32)), .val (.ref x3)] [(.int (4 : Int32)), (.int (4 : Int32))])) _
  refine Goes.of (fun t k => XS.icmpYes X70.here hx rfl (pc0 := 32) (pc' := 52) rfl (hb hby d3_32) rfl (flt (by decide)).2.1 (by decide) (by decide) k) ?_
  show Goes p e below (T70.setTop (mkF m 52 #[.val (.ref a1), .val (.ref a1), .val (.int (4 : Int32)), .val (.int (4 : Int32)), .val (.ref x3)] [])) _
  refine Goes.of (fun t k => XS.aloadN X70.here hx rfl (hb hby d3_52) rfl rfl k) ?_
  have Vc71 := A
  obtain ⟨clc71, Arc71, qc71, Sc71, Nc71, Hc71, Gc71⟩ := Vc71
  refine Goes.of (X70.arraylength hx (by rw [e70]; exact Arc71.1) (State.isArrayOf_alike hZ.alike Arc71.2.1) (g := (mkF m 53 #[.val (.ref a1), .val (.ref a1), .val (.int (4 : Int32)), .val (.int (4 : Int32)), .val (.ref x3)] [(.ref a1)])) rfl rfl (hb hby d3_53)) ?_
  rw [len_of Sc71 Nc71]
  show Goes p e below (T70.setTop (mkF m 54 #[.val (.ref a1), .val (.ref a1), .val (.int (4 : Int32)), .val (.int (4 : Int32)), .val (.ref x3)] [(.int (4 : Int32))])) _
  refine Goes.of (fun t k => XS.tswOut X70.here hx rfl (pc0 := 54) (pc' := 115) rfl (hb hby d3_54) rfl (by decide) (by decide) (by decide) k) ?_
  obtain ⟨T72, h72, X72, e72, E72, A72, D72, -, st72⟩ := newO X70 hx hZ hown (wd hw 36 rfl) (wd hw 37 rfl) (wd hw 38 rfl) e70 (g := (mkF m 115 #[.val (.ref a1), .val (.ref a1), .val (.int (4 : Int32)), .val (.int (4 : Int32)), .val (.ref x3)] [])) rfl (hb hby d3_115) (by decide) (by decide)
  obtain ⟨b72, g72⟩ : ∃ z, z = h0.size := ⟨_, rfl⟩
  rw [← g72] at A72 D72 st72
  have g73 : n0 ≤ b72 := Nat.le_trans Z0 (Nat.le_of_eq g72.symm)
  have z74 := Nat.le_trans Z0 E72.1
  have z75 : h0.size ≤ b72 := Nat.le_trans K0.1 (Nat.le_of_eq g72.symm)
  have q76 : a1 ≠ b72 := Nat.ne_of_lt (Nat.lt_of_lt_of_le A.lt (Nat.le_of_eq g72.symm))
  have f77 := O0.ext E72
  have f78 := A.ext E72
  have K79 : Keep h0 h72 [] := K0.ext E72
  have f80 : Fld Z h72 b72 "java/util/ImmutableCollections$ListN" "elements" "[Ljava/lang/Object;" .null := D72 (Or.inr (wd hw 65 rfl)) (ty := (.array (.object "java/lang/Object"))) (by decide)
  have f81 : Fld Z h72 b72 "java/util/ImmutableCollections$ListN" "allowNulls" "Z" (.int (0 : Int32)) := D72 (Or.inr (wd hw 67 rfl)) (ty := .boolean) (by decide)
  refine Goes.of st72 ?_
  show Goes p e below (T72.setTop (mkF m 118 #[.val (.ref a1), .val (.ref a1), .val (.int (4 : Int32)), .val (.int (4 : Int32)), .val (.ref x3)] [(.ref b72)])) _
  refine Goes.of (fun t k => XS.dup X72.here hx rfl (hb hby d3_118) rfl rfl k) ?_
  show Goes p e below (T72.setTop (mkF m 119 #[.val (.ref a1), .val (.ref a1), .val (.int (4 : Int32)), .val (.int (4 : Int32)), .val (.ref x3)] [(.ref b72), (.ref b72)])) _
  refine Goes.of (fun t k => XS.aloadN X72.here hx rfl (hb hby d3_119) rfl rfl k) ?_
  show Goes p e below (T72.setTop (mkF m 120 #[.val (.ref a1), .val (.ref a1), .val (.int (4 : Int32)), .val (.int (4 : Int32)), .val (.ref x3)] [(.ref a1), (.ref b72), (.ref b72)])) _
  refine Goes.of (fun t k => XS.iconst X72.here hx rfl (hb hby d3_120) k) ?_
  obtain ⟨_, _, ⟨T82, L82, k82, n82⟩, -, X82, ⟨Lc82, hQ82, l82, y82, z82⟩, st82⟩ := X72.specialBackNest hx (y := (⟨"java/util/ImmutableCollections$ListN", "<init>", "([Ljava/lang/Object;Z)V"⟩ : MethodName)) rfl hown (mvMN hZ (wd hw 39 rfl)) (mvT hZ (wd hw 40 rfl)) (mvT hZ (wd hw 42 rfl)) (by decide) (backOf (W := 1) (rm5 l Z a0 hw [] b72 a1  h72 n0 z74 A72 f80 f81 g73) hZ (wd hw 42 rfl) (wd hw 38 rfl) (by decide) (by decide)) (g := (mkF m 121 #[.val (.ref a1), .val (.ref a1), .val (.int (4 : Int32)), .val (.int (4 : Int32)), .val (.ref x3)] [(.int (0 : Int32)), (.ref a1), (.ref b72), (.ref b72)])) rfl (by rw [hml]; rfl) (Steps.refl _) (a := b72) (argsL := [(.ref a1), (.int (0 : Int32))]) (rest := [(.ref b72)]) (lenOf pd_8 rfl) rfl (by show 2 * 0 + _ ≤ _; exact Nat.le_of_eq rfl) (hb hby d3_121) (fun _ _ => ⟨rfl, e72, (by decide : 1 + 0 ≤ _), (by decide : 2 + 0 ≤ _)⟩)
  dsimp only [Pt.U, Pt.locs, Pt.cells, Pt.slots] at X82 l82 y82 z82 st82 hQ82
  subst l82 y82 z82
  obtain ⟨rfl, N82q, K82, E82, F82, -⟩ := hQ82
  have N82 := Fr.app N70 N82q
  have K83 : Keep h0 T82.heap [] := K79.trans K82 (allS (Or.inr z75) all0)
  have z84 := Nat.le_trans z74 K82.1
  have f85 := f77.keep K82 (allS g73 all0)
  have f86 := f78.keep K82 (ninS q76 nin0)
  have f87 := A72.keep K82
  refine Goes.of (fun t k => st82.trans k) ?_
  show Goes p e below (T82.setTop (mkF m 124 #[.val (.ref a1), .val (.ref a1), .val (.int (4 : Int32)), .val (.int (4 : Int32)), .val (.ref x3)] [(.ref b72)])) _
  have eh : T82.heap = T82.heap := rfl
  exact Goes.retA X82 hx (by rfl) Bd.returns (by rfl) hlocks (hb hby d3_124) (⟨b72, rfl, N82, by rw [eh]; exact K83, z75, by rw [eh]; exact E82, by rw [eh]; exact F82⟩) (by decide) (by decide)
theorem ef_14 (m : MethodId) (x0 : Addr) (x1 : Addr) (x2 : Addr) : entryFrame m #[(.ref x0), (.ref x1), (.ref x2)] 3 = mkF m 0 #[.val (.ref x0), .val (.ref x1), .val (.ref x2)] [] := by first | (simp [entryFrame, mkF, argsToLocals, Value.category]; done) | rfl
def Q14 (Z : State) (a1 : Addr) (a2 : Addr) (a3 : Addr) (h0 : Heap) (n0 : Nat) (v : Option Value) (h : Heap) (L : List Loc) : Prop := ∃ (b d : Addr) (k : ClassId), v = some (.ref b) ∧ Fr n0 L ∧ Keep h0 h [] ∧ Exa Z h b "java/util/ImmutableCollections$ListN" ∧ Fld Z h b "java/util/ImmutableCollections$ListN" "elements" "[Ljava/lang/Object;" (.ref d) ∧ Arv Z h d k (.object "java/lang/Object") (3 : Int32) [(.ref a1), (.ref a2), (.ref a3)] .null
set_option maxRecDepth 65536 in
set_option maxHeartbeats 40000000 in
theorem rm14 (l : Launch) (Z : State) (a0 : Array Value) (hw : ∀ d ∈ tables_1, d.before a0 Z = true) (ws : List Jvm.Cond) (a1 : Addr) (a2 : Addr) (a3 : Addr) (h0 : Heap) (n0 : Nat) (Z0 : n0 ≤ h0.size) (O0 : Old Z n0 h0) (SA : Sta Z Z.heap "java/util/ImmutableCollections" "$assertionsDisabled" "Z" (.int 1)) (E1 : Exa Z h0 a1 "java/lang/String") (E2 : Exa Z h0 a2 "java/lang/String") (E3 : Exa Z h0 a3 "java/lang/String") :
    MetFree l (⟨"java/util/List", "of", "(Ljava/lang/Object;Ljava/lang/Object;Ljava/lang/Object;)Ljava/util/List;"⟩ : MethodName) (head1 (Jvm.Cond.code (⟨"java/util/List", "of", "(Ljava/lang/Object;Ljava/lang/Object;Ljava/lang/Object;)Ljava/util/List;"⟩ : MethodName) jdk_40_method_39_code 3 (some (.object "java/util/List")) :: ws) ({ frames := 6, cells := 2, slots := 5, locals := 79 } : Room)) (fun a U => a = #[(.ref a1), (.ref a2), (.ref a3)] ∧ Z.Warmed39 U.vm ∧ U.heap = h0) (fun _ _ _ _ _ => True) (fun _ U o U' => ∃ v L, o = .returned v ∧ Q14 Z a1 a2 a3 h0 n0 v U'.heap L ∧ FrameEnd U o U' L ({ frames := 6, cells := 2, slots := 5, locals := 79 } : Room).cells ({ frames := 6, cells := 2, slots := 5, locals := 79 } : Room).slots) := by
  refine MetFree.of_bodySF (plainFor_of_name pn_9) hisR ?_
  intro p e s m args below meth c s₁ Bd hml0 hP hK
  obtain ⟨rfl, hZ, hh⟩ := hP
  have hx := Bd.exec
  have hby := Bd.bytes
  have hml : c.maxLocals = 3 := hml0
  have hown : s.vm.findClass "java/util/List" = some m.cls := findClass_of_methodNamed Bd.named
  have hnm := (name_of_methodNamed Bd.named Bd.method).1
  have hlocks : meth.locks = false := BodyLoose.notSynchronized Bd
  have X0 : Stand p l e ({ frames := 6, cells := 2, slots := 5, locals := 79 } : Room) s m #[(.ref a1), (.ref a2), (.ref a3)] below meth c s₁ [] 0 0 := Stand.of_body Bd
  have e0 : s₁.heap = h0 := by rw [← hh, Bd.state]; rfl
  have N0 := Fr.nil n0
  show Goes p e below (s₁.setTop (entryFrame m #[(.ref a1), (.ref a2), (.ref a3)] 3)) (Fin s (Q14 Z a1 a2 a3 h0 n0) ({ frames := 6, cells := 2, slots := 5, locals := 79 } : Room).cells ({ frames := 6, cells := 2, slots := 5, locals := 79 } : Room).slots)
  refine Goes.of (fun t k => castTop (ef_14 m a1 a2 a3) k) ?_
  have K0 : Keep h0 h0 [] := Keep.refl _ _
  show Goes p e below (s₁.setTop (mkF m 0 #[.val (.ref a1), .val (.ref a2), .val (.ref a3)] [])) _
  refine Goes.of (fun t k => XS.iconst X0.here hx rfl (hb hby d14_0) k) ?_
  obtain ⟨T90, h90, k90, X90, e90, E90, A90, O90, st90⟩ := newR X0 hx hZ hown (wd hw 24 rfl) (wd hw 25 rfl) e0 (g := (mkF m 1 #[.val (.ref a1), .val (.ref a2), .val (.ref a3)] [(.int (3 : Int32))])) rfl (hb hby d14_1) rfl (by decide) (cap := 3) (by decide) (by decide) (by decide) (by decide)
  obtain ⟨b90, g90⟩ : ∃ z, z = h0.size := ⟨_, rfl⟩
  rw [← g90] at A90 st90
  have g91 : n0 ≤ b90 := Nat.le_trans Z0 (Nat.le_of_eq g90.symm)
  have z92 := Nat.le_trans Z0 E90.1
  have z93 : h0.size ≤ b90 := Nat.le_trans K0.1 (Nat.le_of_eq g90.symm)
  have q94 : a1 ≠ b90 := Nat.ne_of_lt (Nat.lt_of_lt_of_le E1.lt (Nat.le_of_eq g90.symm))
  have q95 : a2 ≠ b90 := Nat.ne_of_lt (Nat.lt_of_lt_of_le E2.lt (Nat.le_of_eq g90.symm))
  have q96 : a3 ≠ b90 := Nat.ne_of_lt (Nat.lt_of_lt_of_le E3.lt (Nat.le_of_eq g90.symm))
  have f97 := O0.ext E90
  have f98 := E1.ext E90
  have f99 := E2.ext E90
  have f100 := E3.ext E90
  have K101 : Keep h0 h90 [] := K0.ext E90
  have V90 : Arv Z h90 b90 k90 (.object "java/lang/Object") (3 : Int32) [.null, .null, .null] .null := (Arv.new A90 (by decide)).pad (pad_rep [] .null 3)
  refine Goes.of st90 ?_
  show Goes p e below (T90.setTop (mkF m 4 #[.val (.ref a1), .val (.ref a2), .val (.ref a3)] [(.ref b90)])) _
  refine Goes.of (fun t k => XS.dup X90.here hx rfl (hb hby d14_4) rfl rfl k) ?_
  show Goes p e below (T90.setTop (mkF m 5 #[.val (.ref a1), .val (.ref a2), .val (.ref a3)] [(.ref b90), (.ref b90)])) _
  refine Goes.of (fun t k => XS.iconst X90.here hx rfl (hb hby d14_5) k) ?_
  show Goes p e below (T90.setTop (mkF m 6 #[.val (.ref a1), .val (.ref a2), .val (.ref a3)] [(.int (0 : Int32)), (.ref b90), (.ref b90)])) _
  refine Goes.of (fun t k => XS.aloadN X90.here hx rfl (hb hby d14_6) rfl rfl k) ?_
  have Vc102 := V90
  obtain ⟨clc102, Arc102, qc102, Sc102, Nc102, Hc102, Gc102⟩ := Vc102
  have hin103 : ¬ ((0 : Int32) < 0 ∨ clc102.slots.size ≤ ((0 : Int32)).toNatClampNeg) := inb_of Sc102 ⟨by decide, by decide⟩
  obtain ⟨T104, h104, X104, e104, W104, st104⟩ := stR X90 hx hZ e90 Arc102 (j := (0 : Int32)) hin103 rfl (Sto.ofV Arc102 qc102 O90 (Ins.of_exa f98 (wd hw 26 rfl))) (g := (mkF m 7 #[.val (.ref a1), .val (.ref a2), .val (.ref a3)] [(.ref a1), (.int (0 : Int32)), (.ref b90), (.ref b90)])) rfl rfl (hb hby d14_7)
  have V104 : Arv Z h104 b90 k90 (.object "java/lang/Object") (3 : Int32) [(.ref a1), .null, .null] .null := Arv.set Arc102 qc102 Sc102 Nc102 Hc102 Gc102 rfl W104 0 rfl (Nat.le_of_ble_eq_true rfl)
  have K105 : Keep h0 h104 [] := K101.wr W104 (Or.inr z93)
  have z106 := Nat.le_trans z92 (Keep.of_wr W104).1
  have f107 := f97.wr W104 g91
  have f108 := f98.wr W104
  have f109 := f99.wr W104
  have f110 := f100.wr W104
  have N104 := Fr.snoc X104 N0 g91
  refine Goes.of st104 ?_
  show Goes p e below (T104.setTop (mkF m 8 #[.val (.ref a1), .val (.ref a2), .val (.ref a3)] [(.ref b90)])) _
  refine Goes.of (fun t k => XS.dup X104.here hx rfl (hb hby d14_8) rfl rfl k) ?_
  show Goes p e below (T104.setTop (mkF m 9 #[.val (.ref a1), .val (.ref a2), .val (.ref a3)] [(.ref b90), (.ref b90)])) _
  refine Goes.of (fun t k => XS.iconst X104.here hx rfl (hb hby d14_9) k) ?_
  show Goes p e below (T104.setTop (mkF m 10 #[.val (.ref a1), .val (.ref a2), .val (.ref a3)] [(.int (1 : Int32)), (.ref b90), (.ref b90)])) _
  refine Goes.of (fun t k => XS.aloadN X104.here hx rfl (hb hby d14_10) rfl rfl k) ?_
  have Vc112 := V104
  obtain ⟨clc112, Arc112, qc112, Sc112, Nc112, Hc112, Gc112⟩ := Vc112
  have hin113 : ¬ ((1 : Int32) < 0 ∨ clc112.slots.size ≤ ((1 : Int32)).toNatClampNeg) := inb_of Sc112 ⟨by decide, by decide⟩
  obtain ⟨T114, h114, X114, e114, W114, st114⟩ := stR X104 hx hZ e104 Arc112 (j := (1 : Int32)) hin113 rfl (Sto.ofV Arc112 qc112 O90 (Ins.of_exa f109 (wd hw 26 rfl))) (g := (mkF m 11 #[.val (.ref a1), .val (.ref a2), .val (.ref a3)] [(.ref a2), (.int (1 : Int32)), (.ref b90), (.ref b90)])) rfl rfl (hb hby d14_11)
  have V114 : Arv Z h114 b90 k90 (.object "java/lang/Object") (3 : Int32) [(.ref a1), (.ref a2), .null] .null := Arv.set Arc112 qc112 Sc112 Nc112 Hc112 Gc112 rfl W114 1 rfl (Nat.le_of_ble_eq_true rfl)
  have K115 : Keep h0 h114 [] := K105.wr W114 (Or.inr z93)
  have z116 := Nat.le_trans z106 (Keep.of_wr W114).1
  have f117 := f107.wr W114 g91
  have f118 := f108.wr W114
  have f119 := f109.wr W114
  have f120 := f110.wr W114
  have N114 := Fr.snoc X114 N104 g91
  refine Goes.of st114 ?_
  show Goes p e below (T114.setTop (mkF m 12 #[.val (.ref a1), .val (.ref a2), .val (.ref a3)] [(.ref b90)])) _
  refine Goes.of (fun t k => XS.dup X114.here hx rfl (hb hby d14_12) rfl rfl k) ?_
  show Goes p e below (T114.setTop (mkF m 13 #[.val (.ref a1), .val (.ref a2), .val (.ref a3)] [(.ref b90), (.ref b90)])) _
  refine Goes.of (fun t k => XS.iconst X114.here hx rfl (hb hby d14_13) k) ?_
  show Goes p e below (T114.setTop (mkF m 14 #[.val (.ref a1), .val (.ref a2), .val (.ref a3)] [(.int (2 : Int32)), (.ref b90), (.ref b90)])) _
  refine Goes.of (fun t k => XS.aloadN X114.here hx rfl (hb hby d14_14) rfl rfl k) ?_
  have Vc122 := V114
  obtain ⟨clc122, Arc122, qc122, Sc122, Nc122, Hc122, Gc122⟩ := Vc122
  have hin123 : ¬ ((2 : Int32) < 0 ∨ clc122.slots.size ≤ ((2 : Int32)).toNatClampNeg) := inb_of Sc122 ⟨by decide, by decide⟩
  obtain ⟨T124, h124, X124, e124, W124, st124⟩ := stR X114 hx hZ e114 Arc122 (j := (2 : Int32)) hin123 rfl (Sto.ofV Arc122 qc122 O90 (Ins.of_exa f120 (wd hw 26 rfl))) (g := (mkF m 15 #[.val (.ref a1), .val (.ref a2), .val (.ref a3)] [(.ref a3), (.int (2 : Int32)), (.ref b90), (.ref b90)])) rfl rfl (hb hby d14_15)
  have V124 : Arv Z h124 b90 k90 (.object "java/lang/Object") (3 : Int32) [(.ref a1), (.ref a2), (.ref a3)] .null := Arv.set Arc122 qc122 Sc122 Nc122 Hc122 Gc122 rfl W124 2 rfl (Nat.le_of_ble_eq_true rfl)
  have K125 : Keep h0 h124 [] := K115.wr W124 (Or.inr z93)
  have z126 := Nat.le_trans z116 (Keep.of_wr W124).1
  have f127 := f117.wr W124 g91
  have f128 := f118.wr W124
  have f129 := f119.wr W124
  have f130 := f120.wr W124
  have N124 := Fr.snoc X124 N114 g91
  refine Goes.of st124 ?_
  obtain ⟨_, _, ⟨T132, L132, k132, n132⟩, -, X132, ⟨Lc132, hQ132, l132, y132, z132⟩, st132⟩ := Jvm.LawKit.callS X124 hx (y := (⟨"java/util/ImmutableCollections", "listFromTrustedArray", "([Ljava/lang/Object;)Ljava/util/List;"⟩ : MethodName)) hown (mvT hZ (wd hw 27 rfl)) (mvT hZ (wd hw 28 rfl)) (mvT hZ (wd hw 29 rfl)) (mvT hZ (wd hw 30 rfl)) (by decide) (backOf (W := 0) (rm3 l Z a0 hw [] b90 _ a1 a2 a3 h124 n0 z126 f127 SA V124) hZ (wd hw 30 rfl) (wd hw 29 rfl) (by decide) (by decide)) (g := (mkF m 16 #[.val (.ref a1), .val (.ref a2), .val (.ref a3)] [(.ref b90)])) rfl (by rw [hml]; rfl) (argsL := [(.ref b90)]) (rest := []) (lenOf pd_10 rfl) rfl (by show 2 * 0 + _ ≤ _; exact Nat.le_of_eq rfl) (hb hby d14_16) (fun _ _ => ⟨rfl, e124, (by decide : 1 + 1 ≤ _), (by decide : 3 + 2 ≤ _)⟩)
  dsimp only [Pt.U, Pt.locs, Pt.cells, Pt.slots] at X132 l132 y132 z132 st132 hQ132
  subst l132 y132 z132
  obtain ⟨b132, rfl, N132q, K132, z132b, E132, F132⟩ := hQ132
  have N132 := Fr.app N124 N132q
  have q133 : a1 ≠ b132 := Nat.ne_of_lt (Nat.lt_of_lt_of_le f128.lt z132b)
  have q134 : a2 ≠ b132 := Nat.ne_of_lt (Nat.lt_of_lt_of_le f129.lt z132b)
  have q135 : a3 ≠ b132 := Nat.ne_of_lt (Nat.lt_of_lt_of_le f130.lt z132b)
  have q136 : b90 ≠ b132 := Nat.ne_of_lt (Nat.lt_of_lt_of_le V124.lt z132b)
  have g137 : n0 ≤ b132 := Nat.le_trans z126 z132b
  have z138 : h0.size ≤ b132 := Nat.le_trans K125.1 z132b
  have K139 : Keep h0 T132.heap [] := K125.trans K132 all0
  have z140 := Nat.le_trans z126 K132.1
  have f141 := f127.keep K132 all0
  have f142 := f128.keep K132
  have f143 := f129.keep K132
  have f144 := f130.keep K132
  have f145 := V124.keep K132 nin0
  refine Goes.of st132 ?_
  show Goes p e below (T132.setTop (mkF m 19 #[.val (.ref a1), .val (.ref a2), .val (.ref a3)] [(.ref b132)])) _
  have eh : T132.heap = T132.heap := rfl
  exact Goes.retA X132 hx (by rfl) Bd.returns (by rfl) hlocks (hb hby d14_19) (⟨b132, b90, _, rfl, N132, by rw [eh]; exact K139, by rw [eh]; exact E132, by rw [eh]; exact F132, by rw [eh]; exact f145⟩) (by decide) (by decide)
theorem ef_2 (m : MethodId) (x0 : Addr) (x1 : Addr) (x2 : Addr) (x3 : Addr) : entryFrame m #[(.ref x0), (.ref x1), (.ref x2), (.ref x3)] 4 = mkF m 0 #[.val (.ref x0), .val (.ref x1), .val (.ref x2), .val (.ref x3)] [] := by first | (simp [entryFrame, mkF, argsToLocals, Value.category]; done) | rfl
def Q2 (Z : State) (a1 : Addr) (a2 : Addr) (a3 : Addr) (a4 : Addr) (h0 : Heap) (n0 : Nat) (v : Option Value) (h : Heap) (L : List Loc) : Prop := ∃ (b d : Addr) (k : ClassId), v = some (.ref b) ∧ Fr n0 L ∧ Keep h0 h [] ∧ Exa Z h b "java/util/ImmutableCollections$ListN" ∧ Fld Z h b "java/util/ImmutableCollections$ListN" "elements" "[Ljava/lang/Object;" (.ref d) ∧ Arv Z h d k (.object "java/lang/Object") (4 : Int32) [(.ref a1), (.ref a2), (.ref a3), (.ref a4)] .null
set_option maxRecDepth 65536 in
set_option maxHeartbeats 40000000 in
theorem rm2 (l : Launch) (Z : State) (a0 : Array Value) (hw : ∀ d ∈ tables_1, d.before a0 Z = true) (ws : List Jvm.Cond) (a1 : Addr) (a2 : Addr) (a3 : Addr) (a4 : Addr) (h0 : Heap) (n0 : Nat) (Z0 : n0 ≤ h0.size) (O0 : Old Z n0 h0) (SA : Sta Z Z.heap "java/util/ImmutableCollections" "$assertionsDisabled" "Z" (.int 1)) (E1 : Exa Z h0 a1 "java/lang/String") (E2 : Exa Z h0 a2 "java/lang/String") (E3 : Exa Z h0 a3 "java/lang/String") (E4 : Exa Z h0 a4 "java/lang/String") :
    MetFree l (⟨"java/util/List", "of", "(Ljava/lang/Object;Ljava/lang/Object;Ljava/lang/Object;Ljava/lang/Object;)Ljava/util/List;"⟩ : MethodName) (head1 (Jvm.Cond.code (⟨"java/util/List", "of", "(Ljava/lang/Object;Ljava/lang/Object;Ljava/lang/Object;Ljava/lang/Object;)Ljava/util/List;"⟩ : MethodName) jdk_40_method_40_code 4 (some (.object "java/util/List")) :: ws) ({ frames := 6, cells := 2, slots := 6, locals := 79 } : Room)) (fun a U => a = #[(.ref a1), (.ref a2), (.ref a3), (.ref a4)] ∧ Z.Warmed39 U.vm ∧ U.heap = h0) (fun _ _ _ _ _ => True) (fun _ U o U' => ∃ v L, o = .returned v ∧ Q2 Z a1 a2 a3 a4 h0 n0 v U'.heap L ∧ FrameEnd U o U' L ({ frames := 6, cells := 2, slots := 6, locals := 79 } : Room).cells ({ frames := 6, cells := 2, slots := 6, locals := 79 } : Room).slots) := by
  refine MetFree.of_bodySF (plainFor_of_name pn_9) hisR ?_
  intro p e s m args below meth c s₁ Bd hml0 hP hK
  obtain ⟨rfl, hZ, hh⟩ := hP
  have hx := Bd.exec
  have hby := Bd.bytes
  have hml : c.maxLocals = 4 := hml0
  have hown : s.vm.findClass "java/util/List" = some m.cls := findClass_of_methodNamed Bd.named
  have hnm := (name_of_methodNamed Bd.named Bd.method).1
  have hlocks : meth.locks = false := BodyLoose.notSynchronized Bd
  have X0 : Stand p l e ({ frames := 6, cells := 2, slots := 6, locals := 79 } : Room) s m #[(.ref a1), (.ref a2), (.ref a3), (.ref a4)] below meth c s₁ [] 0 0 := Stand.of_body Bd
  have e0 : s₁.heap = h0 := by rw [← hh, Bd.state]; rfl
  have N0 := Fr.nil n0
  show Goes p e below (s₁.setTop (entryFrame m #[(.ref a1), (.ref a2), (.ref a3), (.ref a4)] 4)) (Fin s (Q2 Z a1 a2 a3 a4 h0 n0) ({ frames := 6, cells := 2, slots := 6, locals := 79 } : Room).cells ({ frames := 6, cells := 2, slots := 6, locals := 79 } : Room).slots)
  refine Goes.of (fun t k => castTop (ef_2 m a1 a2 a3 a4) k) ?_
  have K0 : Keep h0 h0 [] := Keep.refl _ _
  show Goes p e below (s₁.setTop (mkF m 0 #[.val (.ref a1), .val (.ref a2), .val (.ref a3), .val (.ref a4)] [])) _
  refine Goes.of (fun t k => XS.iconst X0.here hx rfl (hb hby d2_0) k) ?_
  obtain ⟨T146, h146, k146, X146, e146, E146, A146, O146, st146⟩ := newR X0 hx hZ hown (wd hw 24 rfl) (wd hw 25 rfl) e0 (g := (mkF m 1 #[.val (.ref a1), .val (.ref a2), .val (.ref a3), .val (.ref a4)] [(.int (4 : Int32))])) rfl (hb hby d2_1) rfl (by decide) (cap := 4) (by decide) (by decide) (by decide) (by decide)
  obtain ⟨b146, g146⟩ : ∃ z, z = h0.size := ⟨_, rfl⟩
  rw [← g146] at A146 st146
  have g147 : n0 ≤ b146 := Nat.le_trans Z0 (Nat.le_of_eq g146.symm)
  have z148 := Nat.le_trans Z0 E146.1
  have z149 : h0.size ≤ b146 := Nat.le_trans K0.1 (Nat.le_of_eq g146.symm)
  have q150 : a1 ≠ b146 := Nat.ne_of_lt (Nat.lt_of_lt_of_le E1.lt (Nat.le_of_eq g146.symm))
  have q151 : a2 ≠ b146 := Nat.ne_of_lt (Nat.lt_of_lt_of_le E2.lt (Nat.le_of_eq g146.symm))
  have q152 : a3 ≠ b146 := Nat.ne_of_lt (Nat.lt_of_lt_of_le E3.lt (Nat.le_of_eq g146.symm))
  have q153 : a4 ≠ b146 := Nat.ne_of_lt (Nat.lt_of_lt_of_le E4.lt (Nat.le_of_eq g146.symm))
  have f154 := O0.ext E146
  have f155 := E1.ext E146
  have f156 := E2.ext E146
  have f157 := E3.ext E146
  have f158 := E4.ext E146
  have K159 : Keep h0 h146 [] := K0.ext E146
  have V146 : Arv Z h146 b146 k146 (.object "java/lang/Object") (4 : Int32) [.null, .null, .null, .null] .null := (Arv.new A146 (by decide)).pad (pad_rep [] .null 4)
  refine Goes.of st146 ?_
  show Goes p e below (T146.setTop (mkF m 4 #[.val (.ref a1), .val (.ref a2), .val (.ref a3), .val (.ref a4)] [(.ref b146)])) _
  refine Goes.of (fun t k => XS.dup X146.here hx rfl (hb hby d2_4) rfl rfl k) ?_
  show Goes p e below (T146.setTop (mkF m 5 #[.val (.ref a1), .val (.ref a2), .val (.ref a3), .val (.ref a4)] [(.ref b146), (.ref b146)])) _
  refine Goes.of (fun t k => XS.iconst X146.here hx rfl (hb hby d2_5) k) ?_
  show Goes p e below (T146.setTop (mkF m 6 #[.val (.ref a1), .val (.ref a2), .val (.ref a3), .val (.ref a4)] [(.int (0 : Int32)), (.ref b146), (.ref b146)])) _
  refine Goes.of (fun t k => XS.aloadN X146.here hx rfl (hb hby d2_6) rfl rfl k) ?_
  have Vc160 := V146
  obtain ⟨clc160, Arc160, qc160, Sc160, Nc160, Hc160, Gc160⟩ := Vc160
  have hin161 : ¬ ((0 : Int32) < 0 ∨ clc160.slots.size ≤ ((0 : Int32)).toNatClampNeg) := inb_of Sc160 ⟨by decide, by decide⟩
  obtain ⟨T162, h162, X162, e162, W162, st162⟩ := stR X146 hx hZ e146 Arc160 (j := (0 : Int32)) hin161 rfl (Sto.ofV Arc160 qc160 O146 (Ins.of_exa f155 (wd hw 26 rfl))) (g := (mkF m 7 #[.val (.ref a1), .val (.ref a2), .val (.ref a3), .val (.ref a4)] [(.ref a1), (.int (0 : Int32)), (.ref b146), (.ref b146)])) rfl rfl (hb hby d2_7)
  have V162 : Arv Z h162 b146 k146 (.object "java/lang/Object") (4 : Int32) [(.ref a1), .null, .null, .null] .null := Arv.set Arc160 qc160 Sc160 Nc160 Hc160 Gc160 rfl W162 0 rfl (Nat.le_of_ble_eq_true rfl)
  have K163 : Keep h0 h162 [] := K159.wr W162 (Or.inr z149)
  have z164 := Nat.le_trans z148 (Keep.of_wr W162).1
  have f165 := f154.wr W162 g147
  have f166 := f155.wr W162
  have f167 := f156.wr W162
  have f168 := f157.wr W162
  have f169 := f158.wr W162
  have N162 := Fr.snoc X162 N0 g147
  refine Goes.of st162 ?_
  show Goes p e below (T162.setTop (mkF m 8 #[.val (.ref a1), .val (.ref a2), .val (.ref a3), .val (.ref a4)] [(.ref b146)])) _
  refine Goes.of (fun t k => XS.dup X162.here hx rfl (hb hby d2_8) rfl rfl k) ?_
  show Goes p e below (T162.setTop (mkF m 9 #[.val (.ref a1), .val (.ref a2), .val (.ref a3), .val (.ref a4)] [(.ref b146), (.ref b146)])) _
  refine Goes.of (fun t k => XS.iconst X162.here hx rfl (hb hby d2_9) k) ?_
  show Goes p e below (T162.setTop (mkF m 10 #[.val (.ref a1), .val (.ref a2), .val (.ref a3), .val (.ref a4)] [(.int (1 : Int32)), (.ref b146), (.ref b146)])) _
  refine Goes.of (fun t k => XS.aloadN X162.here hx rfl (hb hby d2_10) rfl rfl k) ?_
  have Vc171 := V162
  obtain ⟨clc171, Arc171, qc171, Sc171, Nc171, Hc171, Gc171⟩ := Vc171
  have hin172 : ¬ ((1 : Int32) < 0 ∨ clc171.slots.size ≤ ((1 : Int32)).toNatClampNeg) := inb_of Sc171 ⟨by decide, by decide⟩
  obtain ⟨T173, h173, X173, e173, W173, st173⟩ := stR X162 hx hZ e162 Arc171 (j := (1 : Int32)) hin172 rfl (Sto.ofV Arc171 qc171 O146 (Ins.of_exa f167 (wd hw 26 rfl))) (g := (mkF m 11 #[.val (.ref a1), .val (.ref a2), .val (.ref a3), .val (.ref a4)] [(.ref a2), (.int (1 : Int32)), (.ref b146), (.ref b146)])) rfl rfl (hb hby d2_11)
  have V173 : Arv Z h173 b146 k146 (.object "java/lang/Object") (4 : Int32) [(.ref a1), (.ref a2), .null, .null] .null := Arv.set Arc171 qc171 Sc171 Nc171 Hc171 Gc171 rfl W173 1 rfl (Nat.le_of_ble_eq_true rfl)
  have K174 : Keep h0 h173 [] := K163.wr W173 (Or.inr z149)
  have z175 := Nat.le_trans z164 (Keep.of_wr W173).1
  have f176 := f165.wr W173 g147
  have f177 := f166.wr W173
  have f178 := f167.wr W173
  have f179 := f168.wr W173
  have f180 := f169.wr W173
  have N173 := Fr.snoc X173 N162 g147
  refine Goes.of st173 ?_
  show Goes p e below (T173.setTop (mkF m 12 #[.val (.ref a1), .val (.ref a2), .val (.ref a3), .val (.ref a4)] [(.ref b146)])) _
  refine Goes.of (fun t k => XS.dup X173.here hx rfl (hb hby d2_12) rfl rfl k) ?_
  show Goes p e below (T173.setTop (mkF m 13 #[.val (.ref a1), .val (.ref a2), .val (.ref a3), .val (.ref a4)] [(.ref b146), (.ref b146)])) _
  refine Goes.of (fun t k => XS.iconst X173.here hx rfl (hb hby d2_13) k) ?_
  show Goes p e below (T173.setTop (mkF m 14 #[.val (.ref a1), .val (.ref a2), .val (.ref a3), .val (.ref a4)] [(.int (2 : Int32)), (.ref b146), (.ref b146)])) _
  refine Goes.of (fun t k => XS.aloadN X173.here hx rfl (hb hby d2_14) rfl rfl k) ?_
  have Vc182 := V173
  obtain ⟨clc182, Arc182, qc182, Sc182, Nc182, Hc182, Gc182⟩ := Vc182
  have hin183 : ¬ ((2 : Int32) < 0 ∨ clc182.slots.size ≤ ((2 : Int32)).toNatClampNeg) := inb_of Sc182 ⟨by decide, by decide⟩
  obtain ⟨T184, h184, X184, e184, W184, st184⟩ := stR X173 hx hZ e173 Arc182 (j := (2 : Int32)) hin183 rfl (Sto.ofV Arc182 qc182 O146 (Ins.of_exa f179 (wd hw 26 rfl))) (g := (mkF m 15 #[.val (.ref a1), .val (.ref a2), .val (.ref a3), .val (.ref a4)] [(.ref a3), (.int (2 : Int32)), (.ref b146), (.ref b146)])) rfl rfl (hb hby d2_15)
  have V184 : Arv Z h184 b146 k146 (.object "java/lang/Object") (4 : Int32) [(.ref a1), (.ref a2), (.ref a3), .null] .null := Arv.set Arc182 qc182 Sc182 Nc182 Hc182 Gc182 rfl W184 2 rfl (Nat.le_of_ble_eq_true rfl)
  have K185 : Keep h0 h184 [] := K174.wr W184 (Or.inr z149)
  have z186 := Nat.le_trans z175 (Keep.of_wr W184).1
  have f187 := f176.wr W184 g147
  have f188 := f177.wr W184
  have f189 := f178.wr W184
  have f190 := f179.wr W184
  have f191 := f180.wr W184
  have N184 := Fr.snoc X184 N173 g147
  refine Goes.of st184 ?_
  show Goes p e below (T184.setTop (mkF m 16 #[.val (.ref a1), .val (.ref a2), .val (.ref a3), .val (.ref a4)] [(.ref b146)])) _
  refine Goes.of (fun t k => XS.dup X184.here hx rfl (hb hby d2_16) rfl rfl k) ?_
  show Goes p e below (T184.setTop (mkF m 17 #[.val (.ref a1), .val (.ref a2), .val (.ref a3), .val (.ref a4)] [(.ref b146), (.ref b146)])) _
  refine Goes.of (fun t k => XS.iconst X184.here hx rfl (hb hby d2_17) k) ?_
  show Goes p e below (T184.setTop (mkF m 18 #[.val (.ref a1), .val (.ref a2), .val (.ref a3), .val (.ref a4)] [(.int (3 : Int32)), (.ref b146), (.ref b146)])) _
  refine Goes.of (fun t k => XS.aloadN X184.here hx rfl (hb hby d2_18) rfl rfl k) ?_
  have Vc193 := V184
  obtain ⟨clc193, Arc193, qc193, Sc193, Nc193, Hc193, Gc193⟩ := Vc193
  have hin194 : ¬ ((3 : Int32) < 0 ∨ clc193.slots.size ≤ ((3 : Int32)).toNatClampNeg) := inb_of Sc193 ⟨by decide, by decide⟩
  obtain ⟨T195, h195, X195, e195, W195, st195⟩ := stR X184 hx hZ e184 Arc193 (j := (3 : Int32)) hin194 rfl (Sto.ofV Arc193 qc193 O146 (Ins.of_exa f191 (wd hw 26 rfl))) (g := (mkF m 19 #[.val (.ref a1), .val (.ref a2), .val (.ref a3), .val (.ref a4)] [(.ref a4), (.int (3 : Int32)), (.ref b146), (.ref b146)])) rfl rfl (hb hby d2_19)
  have V195 : Arv Z h195 b146 k146 (.object "java/lang/Object") (4 : Int32) [(.ref a1), (.ref a2), (.ref a3), (.ref a4)] .null := Arv.set Arc193 qc193 Sc193 Nc193 Hc193 Gc193 rfl W195 3 rfl (Nat.le_of_ble_eq_true rfl)
  have K196 : Keep h0 h195 [] := K185.wr W195 (Or.inr z149)
  have z197 := Nat.le_trans z186 (Keep.of_wr W195).1
  have f198 := f187.wr W195 g147
  have f199 := f188.wr W195
  have f200 := f189.wr W195
  have f201 := f190.wr W195
  have f202 := f191.wr W195
  have N195 := Fr.snoc X195 N184 g147
  refine Goes.of st195 ?_
  obtain ⟨_, _, ⟨T204, L204, k204, n204⟩, -, X204, ⟨Lc204, hQ204, l204, y204, z204⟩, st204⟩ := Jvm.LawKit.callS X195 hx (y := (⟨"java/util/ImmutableCollections", "listFromTrustedArray", "([Ljava/lang/Object;)Ljava/util/List;"⟩ : MethodName)) hown (mvT hZ (wd hw 27 rfl)) (mvT hZ (wd hw 28 rfl)) (mvT hZ (wd hw 29 rfl)) (mvT hZ (wd hw 30 rfl)) (by decide) (backOf (W := 0) (rm3_52 l Z a0 hw [] b146 _ a1 a2 a3 a4 h195 n0 z197 f198 SA V195) hZ (wd hw 30 rfl) (wd hw 29 rfl) (by decide) (by decide)) (g := (mkF m 20 #[.val (.ref a1), .val (.ref a2), .val (.ref a3), .val (.ref a4)] [(.ref b146)])) rfl (by rw [hml]; rfl) (argsL := [(.ref b146)]) (rest := []) (lenOf pd_10 rfl) rfl (by show 2 * 0 + _ ≤ _; exact Nat.le_of_eq rfl) (hb hby d2_20) (fun _ _ => ⟨rfl, e195, (by decide : 1 + 1 ≤ _), (by decide : 4 + 2 ≤ _)⟩)
  dsimp only [Pt.U, Pt.locs, Pt.cells, Pt.slots] at X204 l204 y204 z204 st204 hQ204
  subst l204 y204 z204
  obtain ⟨b204, rfl, N204q, K204, z204b, E204, F204⟩ := hQ204
  have N204 := Fr.app N195 N204q
  have q205 : a1 ≠ b204 := Nat.ne_of_lt (Nat.lt_of_lt_of_le f199.lt z204b)
  have q206 : a2 ≠ b204 := Nat.ne_of_lt (Nat.lt_of_lt_of_le f200.lt z204b)
  have q207 : a3 ≠ b204 := Nat.ne_of_lt (Nat.lt_of_lt_of_le f201.lt z204b)
  have q208 : a4 ≠ b204 := Nat.ne_of_lt (Nat.lt_of_lt_of_le f202.lt z204b)
  have q209 : b146 ≠ b204 := Nat.ne_of_lt (Nat.lt_of_lt_of_le V195.lt z204b)
  have g210 : n0 ≤ b204 := Nat.le_trans z197 z204b
  have z211 : h0.size ≤ b204 := Nat.le_trans K196.1 z204b
  have K212 : Keep h0 T204.heap [] := K196.trans K204 all0
  have z213 := Nat.le_trans z197 K204.1
  have f214 := f198.keep K204 all0
  have f215 := f199.keep K204
  have f216 := f200.keep K204
  have f217 := f201.keep K204
  have f218 := f202.keep K204
  have f219 := V195.keep K204 nin0
  refine Goes.of st204 ?_
  show Goes p e below (T204.setTop (mkF m 23 #[.val (.ref a1), .val (.ref a2), .val (.ref a3), .val (.ref a4)] [(.ref b204)])) _
  have eh : T204.heap = T204.heap := rfl
  exact Goes.retA X204 hx (by rfl) Bd.returns (by rfl) hlocks (hb hby d2_23) (⟨b204, b146, _, rfl, N204, by rw [eh]; exact K212, by rw [eh]; exact E204, by rw [eh]; exact F204, by rw [eh]; exact f219⟩) (by decide) (by decide)
theorem ef_10 (m : MethodId) (x0 : Addr) : entryFrame m #[(.ref x0)] 1 = mkF m 0 #[.val (.ref x0)] [] := by first | (simp [entryFrame, mkF, argsToLocals, Value.category]; done) | rfl
def Q10 (Z : State) (a1 : Addr) (d : Addr) (k : ClassId) (x0 : Addr) (x1 : Addr) (x2 : Addr) (h0 : Heap) (n0 : Nat) (v : Option Value) (h : Heap) (L : List Loc) : Prop := v = some (.int (3 : Int32)) ∧ Fr n0 L ∧ h = h0
set_option maxRecDepth 65536 in
set_option maxHeartbeats 40000000 in
theorem rm10 (l : Launch) (Z : State) (a0 : Array Value) (hw : ∀ d ∈ tables_1, d.before a0 Z = true) (ws : List Jvm.Cond) (a1 : Addr) (d : Addr) (k : ClassId) (x0 : Addr) (x1 : Addr) (x2 : Addr) (h0 : Heap) (n0 : Nat) (Z0 : n0 ≤ h0.size) (F : Fld Z h0 a1 "java/util/ImmutableCollections$ListN" "elements" "[Ljava/lang/Object;" (.ref d)) (A : Arv Z h0 d k (.object "java/lang/Object") (3 : Int32) [(.ref x0), (.ref x1), (.ref x2)] .null) :
    MetFree l (⟨"java/util/ImmutableCollections$ListN", "size", "()I"⟩ : MethodName) (head1 (Jvm.Cond.code (⟨"java/util/ImmutableCollections$ListN", "size", "()I"⟩ : MethodName) jdk_45_method_3_code 1 (some .int) :: ws) ({ frames := 0, cells := 0, slots := 0, locals := 0 } : Room)) (fun a U => a = #[(.ref a1)] ∧ Z.Warmed39 U.vm ∧ U.heap = h0) (fun _ _ _ _ _ => True) (fun _ U o U' => ∃ v L, o = .returned v ∧ Q10 Z a1 d k x0 x1 x2 h0 n0 v U'.heap L ∧ FrameEnd U o U' L ({ frames := 0, cells := 0, slots := 0, locals := 0 } : Room).cells ({ frames := 0, cells := 0, slots := 0, locals := 0 } : Room).slots) := by
  refine MetFree.of_bodySF (plainFor_of_name pn_4) hisR ?_
  intro p e s m args below meth c s₁ Bd hml0 hP hK
  obtain ⟨rfl, hZ, hh⟩ := hP
  have hx := Bd.exec
  have hby := Bd.bytes
  have hml : c.maxLocals = 1 := hml0
  have hown : s.vm.findClass "java/util/ImmutableCollections$ListN" = some m.cls := findClass_of_methodNamed Bd.named
  have hnm := (name_of_methodNamed Bd.named Bd.method).1
  have hlocks : meth.locks = false := BodyLoose.notSynchronized Bd
  have X0 : Stand p l e ({ frames := 0, cells := 0, slots := 0, locals := 0 } : Room) s m #[(.ref a1)] below meth c s₁ [] 0 0 := Stand.of_body Bd
  have e0 : s₁.heap = h0 := by rw [← hh, Bd.state]; rfl
  have N0 := Fr.nil n0
  show Goes p e below (s₁.setTop (entryFrame m #[(.ref a1)] 1)) (Fin s (Q10 Z a1 d k x0 x1 x2 h0 n0) ({ frames := 0, cells := 0, slots := 0, locals := 0 } : Room).cells ({ frames := 0, cells := 0, slots := 0, locals := 0 } : Room).slots)
  refine Goes.of (fun t k => castTop (ef_10 m a1) k) ?_
  show Goes p e below (s₁.setTop (mkF m 0 #[.val (.ref a1)] [])) _
  refine Goes.of (fun t k => XS.aloadN X0.here hx rfl (hb hby d10_0) rfl rfl k) ?_
  obtain ⟨T220, X220, e220, st220⟩ := getF X0 hx hZ hown (host := "") (Or.inl (wd hw 64 rfl)) Via.refl e0 F (g := (mkF m 1 #[.val (.ref a1)] [(.ref a1)])) rfl rfl (hb hby d10_1)
  refine Goes.of st220 ?_
  have Vc221 := A
  obtain ⟨clc221, Arc221, qc221, Sc221, Nc221, Hc221, Gc221⟩ := Vc221
  refine Goes.of (X220.arraylength hx (by rw [e220]; exact Arc221.1) (State.isArrayOf_alike hZ.alike Arc221.2.1) (g := (mkF m 4 #[.val (.ref a1)] [(.ref d)])) rfl rfl (hb hby d10_4)) ?_
  rw [len_of Sc221 Nc221]
  show Goes p e below (T220.setTop (mkF m 5 #[.val (.ref a1)] [(.int (3 : Int32))])) _
  exact Goes.retI X220 hx Bd.returns hlocks (hb hby d10_5) (⟨rfl, N0, e220⟩) (by decide) (by decide)
theorem ef_11 (m : MethodId) (x0 : Addr) (x1 : Int32) : entryFrame m #[(.ref x0), (.int x1)] 2 = mkF m 0 #[.val (.ref x0), .val (.int x1)] [] := by first | (simp [entryFrame, mkF, argsToLocals, Value.category]; done) | rfl
def Q11 (Z : State) (a1 : Addr) (d : Addr) (k : ClassId) (x0 : Addr) (x1 : Addr) (x2 : Addr) (h0 : Heap) (n0 : Nat) (v : Option Value) (h : Heap) (L : List Loc) : Prop := v = some (.ref x0) ∧ Fr n0 L ∧ h = h0
set_option maxRecDepth 65536 in
set_option maxHeartbeats 40000000 in
theorem rm11 (l : Launch) (Z : State) (a0 : Array Value) (hw : ∀ d ∈ tables_1, d.before a0 Z = true) (ws : List Jvm.Cond) (a1 : Addr) (d : Addr) (k : ClassId) (x0 : Addr) (x1 : Addr) (x2 : Addr) (h0 : Heap) (n0 : Nat) (Z0 : n0 ≤ h0.size) (F : Fld Z h0 a1 "java/util/ImmutableCollections$ListN" "elements" "[Ljava/lang/Object;" (.ref d)) (A : Arv Z h0 d k (.object "java/lang/Object") (3 : Int32) [(.ref x0), (.ref x1), (.ref x2)] .null) :
    MetFree l (⟨"java/util/ImmutableCollections$ListN", "get", "(I)Ljava/lang/Object;"⟩ : MethodName) (head1 (Jvm.Cond.code (⟨"java/util/ImmutableCollections$ListN", "get", "(I)Ljava/lang/Object;"⟩ : MethodName) jdk_45_method_4_code 2 (some (.object "java/lang/Object")) :: ws) ({ frames := 0, cells := 0, slots := 0, locals := 0 } : Room)) (fun a U => a = #[(.ref a1), (.int (0 : Int32))] ∧ Z.Warmed39 U.vm ∧ U.heap = h0) (fun _ _ _ _ _ => True) (fun _ U o U' => ∃ v L, o = .returned v ∧ Q11 Z a1 d k x0 x1 x2 h0 n0 v U'.heap L ∧ FrameEnd U o U' L ({ frames := 0, cells := 0, slots := 0, locals := 0 } : Room).cells ({ frames := 0, cells := 0, slots := 0, locals := 0 } : Room).slots) := by
  refine MetFree.of_bodySF (plainFor_of_name pn_4) hisR ?_
  intro p e s m args below meth c s₁ Bd hml0 hP hK
  obtain ⟨rfl, hZ, hh⟩ := hP
  have hx := Bd.exec
  have hby := Bd.bytes
  have hml : c.maxLocals = 2 := hml0
  have hown : s.vm.findClass "java/util/ImmutableCollections$ListN" = some m.cls := findClass_of_methodNamed Bd.named
  have hnm := (name_of_methodNamed Bd.named Bd.method).1
  have hlocks : meth.locks = false := BodyLoose.notSynchronized Bd
  have X0 : Stand p l e ({ frames := 0, cells := 0, slots := 0, locals := 0 } : Room) s m #[(.ref a1), (.int (0 : Int32))] below meth c s₁ [] 0 0 := Stand.of_body Bd
  have e0 : s₁.heap = h0 := by rw [← hh, Bd.state]; rfl
  have N0 := Fr.nil n0
  show Goes p e below (s₁.setTop (entryFrame m #[(.ref a1), (.int (0 : Int32))] 2)) (Fin s (Q11 Z a1 d k x0 x1 x2 h0 n0) ({ frames := 0, cells := 0, slots := 0, locals := 0 } : Room).cells ({ frames := 0, cells := 0, slots := 0, locals := 0 } : Room).slots)
  refine Goes.of (fun t k => castTop (ef_11 m a1 (0 : Int32)) k) ?_
  show Goes p e below (s₁.setTop (mkF m 0 #[.val (.ref a1), .val (.int (0 : Int32))] [])) _
  refine Goes.of (fun t k => XS.aloadN X0.here hx rfl (hb hby d11_0) rfl rfl k) ?_
  obtain ⟨T222, X222, e222, st222⟩ := getF X0 hx hZ hown (host := "") (Or.inl (wd hw 64 rfl)) Via.refl e0 F (g := (mkF m 1 #[.val (.ref a1), .val (.int (0 : Int32))] [(.ref a1)])) rfl rfl (hb hby d11_1)
  refine Goes.of st222 ?_
  show Goes p e below (T222.setTop (mkF m 4 #[.val (.ref a1), .val (.int (0 : Int32))] [(.ref d)])) _
  refine Goes.of (fun t k => XS.iloadN X222.here hx rfl (hb hby d11_4) rfl k) ?_
  have Vc223 := A
  obtain ⟨clc223, Arc223, qc223, Sc223, Nc223, Hc223, Gc223⟩ := Vc223
  have hin224 : ¬ ((0 : Int32) < 0 ∨ clc223.slots.size ≤ ((0 : Int32)).toNatClampNeg) := inb_of Sc223 ⟨by decide, by decide⟩
  have hat225 : clc223.slots[((0 : Int32)).toNatClampNeg]? = some (.ref x0) := Hc223.at hin224 rfl
  refine Goes.of (fun t k => X222.aaload hx (j := (0 : Int32)) (v := (.ref x0)) (by rw [e222]; exact Arc223.1) (State.isArrayOf_alike hZ.alike Arc223.2.1) rfl Arc223.2.2 hin224 hat225 (g := (mkF m 5 #[.val (.ref a1), .val (.int (0 : Int32))] [(.int (0 : Int32)), (.ref d)])) rfl rfl (hb hby d11_5) _ k) ?_
  show Goes p e below (T222.setTop (mkF m 6 #[.val (.ref a1), .val (.int (0 : Int32))] [(.ref x0)])) _
  exact Goes.retA X222 hx (by rfl) Bd.returns (by rfl) hlocks (hb hby d11_6) (⟨rfl, N0, e222⟩) (by decide) (by decide)
theorem ef_11_226 (m : MethodId) (x0 : Addr) (x1 : Int32) : entryFrame m #[(.ref x0), (.int x1)] 2 = mkF m 0 #[.val (.ref x0), .val (.int x1)] [] := by first | (simp [entryFrame, mkF, argsToLocals, Value.category]; done) | rfl
def Q11_226 (Z : State) (a1 : Addr) (d : Addr) (k : ClassId) (x0 : Addr) (x1 : Addr) (x2 : Addr) (h0 : Heap) (n0 : Nat) (v : Option Value) (h : Heap) (L : List Loc) : Prop := v = some (.ref x1) ∧ Fr n0 L ∧ h = h0
set_option maxRecDepth 65536 in
set_option maxHeartbeats 40000000 in
theorem rm11_226 (l : Launch) (Z : State) (a0 : Array Value) (hw : ∀ d ∈ tables_1, d.before a0 Z = true) (ws : List Jvm.Cond) (a1 : Addr) (d : Addr) (k : ClassId) (x0 : Addr) (x1 : Addr) (x2 : Addr) (h0 : Heap) (n0 : Nat) (Z0 : n0 ≤ h0.size) (F : Fld Z h0 a1 "java/util/ImmutableCollections$ListN" "elements" "[Ljava/lang/Object;" (.ref d)) (A : Arv Z h0 d k (.object "java/lang/Object") (3 : Int32) [(.ref x0), (.ref x1), (.ref x2)] .null) :
    MetFree l (⟨"java/util/ImmutableCollections$ListN", "get", "(I)Ljava/lang/Object;"⟩ : MethodName) (head1 (Jvm.Cond.code (⟨"java/util/ImmutableCollections$ListN", "get", "(I)Ljava/lang/Object;"⟩ : MethodName) jdk_45_method_4_code 2 (some (.object "java/lang/Object")) :: ws) ({ frames := 0, cells := 0, slots := 0, locals := 0 } : Room)) (fun a U => a = #[(.ref a1), (.int (1 : Int32))] ∧ Z.Warmed39 U.vm ∧ U.heap = h0) (fun _ _ _ _ _ => True) (fun _ U o U' => ∃ v L, o = .returned v ∧ Q11_226 Z a1 d k x0 x1 x2 h0 n0 v U'.heap L ∧ FrameEnd U o U' L ({ frames := 0, cells := 0, slots := 0, locals := 0 } : Room).cells ({ frames := 0, cells := 0, slots := 0, locals := 0 } : Room).slots) := by
  refine MetFree.of_bodySF (plainFor_of_name pn_4) hisR ?_
  intro p e s m args below meth c s₁ Bd hml0 hP hK
  obtain ⟨rfl, hZ, hh⟩ := hP
  have hx := Bd.exec
  have hby := Bd.bytes
  have hml : c.maxLocals = 2 := hml0
  have hown : s.vm.findClass "java/util/ImmutableCollections$ListN" = some m.cls := findClass_of_methodNamed Bd.named
  have hnm := (name_of_methodNamed Bd.named Bd.method).1
  have hlocks : meth.locks = false := BodyLoose.notSynchronized Bd
  have X0 : Stand p l e ({ frames := 0, cells := 0, slots := 0, locals := 0 } : Room) s m #[(.ref a1), (.int (1 : Int32))] below meth c s₁ [] 0 0 := Stand.of_body Bd
  have e0 : s₁.heap = h0 := by rw [← hh, Bd.state]; rfl
  have N0 := Fr.nil n0
  show Goes p e below (s₁.setTop (entryFrame m #[(.ref a1), (.int (1 : Int32))] 2)) (Fin s (Q11_226 Z a1 d k x0 x1 x2 h0 n0) ({ frames := 0, cells := 0, slots := 0, locals := 0 } : Room).cells ({ frames := 0, cells := 0, slots := 0, locals := 0 } : Room).slots)
  refine Goes.of (fun t k => castTop (ef_11_226 m a1 (1 : Int32)) k) ?_
  show Goes p e below (s₁.setTop (mkF m 0 #[.val (.ref a1), .val (.int (1 : Int32))] [])) _
  refine Goes.of (fun t k => XS.aloadN X0.here hx rfl (hb hby d11_0) rfl rfl k) ?_
  obtain ⟨T227, X227, e227, st227⟩ := getF X0 hx hZ hown (host := "") (Or.inl (wd hw 64 rfl)) Via.refl e0 F (g := (mkF m 1 #[.val (.ref a1), .val (.int (1 : Int32))] [(.ref a1)])) rfl rfl (hb hby d11_1)
  refine Goes.of st227 ?_
  show Goes p e below (T227.setTop (mkF m 4 #[.val (.ref a1), .val (.int (1 : Int32))] [(.ref d)])) _
  refine Goes.of (fun t k => XS.iloadN X227.here hx rfl (hb hby d11_4) rfl k) ?_
  have Vc228 := A
  obtain ⟨clc228, Arc228, qc228, Sc228, Nc228, Hc228, Gc228⟩ := Vc228
  have hin229 : ¬ ((1 : Int32) < 0 ∨ clc228.slots.size ≤ ((1 : Int32)).toNatClampNeg) := inb_of Sc228 ⟨by decide, by decide⟩
  have hat230 : clc228.slots[((1 : Int32)).toNatClampNeg]? = some (.ref x1) := Hc228.at hin229 rfl
  refine Goes.of (fun t k => X227.aaload hx (j := (1 : Int32)) (v := (.ref x1)) (by rw [e227]; exact Arc228.1) (State.isArrayOf_alike hZ.alike Arc228.2.1) rfl Arc228.2.2 hin229 hat230 (g := (mkF m 5 #[.val (.ref a1), .val (.int (1 : Int32))] [(.int (1 : Int32)), (.ref d)])) rfl rfl (hb hby d11_5) _ k) ?_
  show Goes p e below (T227.setTop (mkF m 6 #[.val (.ref a1), .val (.int (1 : Int32))] [(.ref x1)])) _
  exact Goes.retA X227 hx (by rfl) Bd.returns (by rfl) hlocks (hb hby d11_6) (⟨rfl, N0, e227⟩) (by decide) (by decide)
theorem ef_11_231 (m : MethodId) (x0 : Addr) (x1 : Int32) : entryFrame m #[(.ref x0), (.int x1)] 2 = mkF m 0 #[.val (.ref x0), .val (.int x1)] [] := by first | (simp [entryFrame, mkF, argsToLocals, Value.category]; done) | rfl
def Q11_231 (Z : State) (a1 : Addr) (d : Addr) (k : ClassId) (x0 : Addr) (x1 : Addr) (x2 : Addr) (h0 : Heap) (n0 : Nat) (v : Option Value) (h : Heap) (L : List Loc) : Prop := v = some (.ref x2) ∧ Fr n0 L ∧ h = h0
set_option maxRecDepth 65536 in
set_option maxHeartbeats 40000000 in
theorem rm11_231 (l : Launch) (Z : State) (a0 : Array Value) (hw : ∀ d ∈ tables_1, d.before a0 Z = true) (ws : List Jvm.Cond) (a1 : Addr) (d : Addr) (k : ClassId) (x0 : Addr) (x1 : Addr) (x2 : Addr) (h0 : Heap) (n0 : Nat) (Z0 : n0 ≤ h0.size) (F : Fld Z h0 a1 "java/util/ImmutableCollections$ListN" "elements" "[Ljava/lang/Object;" (.ref d)) (A : Arv Z h0 d k (.object "java/lang/Object") (3 : Int32) [(.ref x0), (.ref x1), (.ref x2)] .null) :
    MetFree l (⟨"java/util/ImmutableCollections$ListN", "get", "(I)Ljava/lang/Object;"⟩ : MethodName) (head1 (Jvm.Cond.code (⟨"java/util/ImmutableCollections$ListN", "get", "(I)Ljava/lang/Object;"⟩ : MethodName) jdk_45_method_4_code 2 (some (.object "java/lang/Object")) :: ws) ({ frames := 0, cells := 0, slots := 0, locals := 0 } : Room)) (fun a U => a = #[(.ref a1), (.int (2 : Int32))] ∧ Z.Warmed39 U.vm ∧ U.heap = h0) (fun _ _ _ _ _ => True) (fun _ U o U' => ∃ v L, o = .returned v ∧ Q11_231 Z a1 d k x0 x1 x2 h0 n0 v U'.heap L ∧ FrameEnd U o U' L ({ frames := 0, cells := 0, slots := 0, locals := 0 } : Room).cells ({ frames := 0, cells := 0, slots := 0, locals := 0 } : Room).slots) := by
  refine MetFree.of_bodySF (plainFor_of_name pn_4) hisR ?_
  intro p e s m args below meth c s₁ Bd hml0 hP hK
  obtain ⟨rfl, hZ, hh⟩ := hP
  have hx := Bd.exec
  have hby := Bd.bytes
  have hml : c.maxLocals = 2 := hml0
  have hown : s.vm.findClass "java/util/ImmutableCollections$ListN" = some m.cls := findClass_of_methodNamed Bd.named
  have hnm := (name_of_methodNamed Bd.named Bd.method).1
  have hlocks : meth.locks = false := BodyLoose.notSynchronized Bd
  have X0 : Stand p l e ({ frames := 0, cells := 0, slots := 0, locals := 0 } : Room) s m #[(.ref a1), (.int (2 : Int32))] below meth c s₁ [] 0 0 := Stand.of_body Bd
  have e0 : s₁.heap = h0 := by rw [← hh, Bd.state]; rfl
  have N0 := Fr.nil n0
  show Goes p e below (s₁.setTop (entryFrame m #[(.ref a1), (.int (2 : Int32))] 2)) (Fin s (Q11_231 Z a1 d k x0 x1 x2 h0 n0) ({ frames := 0, cells := 0, slots := 0, locals := 0 } : Room).cells ({ frames := 0, cells := 0, slots := 0, locals := 0 } : Room).slots)
  refine Goes.of (fun t k => castTop (ef_11_231 m a1 (2 : Int32)) k) ?_
  show Goes p e below (s₁.setTop (mkF m 0 #[.val (.ref a1), .val (.int (2 : Int32))] [])) _
  refine Goes.of (fun t k => XS.aloadN X0.here hx rfl (hb hby d11_0) rfl rfl k) ?_
  obtain ⟨T232, X232, e232, st232⟩ := getF X0 hx hZ hown (host := "") (Or.inl (wd hw 64 rfl)) Via.refl e0 F (g := (mkF m 1 #[.val (.ref a1), .val (.int (2 : Int32))] [(.ref a1)])) rfl rfl (hb hby d11_1)
  refine Goes.of st232 ?_
  show Goes p e below (T232.setTop (mkF m 4 #[.val (.ref a1), .val (.int (2 : Int32))] [(.ref d)])) _
  refine Goes.of (fun t k => XS.iloadN X232.here hx rfl (hb hby d11_4) rfl k) ?_
  have Vc233 := A
  obtain ⟨clc233, Arc233, qc233, Sc233, Nc233, Hc233, Gc233⟩ := Vc233
  have hin234 : ¬ ((2 : Int32) < 0 ∨ clc233.slots.size ≤ ((2 : Int32)).toNatClampNeg) := inb_of Sc233 ⟨by decide, by decide⟩
  have hat235 : clc233.slots[((2 : Int32)).toNatClampNeg]? = some (.ref x2) := Hc233.at hin234 rfl
  refine Goes.of (fun t k => X232.aaload hx (j := (2 : Int32)) (v := (.ref x2)) (by rw [e232]; exact Arc233.1) (State.isArrayOf_alike hZ.alike Arc233.2.1) rfl Arc233.2.2 hin234 hat235 (g := (mkF m 5 #[.val (.ref a1), .val (.int (2 : Int32))] [(.int (2 : Int32)), (.ref d)])) rfl rfl (hb hby d11_5) _ k) ?_
  show Goes p e below (T232.setTop (mkF m 6 #[.val (.ref a1), .val (.int (2 : Int32))] [(.ref x2)])) _
  exact Goes.retA X232 hx (by rfl) Bd.returns (by rfl) hlocks (hb hby d11_6) (⟨rfl, N0, e232⟩) (by decide) (by decide)
theorem ef_10_236 (m : MethodId) (x0 : Addr) : entryFrame m #[(.ref x0)] 1 = mkF m 0 #[.val (.ref x0)] [] := by first | (simp [entryFrame, mkF, argsToLocals, Value.category]; done) | rfl
def Q10_236 (Z : State) (a1 : Addr) (d : Addr) (k : ClassId) (x0 : Addr) (x1 : Addr) (x2 : Addr) (x3 : Addr) (h0 : Heap) (n0 : Nat) (v : Option Value) (h : Heap) (L : List Loc) : Prop := v = some (.int (4 : Int32)) ∧ Fr n0 L ∧ h = h0
set_option maxRecDepth 65536 in
set_option maxHeartbeats 40000000 in
theorem rm10_236 (l : Launch) (Z : State) (a0 : Array Value) (hw : ∀ d ∈ tables_1, d.before a0 Z = true) (ws : List Jvm.Cond) (a1 : Addr) (d : Addr) (k : ClassId) (x0 : Addr) (x1 : Addr) (x2 : Addr) (x3 : Addr) (h0 : Heap) (n0 : Nat) (Z0 : n0 ≤ h0.size) (F : Fld Z h0 a1 "java/util/ImmutableCollections$ListN" "elements" "[Ljava/lang/Object;" (.ref d)) (A : Arv Z h0 d k (.object "java/lang/Object") (4 : Int32) [(.ref x0), (.ref x1), (.ref x2), (.ref x3)] .null) :
    MetFree l (⟨"java/util/ImmutableCollections$ListN", "size", "()I"⟩ : MethodName) (head1 (Jvm.Cond.code (⟨"java/util/ImmutableCollections$ListN", "size", "()I"⟩ : MethodName) jdk_45_method_3_code 1 (some .int) :: ws) ({ frames := 0, cells := 0, slots := 0, locals := 0 } : Room)) (fun a U => a = #[(.ref a1)] ∧ Z.Warmed39 U.vm ∧ U.heap = h0) (fun _ _ _ _ _ => True) (fun _ U o U' => ∃ v L, o = .returned v ∧ Q10_236 Z a1 d k x0 x1 x2 x3 h0 n0 v U'.heap L ∧ FrameEnd U o U' L ({ frames := 0, cells := 0, slots := 0, locals := 0 } : Room).cells ({ frames := 0, cells := 0, slots := 0, locals := 0 } : Room).slots) := by
  refine MetFree.of_bodySF (plainFor_of_name pn_4) hisR ?_
  intro p e s m args below meth c s₁ Bd hml0 hP hK
  obtain ⟨rfl, hZ, hh⟩ := hP
  have hx := Bd.exec
  have hby := Bd.bytes
  have hml : c.maxLocals = 1 := hml0
  have hown : s.vm.findClass "java/util/ImmutableCollections$ListN" = some m.cls := findClass_of_methodNamed Bd.named
  have hnm := (name_of_methodNamed Bd.named Bd.method).1
  have hlocks : meth.locks = false := BodyLoose.notSynchronized Bd
  have X0 : Stand p l e ({ frames := 0, cells := 0, slots := 0, locals := 0 } : Room) s m #[(.ref a1)] below meth c s₁ [] 0 0 := Stand.of_body Bd
  have e0 : s₁.heap = h0 := by rw [← hh, Bd.state]; rfl
  have N0 := Fr.nil n0
  show Goes p e below (s₁.setTop (entryFrame m #[(.ref a1)] 1)) (Fin s (Q10_236 Z a1 d k x0 x1 x2 x3 h0 n0) ({ frames := 0, cells := 0, slots := 0, locals := 0 } : Room).cells ({ frames := 0, cells := 0, slots := 0, locals := 0 } : Room).slots)
  refine Goes.of (fun t k => castTop (ef_10_236 m a1) k) ?_
  show Goes p e below (s₁.setTop (mkF m 0 #[.val (.ref a1)] [])) _
  refine Goes.of (fun t k => XS.aloadN X0.here hx rfl (hb hby d10_0) rfl rfl k) ?_
  obtain ⟨T237, X237, e237, st237⟩ := getF X0 hx hZ hown (host := "") (Or.inl (wd hw 64 rfl)) Via.refl e0 F (g := (mkF m 1 #[.val (.ref a1)] [(.ref a1)])) rfl rfl (hb hby d10_1)
  refine Goes.of st237 ?_
  have Vc238 := A
  obtain ⟨clc238, Arc238, qc238, Sc238, Nc238, Hc238, Gc238⟩ := Vc238
  refine Goes.of (X237.arraylength hx (by rw [e237]; exact Arc238.1) (State.isArrayOf_alike hZ.alike Arc238.2.1) (g := (mkF m 4 #[.val (.ref a1)] [(.ref d)])) rfl rfl (hb hby d10_4)) ?_
  rw [len_of Sc238 Nc238]
  show Goes p e below (T237.setTop (mkF m 5 #[.val (.ref a1)] [(.int (4 : Int32))])) _
  exact Goes.retI X237 hx Bd.returns hlocks (hb hby d10_5) (⟨rfl, N0, e237⟩) (by decide) (by decide)
theorem ef_11_239 (m : MethodId) (x0 : Addr) (x1 : Int32) : entryFrame m #[(.ref x0), (.int x1)] 2 = mkF m 0 #[.val (.ref x0), .val (.int x1)] [] := by first | (simp [entryFrame, mkF, argsToLocals, Value.category]; done) | rfl
def Q11_239 (Z : State) (a1 : Addr) (d : Addr) (k : ClassId) (x0 : Addr) (x1 : Addr) (x2 : Addr) (x3 : Addr) (h0 : Heap) (n0 : Nat) (v : Option Value) (h : Heap) (L : List Loc) : Prop := v = some (.ref x0) ∧ Fr n0 L ∧ h = h0
set_option maxRecDepth 65536 in
set_option maxHeartbeats 40000000 in
theorem rm11_239 (l : Launch) (Z : State) (a0 : Array Value) (hw : ∀ d ∈ tables_1, d.before a0 Z = true) (ws : List Jvm.Cond) (a1 : Addr) (d : Addr) (k : ClassId) (x0 : Addr) (x1 : Addr) (x2 : Addr) (x3 : Addr) (h0 : Heap) (n0 : Nat) (Z0 : n0 ≤ h0.size) (F : Fld Z h0 a1 "java/util/ImmutableCollections$ListN" "elements" "[Ljava/lang/Object;" (.ref d)) (A : Arv Z h0 d k (.object "java/lang/Object") (4 : Int32) [(.ref x0), (.ref x1), (.ref x2), (.ref x3)] .null) :
    MetFree l (⟨"java/util/ImmutableCollections$ListN", "get", "(I)Ljava/lang/Object;"⟩ : MethodName) (head1 (Jvm.Cond.code (⟨"java/util/ImmutableCollections$ListN", "get", "(I)Ljava/lang/Object;"⟩ : MethodName) jdk_45_method_4_code 2 (some (.object "java/lang/Object")) :: ws) ({ frames := 0, cells := 0, slots := 0, locals := 0 } : Room)) (fun a U => a = #[(.ref a1), (.int (0 : Int32))] ∧ Z.Warmed39 U.vm ∧ U.heap = h0) (fun _ _ _ _ _ => True) (fun _ U o U' => ∃ v L, o = .returned v ∧ Q11_239 Z a1 d k x0 x1 x2 x3 h0 n0 v U'.heap L ∧ FrameEnd U o U' L ({ frames := 0, cells := 0, slots := 0, locals := 0 } : Room).cells ({ frames := 0, cells := 0, slots := 0, locals := 0 } : Room).slots) := by
  refine MetFree.of_bodySF (plainFor_of_name pn_4) hisR ?_
  intro p e s m args below meth c s₁ Bd hml0 hP hK
  obtain ⟨rfl, hZ, hh⟩ := hP
  have hx := Bd.exec
  have hby := Bd.bytes
  have hml : c.maxLocals = 2 := hml0
  have hown : s.vm.findClass "java/util/ImmutableCollections$ListN" = some m.cls := findClass_of_methodNamed Bd.named
  have hnm := (name_of_methodNamed Bd.named Bd.method).1
  have hlocks : meth.locks = false := BodyLoose.notSynchronized Bd
  have X0 : Stand p l e ({ frames := 0, cells := 0, slots := 0, locals := 0 } : Room) s m #[(.ref a1), (.int (0 : Int32))] below meth c s₁ [] 0 0 := Stand.of_body Bd
  have e0 : s₁.heap = h0 := by rw [← hh, Bd.state]; rfl
  have N0 := Fr.nil n0
  show Goes p e below (s₁.setTop (entryFrame m #[(.ref a1), (.int (0 : Int32))] 2)) (Fin s (Q11_239 Z a1 d k x0 x1 x2 x3 h0 n0) ({ frames := 0, cells := 0, slots := 0, locals := 0 } : Room).cells ({ frames := 0, cells := 0, slots := 0, locals := 0 } : Room).slots)
  refine Goes.of (fun t k => castTop (ef_11_239 m a1 (0 : Int32)) k) ?_
  show Goes p e below (s₁.setTop (mkF m 0 #[.val (.ref a1), .val (.int (0 : Int32))] [])) _
  refine Goes.of (fun t k => XS.aloadN X0.here hx rfl (hb hby d11_0) rfl rfl k) ?_
  obtain ⟨T240, X240, e240, st240⟩ := getF X0 hx hZ hown (host := "") (Or.inl (wd hw 64 rfl)) Via.refl e0 F (g := (mkF m 1 #[.val (.ref a1), .val (.int (0 : Int32))] [(.ref a1)])) rfl rfl (hb hby d11_1)
  refine Goes.of st240 ?_
  show Goes p e below (T240.setTop (mkF m 4 #[.val (.ref a1), .val (.int (0 : Int32))] [(.ref d)])) _
  refine Goes.of (fun t k => XS.iloadN X240.here hx rfl (hb hby d11_4) rfl k) ?_
  have Vc241 := A
  obtain ⟨clc241, Arc241, qc241, Sc241, Nc241, Hc241, Gc241⟩ := Vc241
  have hin242 : ¬ ((0 : Int32) < 0 ∨ clc241.slots.size ≤ ((0 : Int32)).toNatClampNeg) := inb_of Sc241 ⟨by decide, by decide⟩
  have hat243 : clc241.slots[((0 : Int32)).toNatClampNeg]? = some (.ref x0) := Hc241.at hin242 rfl
  refine Goes.of (fun t k => X240.aaload hx (j := (0 : Int32)) (v := (.ref x0)) (by rw [e240]; exact Arc241.1) (State.isArrayOf_alike hZ.alike Arc241.2.1) rfl Arc241.2.2 hin242 hat243 (g := (mkF m 5 #[.val (.ref a1), .val (.int (0 : Int32))] [(.int (0 : Int32)), (.ref d)])) rfl rfl (hb hby d11_5) _ k) ?_
  show Goes p e below (T240.setTop (mkF m 6 #[.val (.ref a1), .val (.int (0 : Int32))] [(.ref x0)])) _
  exact Goes.retA X240 hx (by rfl) Bd.returns (by rfl) hlocks (hb hby d11_6) (⟨rfl, N0, e240⟩) (by decide) (by decide)
theorem ef_11_244 (m : MethodId) (x0 : Addr) (x1 : Int32) : entryFrame m #[(.ref x0), (.int x1)] 2 = mkF m 0 #[.val (.ref x0), .val (.int x1)] [] := by first | (simp [entryFrame, mkF, argsToLocals, Value.category]; done) | rfl
def Q11_244 (Z : State) (a1 : Addr) (d : Addr) (k : ClassId) (x0 : Addr) (x1 : Addr) (x2 : Addr) (x3 : Addr) (h0 : Heap) (n0 : Nat) (v : Option Value) (h : Heap) (L : List Loc) : Prop := v = some (.ref x1) ∧ Fr n0 L ∧ h = h0
set_option maxRecDepth 65536 in
set_option maxHeartbeats 40000000 in
theorem rm11_244 (l : Launch) (Z : State) (a0 : Array Value) (hw : ∀ d ∈ tables_1, d.before a0 Z = true) (ws : List Jvm.Cond) (a1 : Addr) (d : Addr) (k : ClassId) (x0 : Addr) (x1 : Addr) (x2 : Addr) (x3 : Addr) (h0 : Heap) (n0 : Nat) (Z0 : n0 ≤ h0.size) (F : Fld Z h0 a1 "java/util/ImmutableCollections$ListN" "elements" "[Ljava/lang/Object;" (.ref d)) (A : Arv Z h0 d k (.object "java/lang/Object") (4 : Int32) [(.ref x0), (.ref x1), (.ref x2), (.ref x3)] .null) :
    MetFree l (⟨"java/util/ImmutableCollections$ListN", "get", "(I)Ljava/lang/Object;"⟩ : MethodName) (head1 (Jvm.Cond.code (⟨"java/util/ImmutableCollections$ListN", "get", "(I)Ljava/lang/Object;"⟩ : MethodName) jdk_45_method_4_code 2 (some (.object "java/lang/Object")) :: ws) ({ frames := 0, cells := 0, slots := 0, locals := 0 } : Room)) (fun a U => a = #[(.ref a1), (.int (1 : Int32))] ∧ Z.Warmed39 U.vm ∧ U.heap = h0) (fun _ _ _ _ _ => True) (fun _ U o U' => ∃ v L, o = .returned v ∧ Q11_244 Z a1 d k x0 x1 x2 x3 h0 n0 v U'.heap L ∧ FrameEnd U o U' L ({ frames := 0, cells := 0, slots := 0, locals := 0 } : Room).cells ({ frames := 0, cells := 0, slots := 0, locals := 0 } : Room).slots) := by
  refine MetFree.of_bodySF (plainFor_of_name pn_4) hisR ?_
  intro p e s m args below meth c s₁ Bd hml0 hP hK
  obtain ⟨rfl, hZ, hh⟩ := hP
  have hx := Bd.exec
  have hby := Bd.bytes
  have hml : c.maxLocals = 2 := hml0
  have hown : s.vm.findClass "java/util/ImmutableCollections$ListN" = some m.cls := findClass_of_methodNamed Bd.named
  have hnm := (name_of_methodNamed Bd.named Bd.method).1
  have hlocks : meth.locks = false := BodyLoose.notSynchronized Bd
  have X0 : Stand p l e ({ frames := 0, cells := 0, slots := 0, locals := 0 } : Room) s m #[(.ref a1), (.int (1 : Int32))] below meth c s₁ [] 0 0 := Stand.of_body Bd
  have e0 : s₁.heap = h0 := by rw [← hh, Bd.state]; rfl
  have N0 := Fr.nil n0
  show Goes p e below (s₁.setTop (entryFrame m #[(.ref a1), (.int (1 : Int32))] 2)) (Fin s (Q11_244 Z a1 d k x0 x1 x2 x3 h0 n0) ({ frames := 0, cells := 0, slots := 0, locals := 0 } : Room).cells ({ frames := 0, cells := 0, slots := 0, locals := 0 } : Room).slots)
  refine Goes.of (fun t k => castTop (ef_11_244 m a1 (1 : Int32)) k) ?_
  show Goes p e below (s₁.setTop (mkF m 0 #[.val (.ref a1), .val (.int (1 : Int32))] [])) _
  refine Goes.of (fun t k => XS.aloadN X0.here hx rfl (hb hby d11_0) rfl rfl k) ?_
  obtain ⟨T245, X245, e245, st245⟩ := getF X0 hx hZ hown (host := "") (Or.inl (wd hw 64 rfl)) Via.refl e0 F (g := (mkF m 1 #[.val (.ref a1), .val (.int (1 : Int32))] [(.ref a1)])) rfl rfl (hb hby d11_1)
  refine Goes.of st245 ?_
  show Goes p e below (T245.setTop (mkF m 4 #[.val (.ref a1), .val (.int (1 : Int32))] [(.ref d)])) _
  refine Goes.of (fun t k => XS.iloadN X245.here hx rfl (hb hby d11_4) rfl k) ?_
  have Vc246 := A
  obtain ⟨clc246, Arc246, qc246, Sc246, Nc246, Hc246, Gc246⟩ := Vc246
  have hin247 : ¬ ((1 : Int32) < 0 ∨ clc246.slots.size ≤ ((1 : Int32)).toNatClampNeg) := inb_of Sc246 ⟨by decide, by decide⟩
  have hat248 : clc246.slots[((1 : Int32)).toNatClampNeg]? = some (.ref x1) := Hc246.at hin247 rfl
  refine Goes.of (fun t k => X245.aaload hx (j := (1 : Int32)) (v := (.ref x1)) (by rw [e245]; exact Arc246.1) (State.isArrayOf_alike hZ.alike Arc246.2.1) rfl Arc246.2.2 hin247 hat248 (g := (mkF m 5 #[.val (.ref a1), .val (.int (1 : Int32))] [(.int (1 : Int32)), (.ref d)])) rfl rfl (hb hby d11_5) _ k) ?_
  show Goes p e below (T245.setTop (mkF m 6 #[.val (.ref a1), .val (.int (1 : Int32))] [(.ref x1)])) _
  exact Goes.retA X245 hx (by rfl) Bd.returns (by rfl) hlocks (hb hby d11_6) (⟨rfl, N0, e245⟩) (by decide) (by decide)
theorem ef_11_249 (m : MethodId) (x0 : Addr) (x1 : Int32) : entryFrame m #[(.ref x0), (.int x1)] 2 = mkF m 0 #[.val (.ref x0), .val (.int x1)] [] := by first | (simp [entryFrame, mkF, argsToLocals, Value.category]; done) | rfl
def Q11_249 (Z : State) (a1 : Addr) (d : Addr) (k : ClassId) (x0 : Addr) (x1 : Addr) (x2 : Addr) (x3 : Addr) (h0 : Heap) (n0 : Nat) (v : Option Value) (h : Heap) (L : List Loc) : Prop := v = some (.ref x2) ∧ Fr n0 L ∧ h = h0
set_option maxRecDepth 65536 in
set_option maxHeartbeats 40000000 in
theorem rm11_249 (l : Launch) (Z : State) (a0 : Array Value) (hw : ∀ d ∈ tables_1, d.before a0 Z = true) (ws : List Jvm.Cond) (a1 : Addr) (d : Addr) (k : ClassId) (x0 : Addr) (x1 : Addr) (x2 : Addr) (x3 : Addr) (h0 : Heap) (n0 : Nat) (Z0 : n0 ≤ h0.size) (F : Fld Z h0 a1 "java/util/ImmutableCollections$ListN" "elements" "[Ljava/lang/Object;" (.ref d)) (A : Arv Z h0 d k (.object "java/lang/Object") (4 : Int32) [(.ref x0), (.ref x1), (.ref x2), (.ref x3)] .null) :
    MetFree l (⟨"java/util/ImmutableCollections$ListN", "get", "(I)Ljava/lang/Object;"⟩ : MethodName) (head1 (Jvm.Cond.code (⟨"java/util/ImmutableCollections$ListN", "get", "(I)Ljava/lang/Object;"⟩ : MethodName) jdk_45_method_4_code 2 (some (.object "java/lang/Object")) :: ws) ({ frames := 0, cells := 0, slots := 0, locals := 0 } : Room)) (fun a U => a = #[(.ref a1), (.int (2 : Int32))] ∧ Z.Warmed39 U.vm ∧ U.heap = h0) (fun _ _ _ _ _ => True) (fun _ U o U' => ∃ v L, o = .returned v ∧ Q11_249 Z a1 d k x0 x1 x2 x3 h0 n0 v U'.heap L ∧ FrameEnd U o U' L ({ frames := 0, cells := 0, slots := 0, locals := 0 } : Room).cells ({ frames := 0, cells := 0, slots := 0, locals := 0 } : Room).slots) := by
  refine MetFree.of_bodySF (plainFor_of_name pn_4) hisR ?_
  intro p e s m args below meth c s₁ Bd hml0 hP hK
  obtain ⟨rfl, hZ, hh⟩ := hP
  have hx := Bd.exec
  have hby := Bd.bytes
  have hml : c.maxLocals = 2 := hml0
  have hown : s.vm.findClass "java/util/ImmutableCollections$ListN" = some m.cls := findClass_of_methodNamed Bd.named
  have hnm := (name_of_methodNamed Bd.named Bd.method).1
  have hlocks : meth.locks = false := BodyLoose.notSynchronized Bd
  have X0 : Stand p l e ({ frames := 0, cells := 0, slots := 0, locals := 0 } : Room) s m #[(.ref a1), (.int (2 : Int32))] below meth c s₁ [] 0 0 := Stand.of_body Bd
  have e0 : s₁.heap = h0 := by rw [← hh, Bd.state]; rfl
  have N0 := Fr.nil n0
  show Goes p e below (s₁.setTop (entryFrame m #[(.ref a1), (.int (2 : Int32))] 2)) (Fin s (Q11_249 Z a1 d k x0 x1 x2 x3 h0 n0) ({ frames := 0, cells := 0, slots := 0, locals := 0 } : Room).cells ({ frames := 0, cells := 0, slots := 0, locals := 0 } : Room).slots)
  refine Goes.of (fun t k => castTop (ef_11_249 m a1 (2 : Int32)) k) ?_
  show Goes p e below (s₁.setTop (mkF m 0 #[.val (.ref a1), .val (.int (2 : Int32))] [])) _
  refine Goes.of (fun t k => XS.aloadN X0.here hx rfl (hb hby d11_0) rfl rfl k) ?_
  obtain ⟨T250, X250, e250, st250⟩ := getF X0 hx hZ hown (host := "") (Or.inl (wd hw 64 rfl)) Via.refl e0 F (g := (mkF m 1 #[.val (.ref a1), .val (.int (2 : Int32))] [(.ref a1)])) rfl rfl (hb hby d11_1)
  refine Goes.of st250 ?_
  show Goes p e below (T250.setTop (mkF m 4 #[.val (.ref a1), .val (.int (2 : Int32))] [(.ref d)])) _
  refine Goes.of (fun t k => XS.iloadN X250.here hx rfl (hb hby d11_4) rfl k) ?_
  have Vc251 := A
  obtain ⟨clc251, Arc251, qc251, Sc251, Nc251, Hc251, Gc251⟩ := Vc251
  have hin252 : ¬ ((2 : Int32) < 0 ∨ clc251.slots.size ≤ ((2 : Int32)).toNatClampNeg) := inb_of Sc251 ⟨by decide, by decide⟩
  have hat253 : clc251.slots[((2 : Int32)).toNatClampNeg]? = some (.ref x2) := Hc251.at hin252 rfl
  refine Goes.of (fun t k => X250.aaload hx (j := (2 : Int32)) (v := (.ref x2)) (by rw [e250]; exact Arc251.1) (State.isArrayOf_alike hZ.alike Arc251.2.1) rfl Arc251.2.2 hin252 hat253 (g := (mkF m 5 #[.val (.ref a1), .val (.int (2 : Int32))] [(.int (2 : Int32)), (.ref d)])) rfl rfl (hb hby d11_5) _ k) ?_
  show Goes p e below (T250.setTop (mkF m 6 #[.val (.ref a1), .val (.int (2 : Int32))] [(.ref x2)])) _
  exact Goes.retA X250 hx (by rfl) Bd.returns (by rfl) hlocks (hb hby d11_6) (⟨rfl, N0, e250⟩) (by decide) (by decide)
theorem ef_11_254 (m : MethodId) (x0 : Addr) (x1 : Int32) : entryFrame m #[(.ref x0), (.int x1)] 2 = mkF m 0 #[.val (.ref x0), .val (.int x1)] [] := by first | (simp [entryFrame, mkF, argsToLocals, Value.category]; done) | rfl
def Q11_254 (Z : State) (a1 : Addr) (d : Addr) (k : ClassId) (x0 : Addr) (x1 : Addr) (x2 : Addr) (x3 : Addr) (h0 : Heap) (n0 : Nat) (v : Option Value) (h : Heap) (L : List Loc) : Prop := v = some (.ref x3) ∧ Fr n0 L ∧ h = h0
set_option maxRecDepth 65536 in
set_option maxHeartbeats 40000000 in
theorem rm11_254 (l : Launch) (Z : State) (a0 : Array Value) (hw : ∀ d ∈ tables_1, d.before a0 Z = true) (ws : List Jvm.Cond) (a1 : Addr) (d : Addr) (k : ClassId) (x0 : Addr) (x1 : Addr) (x2 : Addr) (x3 : Addr) (h0 : Heap) (n0 : Nat) (Z0 : n0 ≤ h0.size) (F : Fld Z h0 a1 "java/util/ImmutableCollections$ListN" "elements" "[Ljava/lang/Object;" (.ref d)) (A : Arv Z h0 d k (.object "java/lang/Object") (4 : Int32) [(.ref x0), (.ref x1), (.ref x2), (.ref x3)] .null) :
    MetFree l (⟨"java/util/ImmutableCollections$ListN", "get", "(I)Ljava/lang/Object;"⟩ : MethodName) (head1 (Jvm.Cond.code (⟨"java/util/ImmutableCollections$ListN", "get", "(I)Ljava/lang/Object;"⟩ : MethodName) jdk_45_method_4_code 2 (some (.object "java/lang/Object")) :: ws) ({ frames := 0, cells := 0, slots := 0, locals := 0 } : Room)) (fun a U => a = #[(.ref a1), (.int (3 : Int32))] ∧ Z.Warmed39 U.vm ∧ U.heap = h0) (fun _ _ _ _ _ => True) (fun _ U o U' => ∃ v L, o = .returned v ∧ Q11_254 Z a1 d k x0 x1 x2 x3 h0 n0 v U'.heap L ∧ FrameEnd U o U' L ({ frames := 0, cells := 0, slots := 0, locals := 0 } : Room).cells ({ frames := 0, cells := 0, slots := 0, locals := 0 } : Room).slots) := by
  refine MetFree.of_bodySF (plainFor_of_name pn_4) hisR ?_
  intro p e s m args below meth c s₁ Bd hml0 hP hK
  obtain ⟨rfl, hZ, hh⟩ := hP
  have hx := Bd.exec
  have hby := Bd.bytes
  have hml : c.maxLocals = 2 := hml0
  have hown : s.vm.findClass "java/util/ImmutableCollections$ListN" = some m.cls := findClass_of_methodNamed Bd.named
  have hnm := (name_of_methodNamed Bd.named Bd.method).1
  have hlocks : meth.locks = false := BodyLoose.notSynchronized Bd
  have X0 : Stand p l e ({ frames := 0, cells := 0, slots := 0, locals := 0 } : Room) s m #[(.ref a1), (.int (3 : Int32))] below meth c s₁ [] 0 0 := Stand.of_body Bd
  have e0 : s₁.heap = h0 := by rw [← hh, Bd.state]; rfl
  have N0 := Fr.nil n0
  show Goes p e below (s₁.setTop (entryFrame m #[(.ref a1), (.int (3 : Int32))] 2)) (Fin s (Q11_254 Z a1 d k x0 x1 x2 x3 h0 n0) ({ frames := 0, cells := 0, slots := 0, locals := 0 } : Room).cells ({ frames := 0, cells := 0, slots := 0, locals := 0 } : Room).slots)
  refine Goes.of (fun t k => castTop (ef_11_254 m a1 (3 : Int32)) k) ?_
  show Goes p e below (s₁.setTop (mkF m 0 #[.val (.ref a1), .val (.int (3 : Int32))] [])) _
  refine Goes.of (fun t k => XS.aloadN X0.here hx rfl (hb hby d11_0) rfl rfl k) ?_
  obtain ⟨T255, X255, e255, st255⟩ := getF X0 hx hZ hown (host := "") (Or.inl (wd hw 64 rfl)) Via.refl e0 F (g := (mkF m 1 #[.val (.ref a1), .val (.int (3 : Int32))] [(.ref a1)])) rfl rfl (hb hby d11_1)
  refine Goes.of st255 ?_
  show Goes p e below (T255.setTop (mkF m 4 #[.val (.ref a1), .val (.int (3 : Int32))] [(.ref d)])) _
  refine Goes.of (fun t k => XS.iloadN X255.here hx rfl (hb hby d11_4) rfl k) ?_
  have Vc256 := A
  obtain ⟨clc256, Arc256, qc256, Sc256, Nc256, Hc256, Gc256⟩ := Vc256
  have hin257 : ¬ ((3 : Int32) < 0 ∨ clc256.slots.size ≤ ((3 : Int32)).toNatClampNeg) := inb_of Sc256 ⟨by decide, by decide⟩
  have hat258 : clc256.slots[((3 : Int32)).toNatClampNeg]? = some (.ref x3) := Hc256.at hin257 rfl
  refine Goes.of (fun t k => X255.aaload hx (j := (3 : Int32)) (v := (.ref x3)) (by rw [e255]; exact Arc256.1) (State.isArrayOf_alike hZ.alike Arc256.2.1) rfl Arc256.2.2 hin257 hat258 (g := (mkF m 5 #[.val (.ref a1), .val (.int (3 : Int32))] [(.int (3 : Int32)), (.ref d)])) rfl rfl (hb hby d11_5) _ k) ?_
  show Goes p e below (T255.setTop (mkF m 6 #[.val (.ref a1), .val (.int (3 : Int32))] [(.ref x3)])) _
  exact Goes.retA X255 hx (by rfl) Bd.returns (by rfl) hlocks (hb hby d11_6) (⟨rfl, N0, e255⟩) (by decide) (by decide)
theorem ef_13 (m : MethodId) (x0 : Addr) (x1 : Addr) : entryFrame m #[(.ref x0), (.ref x1)] 3 = mkF m 0 #[.val (.ref x0), .val (.ref x1), .unset] [] := by first | (simp [entryFrame, mkF, argsToLocals, Value.category]; done) | rfl
def Q13 (Z : State) (a1 : Addr) (a2 : Addr) (k1 : ClassId) (k2 : ClassId) (y0 : Int32) (y1 : Int32) (y2 : Int32) (y3 : Int32) (h0 : Heap) (n0 : Nat) (v : Option Value) (h : Heap) (L : List Loc) : Prop := v = some (.int 1) ∧ Fr n0 L ∧ h = h0
set_option maxRecDepth 65536 in
set_option maxHeartbeats 40000000 in
theorem rm13 (l : Launch) (Z : State) (a0 : Array Value) (hw : ∀ d ∈ tables_1, d.before a0 Z = true) (ws : List Jvm.Cond) (a1 : Addr) (a2 : Addr) (k1 : ClassId) (k2 : ClassId) (y0 : Int32) (y1 : Int32) (y2 : Int32) (y3 : Int32) (h0 : Heap) (n0 : Nat) (Z0 : n0 ≤ h0.size) (V1 : Arv Z h0 a1 k1 .byte (4 : Int32) [(.int y0), (.int y1), (.int y2), (.int y3)] (.int (0 : Int32))) (V2 : Arv Z h0 a2 k2 .byte (4 : Int32) [(.int y0), (.int y1), (.int y2), (.int y3)] (.int (0 : Int32))) :
    MetFree l (⟨"java/lang/StringLatin1", "equals", "([B[B)Z"⟩ : MethodName) (head1 (Jvm.Cond.code (⟨"java/lang/StringLatin1", "equals", "([B[B)Z"⟩ : MethodName) jdk_43_method_13_code 3 (some .boolean) :: ws) ({ frames := 0, cells := 0, slots := 0, locals := 0 } : Room)) (fun a U => a = #[(.ref a1), (.ref a2)] ∧ Z.Warmed39 U.vm ∧ U.heap = h0) (fun _ _ _ _ _ => True) (fun _ U o U' => ∃ v L, o = .returned v ∧ Q13 Z a1 a2 k1 k2 y0 y1 y2 y3 h0 n0 v U'.heap L ∧ FrameEnd U o U' L ({ frames := 0, cells := 0, slots := 0, locals := 0 } : Room).cells ({ frames := 0, cells := 0, slots := 0, locals := 0 } : Room).slots) := by
  refine MetFree.of_bodySF (plainFor_of_name pn_11) hisR ?_
  intro p e s m args below meth c s₁ Bd hml0 hP hK
  obtain ⟨rfl, hZ, hh⟩ := hP
  have hx := Bd.exec
  have hby := Bd.bytes
  have hml : c.maxLocals = 3 := hml0
  have hown : s.vm.findClass "java/lang/StringLatin1" = some m.cls := findClass_of_methodNamed Bd.named
  have hnm := (name_of_methodNamed Bd.named Bd.method).1
  have hlocks : meth.locks = false := BodyLoose.notSynchronized Bd
  have X0 : Stand p l e ({ frames := 0, cells := 0, slots := 0, locals := 0 } : Room) s m #[(.ref a1), (.ref a2)] below meth c s₁ [] 0 0 := Stand.of_body Bd
  have e0 : s₁.heap = h0 := by rw [← hh, Bd.state]; rfl
  have N0 := Fr.nil n0
  show Goes p e below (s₁.setTop (entryFrame m #[(.ref a1), (.ref a2)] 3)) (Fin s (Q13 Z a1 a2 k1 k2 y0 y1 y2 y3 h0 n0) ({ frames := 0, cells := 0, slots := 0, locals := 0 } : Room).cells ({ frames := 0, cells := 0, slots := 0, locals := 0 } : Room).slots)
  refine Goes.of (fun t k => castTop (ef_13 m a1 a2) k) ?_
  show Goes p e below (s₁.setTop (mkF m 0 #[.val (.ref a1), .val (.ref a2), .unset] [])) _
  refine Goes.of (fun t k => XS.aloadN X0.here hx rfl (hb hby d13_0) rfl rfl k) ?_
  have Vc259 := V1
  obtain ⟨clc259, Arc259, qc259, Sc259, Nc259, Hc259, Gc259⟩ := Vc259
  refine Goes.of (X0.arraylength hx (by rw [e0]; exact Arc259.1) (State.isArrayOf_alike hZ.alike Arc259.2.1) (g := (mkF m 1 #[.val (.ref a1), .val (.ref a2), .unset] [(.ref a1)])) rfl rfl (hb hby d13_1)) ?_
  rw [len_of Sc259 Nc259]
  show Goes p e below (s₁.setTop (mkF m 2 #[.val (.ref a1), .val (.ref a2), .unset] [(.int (4 : Int32))])) _
  refine Goes.of (fun t k => XS.aloadN X0.here hx rfl (hb hby d13_2) rfl rfl k) ?_
  have Vc260 := V2
  obtain ⟨clc260, Arc260, qc260, Sc260, Nc260, Hc260, Gc260⟩ := Vc260
  refine Goes.of (X0.arraylength hx (by rw [e0]; exact Arc260.1) (State.isArrayOf_alike hZ.alike Arc260.2.1) (g := (mkF m 3 #[.val (.ref a1), .val (.ref a2), .unset] [(.ref a2), (.int (4 : Int32))])) rfl rfl (hb hby d13_3)) ?_
  rw [len_of Sc260 Nc260]
  show Goes p e below (s₁.setTop (mkF m 4 #[.val (.ref a1), .val (.ref a2), .unset] [(.int (4 : Int32)), (.int (4 : Int32))])) _
  refine Goes.of (fun t k => XS.icmpNo X0.here hx rfl (hb hby d13_4) rfl (teq (by decide)).2 k) ?_
  show Goes p e below (s₁.setTop (mkF m 7 #[.val (.ref a1), .val (.ref a2), .unset] [])) _
  refine Goes.of (fun t k => XS.iconst X0.here hx rfl (hb hby d13_7) k) ?_
  show Goes p e below (s₁.setTop (mkF m 8 #[.val (.ref a1), .val (.ref a2), .unset] [(.int (0 : Int32))])) _
  refine Goes.of (fun t k => XS.istoreN X0.here hx rfl (hb hby d13_8) rfl (l' := #[.val (.ref a1), .val (.ref a2), .val (.int (0 : Int32))]) rfl k) ?_
  show Goes p e below (s₁.setTop (mkF m 9 #[.val (.ref a1), .val (.ref a2), .val (.int (0 : Int32))] [])) _
  refine Goes.of (fun t k => XS.iloadN X0.here hx rfl (hb hby d13_9) rfl k) ?_
  show Goes p e below (s₁.setTop (mkF m 10 #[.val (.ref a1), .val (.ref a2), .val (.int (0 : Int32))] [(.int (0 : Int32))])) _
  refine Goes.of (fun t k => XS.aloadN X0.here hx rfl (hb hby d13_10) rfl rfl k) ?_
  have Vc261 := V1
  obtain ⟨clc261, Arc261, qc261, Sc261, Nc261, Hc261, Gc261⟩ := Vc261
  refine Goes.of (X0.arraylength hx (by rw [e0]; exact Arc261.1) (State.isArrayOf_alike hZ.alike Arc261.2.1) (g := (mkF m 11 #[.val (.ref a1), .val (.ref a2), .val (.int (0 : Int32))] [(.ref a1), (.int (0 : Int32))])) rfl rfl (hb hby d13_11)) ?_
  rw [len_of Sc261 Nc261]
  show Goes p e below (s₁.setTop (mkF m 12 #[.val (.ref a1), .val (.ref a2), .val (.int (0 : Int32))] [(.int (4 : Int32)), (.int (0 : Int32))])) _
  refine Goes.of (fun t k => XS.icmpNo X0.here hx rfl (hb hby d13_12) rfl (tlt (by decide)).2.1 k) ?_
  show Goes p e below (s₁.setTop (mkF m 15 #[.val (.ref a1), .val (.ref a2), .val (.int (0 : Int32))] [])) _
  refine Goes.of (fun t k => XS.aloadN X0.here hx rfl (hb hby d13_15) rfl rfl k) ?_
  show Goes p e below (s₁.setTop (mkF m 16 #[.val (.ref a1), .val (.ref a2), .val (.int (0 : Int32))] [(.ref a1)])) _
  refine Goes.of (fun t k => XS.iloadN X0.here hx rfl (hb hby d13_16) rfl k) ?_
  have Vc262 := V1
  obtain ⟨clc262, Arc262, qc262, Sc262, Nc262, Hc262, Gc262⟩ := Vc262
  have hin263 : ¬ ((0 : Int32) < 0 ∨ clc262.slots.size ≤ ((0 : Int32)).toNatClampNeg) := inb_of Sc262 ⟨by decide, by decide⟩
  have hat264 : clc262.slots[((0 : Int32)).toNatClampNeg]? = some (.int y0) := Hc262.at hin263 rfl
  refine Goes.of (fun t k => X0.baloadBytes hx (j := (0 : Int32)) (v := (.int y0)) (by rw [e0]; exact Arc262.1) (State.isArrayOf_alike hZ.alike Arc262.2.1) Arc262.2.2 hin263 hat264 (g := (mkF m 17 #[.val (.ref a1), .val (.ref a2), .val (.int (0 : Int32))] [(.int (0 : Int32)), (.ref a1)])) rfl rfl (hb hby d13_17) _ k) ?_
  show Goes p e below (s₁.setTop (mkF m 18 #[.val (.ref a1), .val (.ref a2), .val (.int (0 : Int32))] [(.int y0)])) _
  refine Goes.of (fun t k => XS.aloadN X0.here hx rfl (hb hby d13_18) rfl rfl k) ?_
  show Goes p e below (s₁.setTop (mkF m 19 #[.val (.ref a1), .val (.ref a2), .val (.int (0 : Int32))] [(.ref a2), (.int y0)])) _
  refine Goes.of (fun t k => XS.iloadN X0.here hx rfl (hb hby d13_19) rfl k) ?_
  have Vc265 := V2
  obtain ⟨clc265, Arc265, qc265, Sc265, Nc265, Hc265, Gc265⟩ := Vc265
  have hin266 : ¬ ((0 : Int32) < 0 ∨ clc265.slots.size ≤ ((0 : Int32)).toNatClampNeg) := inb_of Sc265 ⟨by decide, by decide⟩
  have hat267 : clc265.slots[((0 : Int32)).toNatClampNeg]? = some (.int y0) := Hc265.at hin266 rfl
  refine Goes.of (fun t k => X0.baloadBytes hx (j := (0 : Int32)) (v := (.int y0)) (by rw [e0]; exact Arc265.1) (State.isArrayOf_alike hZ.alike Arc265.2.1) Arc265.2.2 hin266 hat267 (g := (mkF m 20 #[.val (.ref a1), .val (.ref a2), .val (.int (0 : Int32))] [(.int (0 : Int32)), (.ref a2), (.int y0)])) rfl rfl (hb hby d13_20) _ k) ?_
  show Goes p e below (s₁.setTop (mkF m 21 #[.val (.ref a1), .val (.ref a2), .val (.int (0 : Int32))] [(.int y0), (.int y0)])) _
  have hd21_268 : y0 = y0 := rfl
  refine Goes.of (fun t k => XS.icmpYes X0.here hx rfl (pc0 := 21) (pc' := 26) rfl (hb hby d13_21) rfl (teq hd21_268).1 (by decide) (by decide) k) ?_
  show Goes p e below (s₁.setTop (mkF m 26 #[.val (.ref a1), .val (.ref a2), .val (.int (0 : Int32))] [])) _
  refine Goes.of (fun t k => XS.iinc X0.here hx rfl (hb hby d13_26) rfl (l' := #[.val (.ref a1), .val (.ref a2), .val (.int (1 : Int32))]) rfl k) ?_
  show Goes p e below (s₁.setTop (mkF m 29 #[.val (.ref a1), .val (.ref a2), .val (.int (1 : Int32))] [])) _
  refine Goes.of (fun t k => XS.goto X0.here hx rfl (pc0 := 29) (pc' := 9) rfl (hb hby d13_29) (by decide) (by decide) k) ?_
  show Goes p e below (s₁.setTop (mkF m 9 #[.val (.ref a1), .val (.ref a2), .val (.int (1 : Int32))] [])) _
  refine Goes.of (fun t k => XS.iloadN X0.here hx rfl (hb hby d13_9) rfl k) ?_
  show Goes p e below (s₁.setTop (mkF m 10 #[.val (.ref a1), .val (.ref a2), .val (.int (1 : Int32))] [(.int (1 : Int32))])) _
  refine Goes.of (fun t k => XS.aloadN X0.here hx rfl (hb hby d13_10) rfl rfl k) ?_
  have Vc269 := V1
  obtain ⟨clc269, Arc269, qc269, Sc269, Nc269, Hc269, Gc269⟩ := Vc269
  refine Goes.of (X0.arraylength hx (by rw [e0]; exact Arc269.1) (State.isArrayOf_alike hZ.alike Arc269.2.1) (g := (mkF m 11 #[.val (.ref a1), .val (.ref a2), .val (.int (1 : Int32))] [(.ref a1), (.int (1 : Int32))])) rfl rfl (hb hby d13_11)) ?_
  rw [len_of Sc269 Nc269]
  show Goes p e below (s₁.setTop (mkF m 12 #[.val (.ref a1), .val (.ref a2), .val (.int (1 : Int32))] [(.int (4 : Int32)), (.int (1 : Int32))])) _
  refine Goes.of (fun t k => XS.icmpNo X0.here hx rfl (hb hby d13_12) rfl (tlt (by decide)).2.1 k) ?_
  show Goes p e below (s₁.setTop (mkF m 15 #[.val (.ref a1), .val (.ref a2), .val (.int (1 : Int32))] [])) _
  refine Goes.of (fun t k => XS.aloadN X0.here hx rfl (hb hby d13_15) rfl rfl k) ?_
  show Goes p e below (s₁.setTop (mkF m 16 #[.val (.ref a1), .val (.ref a2), .val (.int (1 : Int32))] [(.ref a1)])) _
  refine Goes.of (fun t k => XS.iloadN X0.here hx rfl (hb hby d13_16) rfl k) ?_
  have Vc270 := V1
  obtain ⟨clc270, Arc270, qc270, Sc270, Nc270, Hc270, Gc270⟩ := Vc270
  have hin271 : ¬ ((1 : Int32) < 0 ∨ clc270.slots.size ≤ ((1 : Int32)).toNatClampNeg) := inb_of Sc270 ⟨by decide, by decide⟩
  have hat272 : clc270.slots[((1 : Int32)).toNatClampNeg]? = some (.int y1) := Hc270.at hin271 rfl
  refine Goes.of (fun t k => X0.baloadBytes hx (j := (1 : Int32)) (v := (.int y1)) (by rw [e0]; exact Arc270.1) (State.isArrayOf_alike hZ.alike Arc270.2.1) Arc270.2.2 hin271 hat272 (g := (mkF m 17 #[.val (.ref a1), .val (.ref a2), .val (.int (1 : Int32))] [(.int (1 : Int32)), (.ref a1)])) rfl rfl (hb hby d13_17) _ k) ?_
  show Goes p e below (s₁.setTop (mkF m 18 #[.val (.ref a1), .val (.ref a2), .val (.int (1 : Int32))] [(.int y1)])) _
  refine Goes.of (fun t k => XS.aloadN X0.here hx rfl (hb hby d13_18) rfl rfl k) ?_
  show Goes p e below (s₁.setTop (mkF m 19 #[.val (.ref a1), .val (.ref a2), .val (.int (1 : Int32))] [(.ref a2), (.int y1)])) _
  refine Goes.of (fun t k => XS.iloadN X0.here hx rfl (hb hby d13_19) rfl k) ?_
  have Vc273 := V2
  obtain ⟨clc273, Arc273, qc273, Sc273, Nc273, Hc273, Gc273⟩ := Vc273
  have hin274 : ¬ ((1 : Int32) < 0 ∨ clc273.slots.size ≤ ((1 : Int32)).toNatClampNeg) := inb_of Sc273 ⟨by decide, by decide⟩
  have hat275 : clc273.slots[((1 : Int32)).toNatClampNeg]? = some (.int y1) := Hc273.at hin274 rfl
  refine Goes.of (fun t k => X0.baloadBytes hx (j := (1 : Int32)) (v := (.int y1)) (by rw [e0]; exact Arc273.1) (State.isArrayOf_alike hZ.alike Arc273.2.1) Arc273.2.2 hin274 hat275 (g := (mkF m 20 #[.val (.ref a1), .val (.ref a2), .val (.int (1 : Int32))] [(.int (1 : Int32)), (.ref a2), (.int y1)])) rfl rfl (hb hby d13_20) _ k) ?_
  show Goes p e below (s₁.setTop (mkF m 21 #[.val (.ref a1), .val (.ref a2), .val (.int (1 : Int32))] [(.int y1), (.int y1)])) _
  have hd21_276 : y1 = y1 := rfl
  refine Goes.of (fun t k => XS.icmpYes X0.here hx rfl (pc0 := 21) (pc' := 26) rfl (hb hby d13_21) rfl (teq hd21_276).1 (by decide) (by decide) k) ?_
  show Goes p e below (s₁.setTop (mkF m 26 #[.val (.ref a1), .val (.ref a2), .val (.int (1 : Int32))] [])) _
  refine Goes.of (fun t k => XS.iinc X0.here hx rfl (hb hby d13_26) rfl (l' := #[.val (.ref a1), .val (.ref a2), .val (.int (2 : Int32))]) rfl k) ?_
  show Goes p e below (s₁.setTop (mkF m 29 #[.val (.ref a1), .val (.ref a2), .val (.int (2 : Int32))] [])) _
  refine Goes.of (fun t k => XS.goto X0.here hx rfl (pc0 := 29) (pc' := 9) rfl (hb hby d13_29) (by decide) (by decide) k) ?_
  show Goes p e below (s₁.setTop (mkF m 9 #[.val (.ref a1), .val (.ref a2), .val (.int (2 : Int32))] [])) _
  refine Goes.of (fun t k => XS.iloadN X0.here hx rfl (hb hby d13_9) rfl k) ?_
  show Goes p e below (s₁.setTop (mkF m 10 #[.val (.ref a1), .val (.ref a2), .val (.int (2 : Int32))] [(.int (2 : Int32))])) _
  refine Goes.of (fun t k => XS.aloadN X0.here hx rfl (hb hby d13_10) rfl rfl k) ?_
  have Vc277 := V1
  obtain ⟨clc277, Arc277, qc277, Sc277, Nc277, Hc277, Gc277⟩ := Vc277
  refine Goes.of (X0.arraylength hx (by rw [e0]; exact Arc277.1) (State.isArrayOf_alike hZ.alike Arc277.2.1) (g := (mkF m 11 #[.val (.ref a1), .val (.ref a2), .val (.int (2 : Int32))] [(.ref a1), (.int (2 : Int32))])) rfl rfl (hb hby d13_11)) ?_
  rw [len_of Sc277 Nc277]
  show Goes p e below (s₁.setTop (mkF m 12 #[.val (.ref a1), .val (.ref a2), .val (.int (2 : Int32))] [(.int (4 : Int32)), (.int (2 : Int32))])) _
  refine Goes.of (fun t k => XS.icmpNo X0.here hx rfl (hb hby d13_12) rfl (tlt (by decide)).2.1 k) ?_
  show Goes p e below (s₁.setTop (mkF m 15 #[.val (.ref a1), .val (.ref a2), .val (.int (2 : Int32))] [])) _
  refine Goes.of (fun t k => XS.aloadN X0.here hx rfl (hb hby d13_15) rfl rfl k) ?_
  show Goes p e below (s₁.setTop (mkF m 16 #[.val (.ref a1), .val (.ref a2), .val (.int (2 : Int32))] [(.ref a1)])) _
  refine Goes.of (fun t k => XS.iloadN X0.here hx rfl (hb hby d13_16) rfl k) ?_
  have Vc278 := V1
  obtain ⟨clc278, Arc278, qc278, Sc278, Nc278, Hc278, Gc278⟩ := Vc278
  have hin279 : ¬ ((2 : Int32) < 0 ∨ clc278.slots.size ≤ ((2 : Int32)).toNatClampNeg) := inb_of Sc278 ⟨by decide, by decide⟩
  have hat280 : clc278.slots[((2 : Int32)).toNatClampNeg]? = some (.int y2) := Hc278.at hin279 rfl
  refine Goes.of (fun t k => X0.baloadBytes hx (j := (2 : Int32)) (v := (.int y2)) (by rw [e0]; exact Arc278.1) (State.isArrayOf_alike hZ.alike Arc278.2.1) Arc278.2.2 hin279 hat280 (g := (mkF m 17 #[.val (.ref a1), .val (.ref a2), .val (.int (2 : Int32))] [(.int (2 : Int32)), (.ref a1)])) rfl rfl (hb hby d13_17) _ k) ?_
  show Goes p e below (s₁.setTop (mkF m 18 #[.val (.ref a1), .val (.ref a2), .val (.int (2 : Int32))] [(.int y2)])) _
  refine Goes.of (fun t k => XS.aloadN X0.here hx rfl (hb hby d13_18) rfl rfl k) ?_
  show Goes p e below (s₁.setTop (mkF m 19 #[.val (.ref a1), .val (.ref a2), .val (.int (2 : Int32))] [(.ref a2), (.int y2)])) _
  refine Goes.of (fun t k => XS.iloadN X0.here hx rfl (hb hby d13_19) rfl k) ?_
  have Vc281 := V2
  obtain ⟨clc281, Arc281, qc281, Sc281, Nc281, Hc281, Gc281⟩ := Vc281
  have hin282 : ¬ ((2 : Int32) < 0 ∨ clc281.slots.size ≤ ((2 : Int32)).toNatClampNeg) := inb_of Sc281 ⟨by decide, by decide⟩
  have hat283 : clc281.slots[((2 : Int32)).toNatClampNeg]? = some (.int y2) := Hc281.at hin282 rfl
  refine Goes.of (fun t k => X0.baloadBytes hx (j := (2 : Int32)) (v := (.int y2)) (by rw [e0]; exact Arc281.1) (State.isArrayOf_alike hZ.alike Arc281.2.1) Arc281.2.2 hin282 hat283 (g := (mkF m 20 #[.val (.ref a1), .val (.ref a2), .val (.int (2 : Int32))] [(.int (2 : Int32)), (.ref a2), (.int y2)])) rfl rfl (hb hby d13_20) _ k) ?_
  show Goes p e below (s₁.setTop (mkF m 21 #[.val (.ref a1), .val (.ref a2), .val (.int (2 : Int32))] [(.int y2), (.int y2)])) _
  have hd21_284 : y2 = y2 := rfl
  refine Goes.of (fun t k => XS.icmpYes X0.here hx rfl (pc0 := 21) (pc' := 26) rfl (hb hby d13_21) rfl (teq hd21_284).1 (by decide) (by decide) k) ?_
  show Goes p e below (s₁.setTop (mkF m 26 #[.val (.ref a1), .val (.ref a2), .val (.int (2 : Int32))] [])) _
  refine Goes.of (fun t k => XS.iinc X0.here hx rfl (hb hby d13_26) rfl (l' := #[.val (.ref a1), .val (.ref a2), .val (.int (3 : Int32))]) rfl k) ?_
  show Goes p e below (s₁.setTop (mkF m 29 #[.val (.ref a1), .val (.ref a2), .val (.int (3 : Int32))] [])) _
  refine Goes.of (fun t k => XS.goto X0.here hx rfl (pc0 := 29) (pc' := 9) rfl (hb hby d13_29) (by decide) (by decide) k) ?_
  show Goes p e below (s₁.setTop (mkF m 9 #[.val (.ref a1), .val (.ref a2), .val (.int (3 : Int32))] [])) _
  refine Goes.of (fun t k => XS.iloadN X0.here hx rfl (hb hby d13_9) rfl k) ?_
  show Goes p e below (s₁.setTop (mkF m 10 #[.val (.ref a1), .val (.ref a2), .val (.int (3 : Int32))] [(.int (3 : Int32))])) _
  refine Goes.of (fun t k => XS.aloadN X0.here hx rfl (hb hby d13_10) rfl rfl k) ?_
  have Vc285 := V1
  obtain ⟨clc285, Arc285, qc285, Sc285, Nc285, Hc285, Gc285⟩ := Vc285
  refine Goes.of (X0.arraylength hx (by rw [e0]; exact Arc285.1) (State.isArrayOf_alike hZ.alike Arc285.2.1) (g := (mkF m 11 #[.val (.ref a1), .val (.ref a2), .val (.int (3 : Int32))] [(.ref a1), (.int (3 : Int32))])) rfl rfl (hb hby d13_11)) ?_
  rw [len_of Sc285 Nc285]
  show Goes p e below (s₁.setTop (mkF m 12 #[.val (.ref a1), .val (.ref a2), .val (.int (3 : Int32))] [(.int (4 : Int32)), (.int (3 : Int32))])) _
  refine Goes.of (fun t k => XS.icmpNo X0.here hx rfl (hb hby d13_12) rfl (tlt (by decide)).2.1 k) ?_
  show Goes p e below (s₁.setTop (mkF m 15 #[.val (.ref a1), .val (.ref a2), .val (.int (3 : Int32))] [])) _
  refine Goes.of (fun t k => XS.aloadN X0.here hx rfl (hb hby d13_15) rfl rfl k) ?_
  show Goes p e below (s₁.setTop (mkF m 16 #[.val (.ref a1), .val (.ref a2), .val (.int (3 : Int32))] [(.ref a1)])) _
  refine Goes.of (fun t k => XS.iloadN X0.here hx rfl (hb hby d13_16) rfl k) ?_
  have Vc286 := V1
  obtain ⟨clc286, Arc286, qc286, Sc286, Nc286, Hc286, Gc286⟩ := Vc286
  have hin287 : ¬ ((3 : Int32) < 0 ∨ clc286.slots.size ≤ ((3 : Int32)).toNatClampNeg) := inb_of Sc286 ⟨by decide, by decide⟩
  have hat288 : clc286.slots[((3 : Int32)).toNatClampNeg]? = some (.int y3) := Hc286.at hin287 rfl
  refine Goes.of (fun t k => X0.baloadBytes hx (j := (3 : Int32)) (v := (.int y3)) (by rw [e0]; exact Arc286.1) (State.isArrayOf_alike hZ.alike Arc286.2.1) Arc286.2.2 hin287 hat288 (g := (mkF m 17 #[.val (.ref a1), .val (.ref a2), .val (.int (3 : Int32))] [(.int (3 : Int32)), (.ref a1)])) rfl rfl (hb hby d13_17) _ k) ?_
  show Goes p e below (s₁.setTop (mkF m 18 #[.val (.ref a1), .val (.ref a2), .val (.int (3 : Int32))] [(.int y3)])) _
  refine Goes.of (fun t k => XS.aloadN X0.here hx rfl (hb hby d13_18) rfl rfl k) ?_
  show Goes p e below (s₁.setTop (mkF m 19 #[.val (.ref a1), .val (.ref a2), .val (.int (3 : Int32))] [(.ref a2), (.int y3)])) _
  refine Goes.of (fun t k => XS.iloadN X0.here hx rfl (hb hby d13_19) rfl k) ?_
  have Vc289 := V2
  obtain ⟨clc289, Arc289, qc289, Sc289, Nc289, Hc289, Gc289⟩ := Vc289
  have hin290 : ¬ ((3 : Int32) < 0 ∨ clc289.slots.size ≤ ((3 : Int32)).toNatClampNeg) := inb_of Sc289 ⟨by decide, by decide⟩
  have hat291 : clc289.slots[((3 : Int32)).toNatClampNeg]? = some (.int y3) := Hc289.at hin290 rfl
  refine Goes.of (fun t k => X0.baloadBytes hx (j := (3 : Int32)) (v := (.int y3)) (by rw [e0]; exact Arc289.1) (State.isArrayOf_alike hZ.alike Arc289.2.1) Arc289.2.2 hin290 hat291 (g := (mkF m 20 #[.val (.ref a1), .val (.ref a2), .val (.int (3 : Int32))] [(.int (3 : Int32)), (.ref a2), (.int y3)])) rfl rfl (hb hby d13_20) _ k) ?_
  show Goes p e below (s₁.setTop (mkF m 21 #[.val (.ref a1), .val (.ref a2), .val (.int (3 : Int32))] [(.int y3), (.int y3)])) _
  have hd21_292 : y3 = y3 := rfl
  refine Goes.of (fun t k => XS.icmpYes X0.here hx rfl (pc0 := 21) (pc' := 26) rfl (hb hby d13_21) rfl (teq hd21_292).1 (by decide) (by decide) k) ?_
  show Goes p e below (s₁.setTop (mkF m 26 #[.val (.ref a1), .val (.ref a2), .val (.int (3 : Int32))] [])) _
  refine Goes.of (fun t k => XS.iinc X0.here hx rfl (hb hby d13_26) rfl (l' := #[.val (.ref a1), .val (.ref a2), .val (.int (4 : Int32))]) rfl k) ?_
  show Goes p e below (s₁.setTop (mkF m 29 #[.val (.ref a1), .val (.ref a2), .val (.int (4 : Int32))] [])) _
  refine Goes.of (fun t k => XS.goto X0.here hx rfl (pc0 := 29) (pc' := 9) rfl (hb hby d13_29) (by decide) (by decide) k) ?_
  show Goes p e below (s₁.setTop (mkF m 9 #[.val (.ref a1), .val (.ref a2), .val (.int (4 : Int32))] [])) _
  refine Goes.of (fun t k => XS.iloadN X0.here hx rfl (hb hby d13_9) rfl k) ?_
  show Goes p e below (s₁.setTop (mkF m 10 #[.val (.ref a1), .val (.ref a2), .val (.int (4 : Int32))] [(.int (4 : Int32))])) _
  refine Goes.of (fun t k => XS.aloadN X0.here hx rfl (hb hby d13_10) rfl rfl k) ?_
  have Vc293 := V1
  obtain ⟨clc293, Arc293, qc293, Sc293, Nc293, Hc293, Gc293⟩ := Vc293
  refine Goes.of (X0.arraylength hx (by rw [e0]; exact Arc293.1) (State.isArrayOf_alike hZ.alike Arc293.2.1) (g := (mkF m 11 #[.val (.ref a1), .val (.ref a2), .val (.int (4 : Int32))] [(.ref a1), (.int (4 : Int32))])) rfl rfl (hb hby d13_11)) ?_
  rw [len_of Sc293 Nc293]
  show Goes p e below (s₁.setTop (mkF m 12 #[.val (.ref a1), .val (.ref a2), .val (.int (4 : Int32))] [(.int (4 : Int32)), (.int (4 : Int32))])) _
  refine Goes.of (fun t k => XS.icmpYes X0.here hx rfl (pc0 := 12) (pc' := 32) rfl (hb hby d13_12) rfl (flt (by decide)).2.1 (by decide) (by decide) k) ?_
  show Goes p e below (s₁.setTop (mkF m 32 #[.val (.ref a1), .val (.ref a2), .val (.int (4 : Int32))] [])) _
  refine Goes.of (fun t k => XS.iconst X0.here hx rfl (hb hby d13_32) k) ?_
  show Goes p e below (s₁.setTop (mkF m 33 #[.val (.ref a1), .val (.ref a2), .val (.int (4 : Int32))] [(.int (1 : Int32))])) _
  exact Goes.retN (t := .boolean) X0 hx Bd.returns (by simp) hlocks (hb hby d13_33) (⟨rfl, N0, e0⟩) (by decide) (by decide)
theorem ef_12 (m : MethodId) (x0 : Addr) (x1 : Addr) : entryFrame m #[(.ref x0), (.ref x1)] 3 = mkF m 0 #[.val (.ref x0), .val (.ref x1), .unset] [] := by first | (simp [entryFrame, mkF, argsToLocals, Value.category]; done) | rfl
def Q12 (Z : State) (a1 : Addr) (a2 : Addr) (b1 : Addr) (b2 : Addr) (k1 : ClassId) (k2 : ClassId) (cmS : Int32) (y0 : Int32) (y1 : Int32) (y2 : Int32) (y3 : Int32) (h0 : Heap) (n0 : Nat) (v : Option Value) (h : Heap) (L : List Loc) : Prop := v = some (.int 1) ∧ Fr n0 L ∧ h = h0
set_option maxRecDepth 65536 in
set_option maxHeartbeats 40000000 in
theorem rm12 (l : Launch) (Z : State) (a0 : Array Value) (hw : ∀ d ∈ tables_1, d.before a0 Z = true) (ws : List Jvm.Cond) (a1 : Addr) (a2 : Addr) (b1 : Addr) (b2 : Addr) (k1 : ClassId) (k2 : ClassId) (cmS : Int32) (y0 : Int32) (y1 : Int32) (y2 : Int32) (y3 : Int32) (h0 : Heap) (n0 : Nat) (Z0 : n0 ≤ h0.size) (O0 : Old Z n0 h0) (SC : Sta Z Z.heap "java/lang/String" "COMPACT_STRINGS" "Z" (.int cmS)) (cs0 : cmS ≠ 0) (E1 : Exa Z h0 a1 "java/lang/String") (C1 : Fld Z h0 a1 "java/lang/String" "coder" "B" (.int (0 : Int32))) (F1 : Fld Z h0 a1 "java/lang/String" "value" "[B" (.ref b1)) (V1 : Arv Z h0 b1 k1 .byte (4 : Int32) [(.int y0), (.int y1), (.int y2), (.int y3)] (.int (0 : Int32))) (E2 : Exa Z h0 a2 "java/lang/String") (C2 : Fld Z h0 a2 "java/lang/String" "coder" "B" (.int (0 : Int32))) (F2 : Fld Z h0 a2 "java/lang/String" "value" "[B" (.ref b2)) (V2 : Arv Z h0 b2 k2 .byte (4 : Int32) [(.int y0), (.int y1), (.int y2), (.int y3)] (.int (0 : Int32))) :
    MetFree l (⟨"java/lang/String", "equals", "(Ljava/lang/Object;)Z"⟩ : MethodName) (head1 (Jvm.Cond.code (⟨"java/lang/String", "equals", "(Ljava/lang/Object;)Z"⟩ : MethodName) jdk_42_method_66_code 3 (some .boolean) :: ws) ({ frames := 1, cells := 0, slots := 0, locals := 14 } : Room)) (fun a U => a = #[(.ref a1), (.ref a2)] ∧ Z.Warmed39 U.vm ∧ U.heap = h0) (fun _ _ _ _ _ => True) (fun _ U o U' => ∃ v L, o = .returned v ∧ Q12 Z a1 a2 b1 b2 k1 k2 cmS y0 y1 y2 y3 h0 n0 v U'.heap L ∧ FrameEnd U o U' L ({ frames := 1, cells := 0, slots := 0, locals := 14 } : Room).cells ({ frames := 1, cells := 0, slots := 0, locals := 14 } : Room).slots) := by
  refine MetFree.of_bodySF (plainFor_of_name pn_12) hisR ?_
  intro p e s m args below meth c s₁ Bd hml0 hP hK
  obtain ⟨rfl, hZ, hh⟩ := hP
  have hx := Bd.exec
  have hby := Bd.bytes
  have hml : c.maxLocals = 3 := hml0
  have hown : s.vm.findClass "java/lang/String" = some m.cls := findClass_of_methodNamed Bd.named
  have hnm := (name_of_methodNamed Bd.named Bd.method).1
  have hlocks : meth.locks = false := BodyLoose.notSynchronized Bd
  have X0 : Stand p l e ({ frames := 1, cells := 0, slots := 0, locals := 14 } : Room) s m #[(.ref a1), (.ref a2)] below meth c s₁ [] 0 0 := Stand.of_body Bd
  have e0 : s₁.heap = h0 := by rw [← hh, Bd.state]; rfl
  have N0 := Fr.nil n0
  show Goes p e below (s₁.setTop (entryFrame m #[(.ref a1), (.ref a2)] 3)) (Fin s (Q12 Z a1 a2 b1 b2 k1 k2 cmS y0 y1 y2 y3 h0 n0) ({ frames := 1, cells := 0, slots := 0, locals := 14 } : Room).cells ({ frames := 1, cells := 0, slots := 0, locals := 14 } : Room).slots)
  refine Goes.of (fun t k => castTop (ef_12 m a1 a2) k) ?_
  show Goes p e below (s₁.setTop (mkF m 0 #[.val (.ref a1), .val (.ref a2), .unset] [])) _
  refine Goes.of (fun t k => XS.aloadN X0.here hx rfl (hb hby d12_0) rfl rfl k) ?_
  show Goes p e below (s₁.setTop (mkF m 1 #[.val (.ref a1), .val (.ref a2), .unset] [(.ref a1)])) _
  refine Goes.of (fun t k => XS.aloadN X0.here hx rfl (hb hby d12_1) rfl rfl k) ?_
  show Goes p e below (s₁.setTop (mkF m 2 #[.val (.ref a1), .val (.ref a2), .unset] [(.ref a2), (.ref a1)])) _
  by_cases hc2_294 : a1 = a2
  · refine Goes.of (fun t k => Jvm.RoadKit.acmp (g := (mkF m 2 #[.val (.ref a1), .val (.ref a2), .unset] [(.ref a2), (.ref a1)])) X0 hx rfl rfl rfl (pc0 := 2) (pc' := 5) (same := true) rfl (hb hby d12_2) rfl (decide_eq_true (congrArg Value.ref hc2_294)) (by decide) (by decide) k) ?_
    show Goes p e below (s₁.setTop (mkF m 5 #[.val (.ref a1), .val (.ref a2), .unset] [])) _
    refine Goes.of (fun t k => XS.iconst X0.here hx rfl (hb hby d12_5) k) ?_
    show Goes p e below (s₁.setTop (mkF m 6 #[.val (.ref a1), .val (.ref a2), .unset] [(.int (1 : Int32))])) _
    exact Goes.retN (t := .boolean) X0 hx Bd.returns (by simp) hlocks (hb hby d12_6) (⟨rfl, N0, e0⟩) (by decide) (by decide)
  · refine Goes.of (fun t k => Jvm.RoadKit.acmp (g := (mkF m 2 #[.val (.ref a1), .val (.ref a2), .unset] [(.ref a2), (.ref a1)])) X0 hx rfl rfl rfl (pc0 := 2) (pc' := 7) (same := false) rfl (hb hby d12_2) rfl (decide_eq_false (fun q => hc2_294 (Value.ref.inj q))) (by decide) (by decide) k) ?_
    show Goes p e below (s₁.setTop (mkF m 7 #[.val (.ref a1), .val (.ref a2), .unset] [])) _
    refine Goes.of (fun t k => XS.aloadN X0.here hx rfl (hb hby d12_7) rfl rfl k) ?_
    show Goes p e below (s₁.setTop (mkF m 8 #[.val (.ref a1), .val (.ref a2), .unset] [(.ref a2)])) _
    obtain ⟨T295, X295, e295, st295⟩ := instY X0 hx hZ hown (wd hw 91 rfl) e0 (Ins.self E2) (g := (mkF m 8 #[.val (.ref a1), .val (.ref a2), .unset] [(.ref a2)])) rfl rfl (hb hby d12_8)
    refine Goes.of st295 ?_
    show Goes p e below (T295.setTop (mkF m 11 #[.val (.ref a1), .val (.ref a2), .unset] [(.int (1 : Int32))])) _
    refine Goes.of (fun t k => XS.ifNo X295.here hx rfl (hb hby d12_11) rfl ((if0 _ _).trans (feq (by decide)).1) k) ?_
    show Goes p e below (T295.setTop (mkF m 14 #[.val (.ref a1), .val (.ref a2), .unset] [])) _
    refine Goes.of (fun t k => XS.aloadN X295.here hx rfl (hb hby d12_14) rfl rfl k) ?_
    show Goes p e below (T295.setTop (mkF m 15 #[.val (.ref a1), .val (.ref a2), .unset] [(.ref a2)])) _
    obtain ⟨T296, X296, e296, st296⟩ := castY X295 hx hZ hown (wd hw 91 rfl) e295 (Ins.self E2) (g := (mkF m 15 #[.val (.ref a1), .val (.ref a2), .unset] [(.ref a2)])) rfl rfl (hb hby d12_15)
    refine Goes.of st296 ?_
    show Goes p e below (T296.setTop (mkF m 18 #[.val (.ref a1), .val (.ref a2), .unset] [(.ref a2)])) _
    refine Goes.of (fun t k => XS.astoreN X296.here hx rfl (hb hby d12_18) rfl rfl (l' := #[.val (.ref a1), .val (.ref a2), .val (.ref a2)]) rfl k) ?_
    obtain ⟨T297, X297, e297, st297⟩ := getS2 X296 hx hZ hown (host := "") (Or.inl (wd hw 93 rfl)) Via.refl e296 (SC.ext O0.2) (g := (mkF m 19 #[.val (.ref a1), .val (.ref a2), .val (.ref a2)] [])) rfl (hb hby d12_19)
    refine Goes.of st297 ?_
    show Goes p e below (T297.setTop (mkF m 22 #[.val (.ref a1), .val (.ref a2), .val (.ref a2)] [(.int cmS)])) _
    have hd22_298 : ¬ (cmS = (0 : Int32)) := cs0
    refine Goes.of (fun t k => XS.ifNo X297.here hx rfl (hb hby d12_22) rfl ((if0 _ _).trans (feq hd22_298).1) k) ?_
    show Goes p e below (T297.setTop (mkF m 25 #[.val (.ref a1), .val (.ref a2), .val (.ref a2)] [])) _
    refine Goes.of (fun t k => XS.aloadN X297.here hx rfl (hb hby d12_25) rfl rfl k) ?_
    obtain ⟨T299, X299, e299, st299⟩ := getF X297 hx hZ hown (host := "") (Or.inl (wd hw 94 rfl)) Via.refl e297 C1 (g := (mkF m 26 #[.val (.ref a1), .val (.ref a2), .val (.ref a2)] [(.ref a1)])) rfl rfl (hb hby d12_26)
    refine Goes.of st299 ?_
    show Goes p e below (T299.setTop (mkF m 29 #[.val (.ref a1), .val (.ref a2), .val (.ref a2)] [(.int (0 : Int32))])) _
    refine Goes.of (fun t k => XS.aloadN X299.here hx rfl (hb hby d12_29) rfl rfl k) ?_
    obtain ⟨T300, X300, e300, st300⟩ := getF X299 hx hZ hown (host := "") (Or.inl (wd hw 94 rfl)) Via.refl e299 C2 (g := (mkF m 30 #[.val (.ref a1), .val (.ref a2), .val (.ref a2)] [(.ref a2), (.int (0 : Int32))])) rfl rfl (hb hby d12_30)
    refine Goes.of st300 ?_
    show Goes p e below (T300.setTop (mkF m 33 #[.val (.ref a1), .val (.ref a2), .val (.ref a2)] [(.int (0 : Int32)), (.int (0 : Int32))])) _
    refine Goes.of (fun t k => XS.icmpNo X300.here hx rfl (hb hby d12_33) rfl (teq (by decide)).2 k) ?_
    show Goes p e below (T300.setTop (mkF m 36 #[.val (.ref a1), .val (.ref a2), .val (.ref a2)] [])) _
    refine Goes.of (fun t k => XS.aloadN X300.here hx rfl (hb hby d12_36) rfl rfl k) ?_
    obtain ⟨T301, X301, e301, st301⟩ := getF X300 hx hZ hown (host := "") (Or.inl (wd hw 95 rfl)) Via.refl e300 F1 (g := (mkF m 37 #[.val (.ref a1), .val (.ref a2), .val (.ref a2)] [(.ref a1)])) rfl rfl (hb hby d12_37)
    refine Goes.of st301 ?_
    show Goes p e below (T301.setTop (mkF m 40 #[.val (.ref a1), .val (.ref a2), .val (.ref a2)] [(.ref b1)])) _
    refine Goes.of (fun t k => XS.aloadN X301.here hx rfl (hb hby d12_40) rfl rfl k) ?_
    obtain ⟨T302, X302, e302, st302⟩ := getF X301 hx hZ hown (host := "") (Or.inl (wd hw 95 rfl)) Via.refl e301 F2 (g := (mkF m 41 #[.val (.ref a1), .val (.ref a2), .val (.ref a2)] [(.ref a2), (.ref b1)])) rfl rfl (hb hby d12_41)
    refine Goes.of st302 ?_
    obtain ⟨_, _, ⟨T303, L303, k303, n303⟩, -, X303, ⟨Lc303, hQ303, l303, y303, z303⟩, st303⟩ := Jvm.LawKit.callS X302 hx (y := (⟨"java/lang/StringLatin1", "equals", "([B[B)Z"⟩ : MethodName)) hown (mvT hZ (wd hw 96 rfl)) (mvT hZ (wd hw 97 rfl)) (mvT hZ (wd hw 98 rfl)) (mvT hZ (wd hw 99 rfl)) (by decide) (backOf (W := 0) (rm13 l Z a0 hw [] b1 b2 k1 k2 y0 y1 y2 y3 h0 n0 Z0 V1 V2) hZ (wd hw 99 rfl) (wd hw 98 rfl) (by decide) (by decide)) (g := (mkF m 44 #[.val (.ref a1), .val (.ref a2), .val (.ref a2)] [(.ref b2), (.ref b1)])) rfl (by rw [hml]; rfl) (argsL := [(.ref b1), (.ref b2)]) (rest := []) (lenOf pd_13 rfl) rfl (by show 2 * 0 + _ ≤ _; exact Nat.le_of_eq rfl) (hb hby d12_44) (fun _ _ => ⟨rfl, e302, (by decide : 0 + 0 ≤ _), (by decide : 0 + 0 ≤ _)⟩)
    dsimp only [Pt.U, Pt.locs, Pt.cells, Pt.slots] at X303 l303 y303 z303 st303 hQ303
    subst l303 y303 z303
    obtain ⟨rfl, N303q, e303⟩ := hQ303
    have N303 := Fr.app N0 N303q
    refine Goes.of st303 ?_
    show Goes p e below (T303.setTop (mkF m 47 #[.val (.ref a1), .val (.ref a2), .val (.ref a2)] [(.int (1 : Int32))])) _
    refine Goes.of (fun t k => XS.ifNo X303.here hx rfl (hb hby d12_47) rfl ((if0 _ _).trans (feq (by decide)).1) k) ?_
    show Goes p e below (T303.setTop (mkF m 50 #[.val (.ref a1), .val (.ref a2), .val (.ref a2)] [])) _
    refine Goes.of (fun t k => XS.iconst X303.here hx rfl (hb hby d12_50) k) ?_
    show Goes p e below (T303.setTop (mkF m 51 #[.val (.ref a1), .val (.ref a2), .val (.ref a2)] [(.int (1 : Int32))])) _
    refine Goes.of (fun t k => XS.goto X303.here hx rfl (pc0 := 51) (pc' := 55) rfl (hb hby d12_51) (by decide) (by decide) k) ?_
    show Goes p e below (T303.setTop (mkF m 55 #[.val (.ref a1), .val (.ref a2), .val (.ref a2)] [(.int (1 : Int32))])) _
    exact Goes.retN (t := .boolean) X303 hx Bd.returns (by simp) hlocks (hb hby d12_55) (⟨rfl, N303, e303⟩) (by decide) (by decide)
theorem ef_13_304 (m : MethodId) (x0 : Addr) (x1 : Addr) : entryFrame m #[(.ref x0), (.ref x1)] 3 = mkF m 0 #[.val (.ref x0), .val (.ref x1), .unset] [] := by first | (simp [entryFrame, mkF, argsToLocals, Value.category]; done) | rfl
def Q13_304 (Z : State) (a1 : Addr) (a2 : Addr) (k1 : ClassId) (k2 : ClassId) (y0 : Int32) (y1 : Int32) (y2 : Int32) (y3 : Int32) (y4 : Int32) (y5 : Int32) (h0 : Heap) (n0 : Nat) (v : Option Value) (h : Heap) (L : List Loc) : Prop := v = some (.int 1) ∧ Fr n0 L ∧ h = h0
set_option maxRecDepth 65536 in
set_option maxHeartbeats 40000000 in
theorem rm13_304 (l : Launch) (Z : State) (a0 : Array Value) (hw : ∀ d ∈ tables_1, d.before a0 Z = true) (ws : List Jvm.Cond) (a1 : Addr) (a2 : Addr) (k1 : ClassId) (k2 : ClassId) (y0 : Int32) (y1 : Int32) (y2 : Int32) (y3 : Int32) (y4 : Int32) (y5 : Int32) (h0 : Heap) (n0 : Nat) (Z0 : n0 ≤ h0.size) (V1 : Arv Z h0 a1 k1 .byte (6 : Int32) [(.int y0), (.int y1), (.int y2), (.int y3), (.int y4), (.int y5)] (.int (0 : Int32))) (V2 : Arv Z h0 a2 k2 .byte (6 : Int32) [(.int y0), (.int y1), (.int y2), (.int y3), (.int y4), (.int y5)] (.int (0 : Int32))) :
    MetFree l (⟨"java/lang/StringLatin1", "equals", "([B[B)Z"⟩ : MethodName) (head1 (Jvm.Cond.code (⟨"java/lang/StringLatin1", "equals", "([B[B)Z"⟩ : MethodName) jdk_43_method_13_code 3 (some .boolean) :: ws) ({ frames := 0, cells := 0, slots := 0, locals := 0 } : Room)) (fun a U => a = #[(.ref a1), (.ref a2)] ∧ Z.Warmed39 U.vm ∧ U.heap = h0) (fun _ _ _ _ _ => True) (fun _ U o U' => ∃ v L, o = .returned v ∧ Q13_304 Z a1 a2 k1 k2 y0 y1 y2 y3 y4 y5 h0 n0 v U'.heap L ∧ FrameEnd U o U' L ({ frames := 0, cells := 0, slots := 0, locals := 0 } : Room).cells ({ frames := 0, cells := 0, slots := 0, locals := 0 } : Room).slots) := by
  refine MetFree.of_bodySF (plainFor_of_name pn_11) hisR ?_
  intro p e s m args below meth c s₁ Bd hml0 hP hK
  obtain ⟨rfl, hZ, hh⟩ := hP
  have hx := Bd.exec
  have hby := Bd.bytes
  have hml : c.maxLocals = 3 := hml0
  have hown : s.vm.findClass "java/lang/StringLatin1" = some m.cls := findClass_of_methodNamed Bd.named
  have hnm := (name_of_methodNamed Bd.named Bd.method).1
  have hlocks : meth.locks = false := BodyLoose.notSynchronized Bd
  have X0 : Stand p l e ({ frames := 0, cells := 0, slots := 0, locals := 0 } : Room) s m #[(.ref a1), (.ref a2)] below meth c s₁ [] 0 0 := Stand.of_body Bd
  have e0 : s₁.heap = h0 := by rw [← hh, Bd.state]; rfl
  have N0 := Fr.nil n0
  show Goes p e below (s₁.setTop (entryFrame m #[(.ref a1), (.ref a2)] 3)) (Fin s (Q13_304 Z a1 a2 k1 k2 y0 y1 y2 y3 y4 y5 h0 n0) ({ frames := 0, cells := 0, slots := 0, locals := 0 } : Room).cells ({ frames := 0, cells := 0, slots := 0, locals := 0 } : Room).slots)
  refine Goes.of (fun t k => castTop (ef_13_304 m a1 a2) k) ?_
  show Goes p e below (s₁.setTop (mkF m 0 #[.val (.ref a1), .val (.ref a2), .unset] [])) _
  refine Goes.of (fun t k => XS.aloadN X0.here hx rfl (hb hby d13_0) rfl rfl k) ?_
  have Vc305 := V1
  obtain ⟨clc305, Arc305, qc305, Sc305, Nc305, Hc305, Gc305⟩ := Vc305
  refine Goes.of (X0.arraylength hx (by rw [e0]; exact Arc305.1) (State.isArrayOf_alike hZ.alike Arc305.2.1) (g := (mkF m 1 #[.val (.ref a1), .val (.ref a2), .unset] [(.ref a1)])) rfl rfl (hb hby d13_1)) ?_
  rw [len_of Sc305 Nc305]
  show Goes p e below (s₁.setTop (mkF m 2 #[.val (.ref a1), .val (.ref a2), .unset] [(.int (6 : Int32))])) _
  refine Goes.of (fun t k => XS.aloadN X0.here hx rfl (hb hby d13_2) rfl rfl k) ?_
  have Vc306 := V2
  obtain ⟨clc306, Arc306, qc306, Sc306, Nc306, Hc306, Gc306⟩ := Vc306
  refine Goes.of (X0.arraylength hx (by rw [e0]; exact Arc306.1) (State.isArrayOf_alike hZ.alike Arc306.2.1) (g := (mkF m 3 #[.val (.ref a1), .val (.ref a2), .unset] [(.ref a2), (.int (6 : Int32))])) rfl rfl (hb hby d13_3)) ?_
  rw [len_of Sc306 Nc306]
  show Goes p e below (s₁.setTop (mkF m 4 #[.val (.ref a1), .val (.ref a2), .unset] [(.int (6 : Int32)), (.int (6 : Int32))])) _
  refine Goes.of (fun t k => XS.icmpNo X0.here hx rfl (hb hby d13_4) rfl (teq (by decide)).2 k) ?_
  show Goes p e below (s₁.setTop (mkF m 7 #[.val (.ref a1), .val (.ref a2), .unset] [])) _
  refine Goes.of (fun t k => XS.iconst X0.here hx rfl (hb hby d13_7) k) ?_
  show Goes p e below (s₁.setTop (mkF m 8 #[.val (.ref a1), .val (.ref a2), .unset] [(.int (0 : Int32))])) _
  refine Goes.of (fun t k => XS.istoreN X0.here hx rfl (hb hby d13_8) rfl (l' := #[.val (.ref a1), .val (.ref a2), .val (.int (0 : Int32))]) rfl k) ?_
  show Goes p e below (s₁.setTop (mkF m 9 #[.val (.ref a1), .val (.ref a2), .val (.int (0 : Int32))] [])) _
  refine Goes.of (fun t k => XS.iloadN X0.here hx rfl (hb hby d13_9) rfl k) ?_
  show Goes p e below (s₁.setTop (mkF m 10 #[.val (.ref a1), .val (.ref a2), .val (.int (0 : Int32))] [(.int (0 : Int32))])) _
  refine Goes.of (fun t k => XS.aloadN X0.here hx rfl (hb hby d13_10) rfl rfl k) ?_
  have Vc307 := V1
  obtain ⟨clc307, Arc307, qc307, Sc307, Nc307, Hc307, Gc307⟩ := Vc307
  refine Goes.of (X0.arraylength hx (by rw [e0]; exact Arc307.1) (State.isArrayOf_alike hZ.alike Arc307.2.1) (g := (mkF m 11 #[.val (.ref a1), .val (.ref a2), .val (.int (0 : Int32))] [(.ref a1), (.int (0 : Int32))])) rfl rfl (hb hby d13_11)) ?_
  rw [len_of Sc307 Nc307]
  show Goes p e below (s₁.setTop (mkF m 12 #[.val (.ref a1), .val (.ref a2), .val (.int (0 : Int32))] [(.int (6 : Int32)), (.int (0 : Int32))])) _
  refine Goes.of (fun t k => XS.icmpNo X0.here hx rfl (hb hby d13_12) rfl (tlt (by decide)).2.1 k) ?_
  show Goes p e below (s₁.setTop (mkF m 15 #[.val (.ref a1), .val (.ref a2), .val (.int (0 : Int32))] [])) _
  refine Goes.of (fun t k => XS.aloadN X0.here hx rfl (hb hby d13_15) rfl rfl k) ?_
  show Goes p e below (s₁.setTop (mkF m 16 #[.val (.ref a1), .val (.ref a2), .val (.int (0 : Int32))] [(.ref a1)])) _
  refine Goes.of (fun t k => XS.iloadN X0.here hx rfl (hb hby d13_16) rfl k) ?_
  have Vc308 := V1
  obtain ⟨clc308, Arc308, qc308, Sc308, Nc308, Hc308, Gc308⟩ := Vc308
  have hin309 : ¬ ((0 : Int32) < 0 ∨ clc308.slots.size ≤ ((0 : Int32)).toNatClampNeg) := inb_of Sc308 ⟨by decide, by decide⟩
  have hat310 : clc308.slots[((0 : Int32)).toNatClampNeg]? = some (.int y0) := Hc308.at hin309 rfl
  refine Goes.of (fun t k => X0.baloadBytes hx (j := (0 : Int32)) (v := (.int y0)) (by rw [e0]; exact Arc308.1) (State.isArrayOf_alike hZ.alike Arc308.2.1) Arc308.2.2 hin309 hat310 (g := (mkF m 17 #[.val (.ref a1), .val (.ref a2), .val (.int (0 : Int32))] [(.int (0 : Int32)), (.ref a1)])) rfl rfl (hb hby d13_17) _ k) ?_
  show Goes p e below (s₁.setTop (mkF m 18 #[.val (.ref a1), .val (.ref a2), .val (.int (0 : Int32))] [(.int y0)])) _
  refine Goes.of (fun t k => XS.aloadN X0.here hx rfl (hb hby d13_18) rfl rfl k) ?_
  show Goes p e below (s₁.setTop (mkF m 19 #[.val (.ref a1), .val (.ref a2), .val (.int (0 : Int32))] [(.ref a2), (.int y0)])) _
  refine Goes.of (fun t k => XS.iloadN X0.here hx rfl (hb hby d13_19) rfl k) ?_
  have Vc311 := V2
  obtain ⟨clc311, Arc311, qc311, Sc311, Nc311, Hc311, Gc311⟩ := Vc311
  have hin312 : ¬ ((0 : Int32) < 0 ∨ clc311.slots.size ≤ ((0 : Int32)).toNatClampNeg) := inb_of Sc311 ⟨by decide, by decide⟩
  have hat313 : clc311.slots[((0 : Int32)).toNatClampNeg]? = some (.int y0) := Hc311.at hin312 rfl
  refine Goes.of (fun t k => X0.baloadBytes hx (j := (0 : Int32)) (v := (.int y0)) (by rw [e0]; exact Arc311.1) (State.isArrayOf_alike hZ.alike Arc311.2.1) Arc311.2.2 hin312 hat313 (g := (mkF m 20 #[.val (.ref a1), .val (.ref a2), .val (.int (0 : Int32))] [(.int (0 : Int32)), (.ref a2), (.int y0)])) rfl rfl (hb hby d13_20) _ k) ?_
  show Goes p e below (s₁.setTop (mkF m 21 #[.val (.ref a1), .val (.ref a2), .val (.int (0 : Int32))] [(.int y0), (.int y0)])) _
  have hd21_314 : y0 = y0 := rfl
  refine Goes.of (fun t k => XS.icmpYes X0.here hx rfl (pc0 := 21) (pc' := 26) rfl (hb hby d13_21) rfl (teq hd21_314).1 (by decide) (by decide) k) ?_
  show Goes p e below (s₁.setTop (mkF m 26 #[.val (.ref a1), .val (.ref a2), .val (.int (0 : Int32))] [])) _
  refine Goes.of (fun t k => XS.iinc X0.here hx rfl (hb hby d13_26) rfl (l' := #[.val (.ref a1), .val (.ref a2), .val (.int (1 : Int32))]) rfl k) ?_
  show Goes p e below (s₁.setTop (mkF m 29 #[.val (.ref a1), .val (.ref a2), .val (.int (1 : Int32))] [])) _
  refine Goes.of (fun t k => XS.goto X0.here hx rfl (pc0 := 29) (pc' := 9) rfl (hb hby d13_29) (by decide) (by decide) k) ?_
  show Goes p e below (s₁.setTop (mkF m 9 #[.val (.ref a1), .val (.ref a2), .val (.int (1 : Int32))] [])) _
  refine Goes.of (fun t k => XS.iloadN X0.here hx rfl (hb hby d13_9) rfl k) ?_
  show Goes p e below (s₁.setTop (mkF m 10 #[.val (.ref a1), .val (.ref a2), .val (.int (1 : Int32))] [(.int (1 : Int32))])) _
  refine Goes.of (fun t k => XS.aloadN X0.here hx rfl (hb hby d13_10) rfl rfl k) ?_
  have Vc315 := V1
  obtain ⟨clc315, Arc315, qc315, Sc315, Nc315, Hc315, Gc315⟩ := Vc315
  refine Goes.of (X0.arraylength hx (by rw [e0]; exact Arc315.1) (State.isArrayOf_alike hZ.alike Arc315.2.1) (g := (mkF m 11 #[.val (.ref a1), .val (.ref a2), .val (.int (1 : Int32))] [(.ref a1), (.int (1 : Int32))])) rfl rfl (hb hby d13_11)) ?_
  rw [len_of Sc315 Nc315]
  show Goes p e below (s₁.setTop (mkF m 12 #[.val (.ref a1), .val (.ref a2), .val (.int (1 : Int32))] [(.int (6 : Int32)), (.int (1 : Int32))])) _
  refine Goes.of (fun t k => XS.icmpNo X0.here hx rfl (hb hby d13_12) rfl (tlt (by decide)).2.1 k) ?_
  show Goes p e below (s₁.setTop (mkF m 15 #[.val (.ref a1), .val (.ref a2), .val (.int (1 : Int32))] [])) _
  refine Goes.of (fun t k => XS.aloadN X0.here hx rfl (hb hby d13_15) rfl rfl k) ?_
  show Goes p e below (s₁.setTop (mkF m 16 #[.val (.ref a1), .val (.ref a2), .val (.int (1 : Int32))] [(.ref a1)])) _
  refine Goes.of (fun t k => XS.iloadN X0.here hx rfl (hb hby d13_16) rfl k) ?_
  have Vc316 := V1
  obtain ⟨clc316, Arc316, qc316, Sc316, Nc316, Hc316, Gc316⟩ := Vc316
  have hin317 : ¬ ((1 : Int32) < 0 ∨ clc316.slots.size ≤ ((1 : Int32)).toNatClampNeg) := inb_of Sc316 ⟨by decide, by decide⟩
  have hat318 : clc316.slots[((1 : Int32)).toNatClampNeg]? = some (.int y1) := Hc316.at hin317 rfl
  refine Goes.of (fun t k => X0.baloadBytes hx (j := (1 : Int32)) (v := (.int y1)) (by rw [e0]; exact Arc316.1) (State.isArrayOf_alike hZ.alike Arc316.2.1) Arc316.2.2 hin317 hat318 (g := (mkF m 17 #[.val (.ref a1), .val (.ref a2), .val (.int (1 : Int32))] [(.int (1 : Int32)), (.ref a1)])) rfl rfl (hb hby d13_17) _ k) ?_
  show Goes p e below (s₁.setTop (mkF m 18 #[.val (.ref a1), .val (.ref a2), .val (.int (1 : Int32))] [(.int y1)])) _
  refine Goes.of (fun t k => XS.aloadN X0.here hx rfl (hb hby d13_18) rfl rfl k) ?_
  show Goes p e below (s₁.setTop (mkF m 19 #[.val (.ref a1), .val (.ref a2), .val (.int (1 : Int32))] [(.ref a2), (.int y1)])) _
  refine Goes.of (fun t k => XS.iloadN X0.here hx rfl (hb hby d13_19) rfl k) ?_
  have Vc319 := V2
  obtain ⟨clc319, Arc319, qc319, Sc319, Nc319, Hc319, Gc319⟩ := Vc319
  have hin320 : ¬ ((1 : Int32) < 0 ∨ clc319.slots.size ≤ ((1 : Int32)).toNatClampNeg) := inb_of Sc319 ⟨by decide, by decide⟩
  have hat321 : clc319.slots[((1 : Int32)).toNatClampNeg]? = some (.int y1) := Hc319.at hin320 rfl
  refine Goes.of (fun t k => X0.baloadBytes hx (j := (1 : Int32)) (v := (.int y1)) (by rw [e0]; exact Arc319.1) (State.isArrayOf_alike hZ.alike Arc319.2.1) Arc319.2.2 hin320 hat321 (g := (mkF m 20 #[.val (.ref a1), .val (.ref a2), .val (.int (1 : Int32))] [(.int (1 : Int32)), (.ref a2), (.int y1)])) rfl rfl (hb hby d13_20) _ k) ?_
  show Goes p e below (s₁.setTop (mkF m 21 #[.val (.ref a1), .val (.ref a2), .val (.int (1 : Int32))] [(.int y1), (.int y1)])) _
  have hd21_322 : y1 = y1 := rfl
  refine Goes.of (fun t k => XS.icmpYes X0.here hx rfl (pc0 := 21) (pc' := 26) rfl (hb hby d13_21) rfl (teq hd21_322).1 (by decide) (by decide) k) ?_
  show Goes p e below (s₁.setTop (mkF m 26 #[.val (.ref a1), .val (.ref a2), .val (.int (1 : Int32))] [])) _
  refine Goes.of (fun t k => XS.iinc X0.here hx rfl (hb hby d13_26) rfl (l' := #[.val (.ref a1), .val (.ref a2), .val (.int (2 : Int32))]) rfl k) ?_
  show Goes p e below (s₁.setTop (mkF m 29 #[.val (.ref a1), .val (.ref a2), .val (.int (2 : Int32))] [])) _
  refine Goes.of (fun t k => XS.goto X0.here hx rfl (pc0 := 29) (pc' := 9) rfl (hb hby d13_29) (by decide) (by decide) k) ?_
  show Goes p e below (s₁.setTop (mkF m 9 #[.val (.ref a1), .val (.ref a2), .val (.int (2 : Int32))] [])) _
  refine Goes.of (fun t k => XS.iloadN X0.here hx rfl (hb hby d13_9) rfl k) ?_
  show Goes p e below (s₁.setTop (mkF m 10 #[.val (.ref a1), .val (.ref a2), .val (.int (2 : Int32))] [(.int (2 : Int32))])) _
  refine Goes.of (fun t k => XS.aloadN X0.here hx rfl (hb hby d13_10) rfl rfl k) ?_
  have Vc323 := V1
  obtain ⟨clc323, Arc323, qc323, Sc323, Nc323, Hc323, Gc323⟩ := Vc323
  refine Goes.of (X0.arraylength hx (by rw [e0]; exact Arc323.1) (State.isArrayOf_alike hZ.alike Arc323.2.1) (g := (mkF m 11 #[.val (.ref a1), .val (.ref a2), .val (.int (2 : Int32))] [(.ref a1), (.int (2 : Int32))])) rfl rfl (hb hby d13_11)) ?_
  rw [len_of Sc323 Nc323]
  show Goes p e below (s₁.setTop (mkF m 12 #[.val (.ref a1), .val (.ref a2), .val (.int (2 : Int32))] [(.int (6 : Int32)), (.int (2 : Int32))])) _
  refine Goes.of (fun t k => XS.icmpNo X0.here hx rfl (hb hby d13_12) rfl (tlt (by decide)).2.1 k) ?_
  show Goes p e below (s₁.setTop (mkF m 15 #[.val (.ref a1), .val (.ref a2), .val (.int (2 : Int32))] [])) _
  refine Goes.of (fun t k => XS.aloadN X0.here hx rfl (hb hby d13_15) rfl rfl k) ?_
  show Goes p e below (s₁.setTop (mkF m 16 #[.val (.ref a1), .val (.ref a2), .val (.int (2 : Int32))] [(.ref a1)])) _
  refine Goes.of (fun t k => XS.iloadN X0.here hx rfl (hb hby d13_16) rfl k) ?_
  have Vc324 := V1
  obtain ⟨clc324, Arc324, qc324, Sc324, Nc324, Hc324, Gc324⟩ := Vc324
  have hin325 : ¬ ((2 : Int32) < 0 ∨ clc324.slots.size ≤ ((2 : Int32)).toNatClampNeg) := inb_of Sc324 ⟨by decide, by decide⟩
  have hat326 : clc324.slots[((2 : Int32)).toNatClampNeg]? = some (.int y2) := Hc324.at hin325 rfl
  refine Goes.of (fun t k => X0.baloadBytes hx (j := (2 : Int32)) (v := (.int y2)) (by rw [e0]; exact Arc324.1) (State.isArrayOf_alike hZ.alike Arc324.2.1) Arc324.2.2 hin325 hat326 (g := (mkF m 17 #[.val (.ref a1), .val (.ref a2), .val (.int (2 : Int32))] [(.int (2 : Int32)), (.ref a1)])) rfl rfl (hb hby d13_17) _ k) ?_
  show Goes p e below (s₁.setTop (mkF m 18 #[.val (.ref a1), .val (.ref a2), .val (.int (2 : Int32))] [(.int y2)])) _
  refine Goes.of (fun t k => XS.aloadN X0.here hx rfl (hb hby d13_18) rfl rfl k) ?_
  show Goes p e below (s₁.setTop (mkF m 19 #[.val (.ref a1), .val (.ref a2), .val (.int (2 : Int32))] [(.ref a2), (.int y2)])) _
  refine Goes.of (fun t k => XS.iloadN X0.here hx rfl (hb hby d13_19) rfl k) ?_
  have Vc327 := V2
  obtain ⟨clc327, Arc327, qc327, Sc327, Nc327, Hc327, Gc327⟩ := Vc327
  have hin328 : ¬ ((2 : Int32) < 0 ∨ clc327.slots.size ≤ ((2 : Int32)).toNatClampNeg) := inb_of Sc327 ⟨by decide, by decide⟩
  have hat329 : clc327.slots[((2 : Int32)).toNatClampNeg]? = some (.int y2) := Hc327.at hin328 rfl
  refine Goes.of (fun t k => X0.baloadBytes hx (j := (2 : Int32)) (v := (.int y2)) (by rw [e0]; exact Arc327.1) (State.isArrayOf_alike hZ.alike Arc327.2.1) Arc327.2.2 hin328 hat329 (g := (mkF m 20 #[.val (.ref a1), .val (.ref a2), .val (.int (2 : Int32))] [(.int (2 : Int32)), (.ref a2), (.int y2)])) rfl rfl (hb hby d13_20) _ k) ?_
  show Goes p e below (s₁.setTop (mkF m 21 #[.val (.ref a1), .val (.ref a2), .val (.int (2 : Int32))] [(.int y2), (.int y2)])) _
  have hd21_330 : y2 = y2 := rfl
  refine Goes.of (fun t k => XS.icmpYes X0.here hx rfl (pc0 := 21) (pc' := 26) rfl (hb hby d13_21) rfl (teq hd21_330).1 (by decide) (by decide) k) ?_
  show Goes p e below (s₁.setTop (mkF m 26 #[.val (.ref a1), .val (.ref a2), .val (.int (2 : Int32))] [])) _
  refine Goes.of (fun t k => XS.iinc X0.here hx rfl (hb hby d13_26) rfl (l' := #[.val (.ref a1), .val (.ref a2), .val (.int (3 : Int32))]) rfl k) ?_
  show Goes p e below (s₁.setTop (mkF m 29 #[.val (.ref a1), .val (.ref a2), .val (.int (3 : Int32))] [])) _
  refine Goes.of (fun t k => XS.goto X0.here hx rfl (pc0 := 29) (pc' := 9) rfl (hb hby d13_29) (by decide) (by decide) k) ?_
  show Goes p e below (s₁.setTop (mkF m 9 #[.val (.ref a1), .val (.ref a2), .val (.int (3 : Int32))] [])) _
  refine Goes.of (fun t k => XS.iloadN X0.here hx rfl (hb hby d13_9) rfl k) ?_
  show Goes p e below (s₁.setTop (mkF m 10 #[.val (.ref a1), .val (.ref a2), .val (.int (3 : Int32))] [(.int (3 : Int32))])) _
  refine Goes.of (fun t k => XS.aloadN X0.here hx rfl (hb hby d13_10) rfl rfl k) ?_
  have Vc331 := V1
  obtain ⟨clc331, Arc331, qc331, Sc331, Nc331, Hc331, Gc331⟩ := Vc331
  refine Goes.of (X0.arraylength hx (by rw [e0]; exact Arc331.1) (State.isArrayOf_alike hZ.alike Arc331.2.1) (g := (mkF m 11 #[.val (.ref a1), .val (.ref a2), .val (.int (3 : Int32))] [(.ref a1), (.int (3 : Int32))])) rfl rfl (hb hby d13_11)) ?_
  rw [len_of Sc331 Nc331]
  show Goes p e below (s₁.setTop (mkF m 12 #[.val (.ref a1), .val (.ref a2), .val (.int (3 : Int32))] [(.int (6 : Int32)), (.int (3 : Int32))])) _
  refine Goes.of (fun t k => XS.icmpNo X0.here hx rfl (hb hby d13_12) rfl (tlt (by decide)).2.1 k) ?_
  show Goes p e below (s₁.setTop (mkF m 15 #[.val (.ref a1), .val (.ref a2), .val (.int (3 : Int32))] [])) _
  refine Goes.of (fun t k => XS.aloadN X0.here hx rfl (hb hby d13_15) rfl rfl k) ?_
  show Goes p e below (s₁.setTop (mkF m 16 #[.val (.ref a1), .val (.ref a2), .val (.int (3 : Int32))] [(.ref a1)])) _
  refine Goes.of (fun t k => XS.iloadN X0.here hx rfl (hb hby d13_16) rfl k) ?_
  have Vc332 := V1
  obtain ⟨clc332, Arc332, qc332, Sc332, Nc332, Hc332, Gc332⟩ := Vc332
  have hin333 : ¬ ((3 : Int32) < 0 ∨ clc332.slots.size ≤ ((3 : Int32)).toNatClampNeg) := inb_of Sc332 ⟨by decide, by decide⟩
  have hat334 : clc332.slots[((3 : Int32)).toNatClampNeg]? = some (.int y3) := Hc332.at hin333 rfl
  refine Goes.of (fun t k => X0.baloadBytes hx (j := (3 : Int32)) (v := (.int y3)) (by rw [e0]; exact Arc332.1) (State.isArrayOf_alike hZ.alike Arc332.2.1) Arc332.2.2 hin333 hat334 (g := (mkF m 17 #[.val (.ref a1), .val (.ref a2), .val (.int (3 : Int32))] [(.int (3 : Int32)), (.ref a1)])) rfl rfl (hb hby d13_17) _ k) ?_
  show Goes p e below (s₁.setTop (mkF m 18 #[.val (.ref a1), .val (.ref a2), .val (.int (3 : Int32))] [(.int y3)])) _
  refine Goes.of (fun t k => XS.aloadN X0.here hx rfl (hb hby d13_18) rfl rfl k) ?_
  show Goes p e below (s₁.setTop (mkF m 19 #[.val (.ref a1), .val (.ref a2), .val (.int (3 : Int32))] [(.ref a2), (.int y3)])) _
  refine Goes.of (fun t k => XS.iloadN X0.here hx rfl (hb hby d13_19) rfl k) ?_
  have Vc335 := V2
  obtain ⟨clc335, Arc335, qc335, Sc335, Nc335, Hc335, Gc335⟩ := Vc335
  have hin336 : ¬ ((3 : Int32) < 0 ∨ clc335.slots.size ≤ ((3 : Int32)).toNatClampNeg) := inb_of Sc335 ⟨by decide, by decide⟩
  have hat337 : clc335.slots[((3 : Int32)).toNatClampNeg]? = some (.int y3) := Hc335.at hin336 rfl
  refine Goes.of (fun t k => X0.baloadBytes hx (j := (3 : Int32)) (v := (.int y3)) (by rw [e0]; exact Arc335.1) (State.isArrayOf_alike hZ.alike Arc335.2.1) Arc335.2.2 hin336 hat337 (g := (mkF m 20 #[.val (.ref a1), .val (.ref a2), .val (.int (3 : Int32))] [(.int (3 : Int32)), (.ref a2), (.int y3)])) rfl rfl (hb hby d13_20) _ k) ?_
  show Goes p e below (s₁.setTop (mkF m 21 #[.val (.ref a1), .val (.ref a2), .val (.int (3 : Int32))] [(.int y3), (.int y3)])) _
  have hd21_338 : y3 = y3 := rfl
  refine Goes.of (fun t k => XS.icmpYes X0.here hx rfl (pc0 := 21) (pc' := 26) rfl (hb hby d13_21) rfl (teq hd21_338).1 (by decide) (by decide) k) ?_
  show Goes p e below (s₁.setTop (mkF m 26 #[.val (.ref a1), .val (.ref a2), .val (.int (3 : Int32))] [])) _
  refine Goes.of (fun t k => XS.iinc X0.here hx rfl (hb hby d13_26) rfl (l' := #[.val (.ref a1), .val (.ref a2), .val (.int (4 : Int32))]) rfl k) ?_
  show Goes p e below (s₁.setTop (mkF m 29 #[.val (.ref a1), .val (.ref a2), .val (.int (4 : Int32))] [])) _
  refine Goes.of (fun t k => XS.goto X0.here hx rfl (pc0 := 29) (pc' := 9) rfl (hb hby d13_29) (by decide) (by decide) k) ?_
  show Goes p e below (s₁.setTop (mkF m 9 #[.val (.ref a1), .val (.ref a2), .val (.int (4 : Int32))] [])) _
  refine Goes.of (fun t k => XS.iloadN X0.here hx rfl (hb hby d13_9) rfl k) ?_
  show Goes p e below (s₁.setTop (mkF m 10 #[.val (.ref a1), .val (.ref a2), .val (.int (4 : Int32))] [(.int (4 : Int32))])) _
  refine Goes.of (fun t k => XS.aloadN X0.here hx rfl (hb hby d13_10) rfl rfl k) ?_
  have Vc339 := V1
  obtain ⟨clc339, Arc339, qc339, Sc339, Nc339, Hc339, Gc339⟩ := Vc339
  refine Goes.of (X0.arraylength hx (by rw [e0]; exact Arc339.1) (State.isArrayOf_alike hZ.alike Arc339.2.1) (g := (mkF m 11 #[.val (.ref a1), .val (.ref a2), .val (.int (4 : Int32))] [(.ref a1), (.int (4 : Int32))])) rfl rfl (hb hby d13_11)) ?_
  rw [len_of Sc339 Nc339]
  show Goes p e below (s₁.setTop (mkF m 12 #[.val (.ref a1), .val (.ref a2), .val (.int (4 : Int32))] [(.int (6 : Int32)), (.int (4 : Int32))])) _
  refine Goes.of (fun t k => XS.icmpNo X0.here hx rfl (hb hby d13_12) rfl (tlt (by decide)).2.1 k) ?_
  show Goes p e below (s₁.setTop (mkF m 15 #[.val (.ref a1), .val (.ref a2), .val (.int (4 : Int32))] [])) _
  refine Goes.of (fun t k => XS.aloadN X0.here hx rfl (hb hby d13_15) rfl rfl k) ?_
  show Goes p e below (s₁.setTop (mkF m 16 #[.val (.ref a1), .val (.ref a2), .val (.int (4 : Int32))] [(.ref a1)])) _
  refine Goes.of (fun t k => XS.iloadN X0.here hx rfl (hb hby d13_16) rfl k) ?_
  have Vc340 := V1
  obtain ⟨clc340, Arc340, qc340, Sc340, Nc340, Hc340, Gc340⟩ := Vc340
  have hin341 : ¬ ((4 : Int32) < 0 ∨ clc340.slots.size ≤ ((4 : Int32)).toNatClampNeg) := inb_of Sc340 ⟨by decide, by decide⟩
  have hat342 : clc340.slots[((4 : Int32)).toNatClampNeg]? = some (.int y4) := Hc340.at hin341 rfl
  refine Goes.of (fun t k => X0.baloadBytes hx (j := (4 : Int32)) (v := (.int y4)) (by rw [e0]; exact Arc340.1) (State.isArrayOf_alike hZ.alike Arc340.2.1) Arc340.2.2 hin341 hat342 (g := (mkF m 17 #[.val (.ref a1), .val (.ref a2), .val (.int (4 : Int32))] [(.int (4 : Int32)), (.ref a1)])) rfl rfl (hb hby d13_17) _ k) ?_
  show Goes p e below (s₁.setTop (mkF m 18 #[.val (.ref a1), .val (.ref a2), .val (.int (4 : Int32))] [(.int y4)])) _
  refine Goes.of (fun t k => XS.aloadN X0.here hx rfl (hb hby d13_18) rfl rfl k) ?_
  show Goes p e below (s₁.setTop (mkF m 19 #[.val (.ref a1), .val (.ref a2), .val (.int (4 : Int32))] [(.ref a2), (.int y4)])) _
  refine Goes.of (fun t k => XS.iloadN X0.here hx rfl (hb hby d13_19) rfl k) ?_
  have Vc343 := V2
  obtain ⟨clc343, Arc343, qc343, Sc343, Nc343, Hc343, Gc343⟩ := Vc343
  have hin344 : ¬ ((4 : Int32) < 0 ∨ clc343.slots.size ≤ ((4 : Int32)).toNatClampNeg) := inb_of Sc343 ⟨by decide, by decide⟩
  have hat345 : clc343.slots[((4 : Int32)).toNatClampNeg]? = some (.int y4) := Hc343.at hin344 rfl
  refine Goes.of (fun t k => X0.baloadBytes hx (j := (4 : Int32)) (v := (.int y4)) (by rw [e0]; exact Arc343.1) (State.isArrayOf_alike hZ.alike Arc343.2.1) Arc343.2.2 hin344 hat345 (g := (mkF m 20 #[.val (.ref a1), .val (.ref a2), .val (.int (4 : Int32))] [(.int (4 : Int32)), (.ref a2), (.int y4)])) rfl rfl (hb hby d13_20) _ k) ?_
  show Goes p e below (s₁.setTop (mkF m 21 #[.val (.ref a1), .val (.ref a2), .val (.int (4 : Int32))] [(.int y4), (.int y4)])) _
  have hd21_346 : y4 = y4 := rfl
  refine Goes.of (fun t k => XS.icmpYes X0.here hx rfl (pc0 := 21) (pc' := 26) rfl (hb hby d13_21) rfl (teq hd21_346).1 (by decide) (by decide) k) ?_
  show Goes p e below (s₁.setTop (mkF m 26 #[.val (.ref a1), .val (.ref a2), .val (.int (4 : Int32))] [])) _
  refine Goes.of (fun t k => XS.iinc X0.here hx rfl (hb hby d13_26) rfl (l' := #[.val (.ref a1), .val (.ref a2), .val (.int (5 : Int32))]) rfl k) ?_
  show Goes p e below (s₁.setTop (mkF m 29 #[.val (.ref a1), .val (.ref a2), .val (.int (5 : Int32))] [])) _
  refine Goes.of (fun t k => XS.goto X0.here hx rfl (pc0 := 29) (pc' := 9) rfl (hb hby d13_29) (by decide) (by decide) k) ?_
  show Goes p e below (s₁.setTop (mkF m 9 #[.val (.ref a1), .val (.ref a2), .val (.int (5 : Int32))] [])) _
  refine Goes.of (fun t k => XS.iloadN X0.here hx rfl (hb hby d13_9) rfl k) ?_
  show Goes p e below (s₁.setTop (mkF m 10 #[.val (.ref a1), .val (.ref a2), .val (.int (5 : Int32))] [(.int (5 : Int32))])) _
  refine Goes.of (fun t k => XS.aloadN X0.here hx rfl (hb hby d13_10) rfl rfl k) ?_
  have Vc347 := V1
  obtain ⟨clc347, Arc347, qc347, Sc347, Nc347, Hc347, Gc347⟩ := Vc347
  refine Goes.of (X0.arraylength hx (by rw [e0]; exact Arc347.1) (State.isArrayOf_alike hZ.alike Arc347.2.1) (g := (mkF m 11 #[.val (.ref a1), .val (.ref a2), .val (.int (5 : Int32))] [(.ref a1), (.int (5 : Int32))])) rfl rfl (hb hby d13_11)) ?_
  rw [len_of Sc347 Nc347]
  show Goes p e below (s₁.setTop (mkF m 12 #[.val (.ref a1), .val (.ref a2), .val (.int (5 : Int32))] [(.int (6 : Int32)), (.int (5 : Int32))])) _
  refine Goes.of (fun t k => XS.icmpNo X0.here hx rfl (hb hby d13_12) rfl (tlt (by decide)).2.1 k) ?_
  show Goes p e below (s₁.setTop (mkF m 15 #[.val (.ref a1), .val (.ref a2), .val (.int (5 : Int32))] [])) _
  refine Goes.of (fun t k => XS.aloadN X0.here hx rfl (hb hby d13_15) rfl rfl k) ?_
  show Goes p e below (s₁.setTop (mkF m 16 #[.val (.ref a1), .val (.ref a2), .val (.int (5 : Int32))] [(.ref a1)])) _
  refine Goes.of (fun t k => XS.iloadN X0.here hx rfl (hb hby d13_16) rfl k) ?_
  have Vc348 := V1
  obtain ⟨clc348, Arc348, qc348, Sc348, Nc348, Hc348, Gc348⟩ := Vc348
  have hin349 : ¬ ((5 : Int32) < 0 ∨ clc348.slots.size ≤ ((5 : Int32)).toNatClampNeg) := inb_of Sc348 ⟨by decide, by decide⟩
  have hat350 : clc348.slots[((5 : Int32)).toNatClampNeg]? = some (.int y5) := Hc348.at hin349 rfl
  refine Goes.of (fun t k => X0.baloadBytes hx (j := (5 : Int32)) (v := (.int y5)) (by rw [e0]; exact Arc348.1) (State.isArrayOf_alike hZ.alike Arc348.2.1) Arc348.2.2 hin349 hat350 (g := (mkF m 17 #[.val (.ref a1), .val (.ref a2), .val (.int (5 : Int32))] [(.int (5 : Int32)), (.ref a1)])) rfl rfl (hb hby d13_17) _ k) ?_
  show Goes p e below (s₁.setTop (mkF m 18 #[.val (.ref a1), .val (.ref a2), .val (.int (5 : Int32))] [(.int y5)])) _
  refine Goes.of (fun t k => XS.aloadN X0.here hx rfl (hb hby d13_18) rfl rfl k) ?_
  show Goes p e below (s₁.setTop (mkF m 19 #[.val (.ref a1), .val (.ref a2), .val (.int (5 : Int32))] [(.ref a2), (.int y5)])) _
  refine Goes.of (fun t k => XS.iloadN X0.here hx rfl (hb hby d13_19) rfl k) ?_
  have Vc351 := V2
  obtain ⟨clc351, Arc351, qc351, Sc351, Nc351, Hc351, Gc351⟩ := Vc351
  have hin352 : ¬ ((5 : Int32) < 0 ∨ clc351.slots.size ≤ ((5 : Int32)).toNatClampNeg) := inb_of Sc351 ⟨by decide, by decide⟩
  have hat353 : clc351.slots[((5 : Int32)).toNatClampNeg]? = some (.int y5) := Hc351.at hin352 rfl
  refine Goes.of (fun t k => X0.baloadBytes hx (j := (5 : Int32)) (v := (.int y5)) (by rw [e0]; exact Arc351.1) (State.isArrayOf_alike hZ.alike Arc351.2.1) Arc351.2.2 hin352 hat353 (g := (mkF m 20 #[.val (.ref a1), .val (.ref a2), .val (.int (5 : Int32))] [(.int (5 : Int32)), (.ref a2), (.int y5)])) rfl rfl (hb hby d13_20) _ k) ?_
  show Goes p e below (s₁.setTop (mkF m 21 #[.val (.ref a1), .val (.ref a2), .val (.int (5 : Int32))] [(.int y5), (.int y5)])) _
  have hd21_354 : y5 = y5 := rfl
  refine Goes.of (fun t k => XS.icmpYes X0.here hx rfl (pc0 := 21) (pc' := 26) rfl (hb hby d13_21) rfl (teq hd21_354).1 (by decide) (by decide) k) ?_
  show Goes p e below (s₁.setTop (mkF m 26 #[.val (.ref a1), .val (.ref a2), .val (.int (5 : Int32))] [])) _
  refine Goes.of (fun t k => XS.iinc X0.here hx rfl (hb hby d13_26) rfl (l' := #[.val (.ref a1), .val (.ref a2), .val (.int (6 : Int32))]) rfl k) ?_
  show Goes p e below (s₁.setTop (mkF m 29 #[.val (.ref a1), .val (.ref a2), .val (.int (6 : Int32))] [])) _
  refine Goes.of (fun t k => XS.goto X0.here hx rfl (pc0 := 29) (pc' := 9) rfl (hb hby d13_29) (by decide) (by decide) k) ?_
  show Goes p e below (s₁.setTop (mkF m 9 #[.val (.ref a1), .val (.ref a2), .val (.int (6 : Int32))] [])) _
  refine Goes.of (fun t k => XS.iloadN X0.here hx rfl (hb hby d13_9) rfl k) ?_
  show Goes p e below (s₁.setTop (mkF m 10 #[.val (.ref a1), .val (.ref a2), .val (.int (6 : Int32))] [(.int (6 : Int32))])) _
  refine Goes.of (fun t k => XS.aloadN X0.here hx rfl (hb hby d13_10) rfl rfl k) ?_
  have Vc355 := V1
  obtain ⟨clc355, Arc355, qc355, Sc355, Nc355, Hc355, Gc355⟩ := Vc355
  refine Goes.of (X0.arraylength hx (by rw [e0]; exact Arc355.1) (State.isArrayOf_alike hZ.alike Arc355.2.1) (g := (mkF m 11 #[.val (.ref a1), .val (.ref a2), .val (.int (6 : Int32))] [(.ref a1), (.int (6 : Int32))])) rfl rfl (hb hby d13_11)) ?_
  rw [len_of Sc355 Nc355]
  show Goes p e below (s₁.setTop (mkF m 12 #[.val (.ref a1), .val (.ref a2), .val (.int (6 : Int32))] [(.int (6 : Int32)), (.int (6 : Int32))])) _
  refine Goes.of (fun t k => XS.icmpYes X0.here hx rfl (pc0 := 12) (pc' := 32) rfl (hb hby d13_12) rfl (flt (by decide)).2.1 (by decide) (by decide) k) ?_
  show Goes p e below (s₁.setTop (mkF m 32 #[.val (.ref a1), .val (.ref a2), .val (.int (6 : Int32))] [])) _
  refine Goes.of (fun t k => XS.iconst X0.here hx rfl (hb hby d13_32) k) ?_
  show Goes p e below (s₁.setTop (mkF m 33 #[.val (.ref a1), .val (.ref a2), .val (.int (6 : Int32))] [(.int (1 : Int32))])) _
  exact Goes.retN (t := .boolean) X0 hx Bd.returns (by simp) hlocks (hb hby d13_33) (⟨rfl, N0, e0⟩) (by decide) (by decide)
theorem ef_12_356 (m : MethodId) (x0 : Addr) (x1 : Addr) : entryFrame m #[(.ref x0), (.ref x1)] 3 = mkF m 0 #[.val (.ref x0), .val (.ref x1), .unset] [] := by first | (simp [entryFrame, mkF, argsToLocals, Value.category]; done) | rfl
def Q12_356 (Z : State) (a1 : Addr) (a2 : Addr) (b1 : Addr) (b2 : Addr) (k1 : ClassId) (k2 : ClassId) (cmS : Int32) (y0 : Int32) (y1 : Int32) (y2 : Int32) (y3 : Int32) (y4 : Int32) (y5 : Int32) (h0 : Heap) (n0 : Nat) (v : Option Value) (h : Heap) (L : List Loc) : Prop := v = some (.int 1) ∧ Fr n0 L ∧ h = h0
set_option maxRecDepth 65536 in
set_option maxHeartbeats 40000000 in
theorem rm12_356 (l : Launch) (Z : State) (a0 : Array Value) (hw : ∀ d ∈ tables_1, d.before a0 Z = true) (ws : List Jvm.Cond) (a1 : Addr) (a2 : Addr) (b1 : Addr) (b2 : Addr) (k1 : ClassId) (k2 : ClassId) (cmS : Int32) (y0 : Int32) (y1 : Int32) (y2 : Int32) (y3 : Int32) (y4 : Int32) (y5 : Int32) (h0 : Heap) (n0 : Nat) (Z0 : n0 ≤ h0.size) (O0 : Old Z n0 h0) (SC : Sta Z Z.heap "java/lang/String" "COMPACT_STRINGS" "Z" (.int cmS)) (cs0 : cmS ≠ 0) (E1 : Exa Z h0 a1 "java/lang/String") (C1 : Fld Z h0 a1 "java/lang/String" "coder" "B" (.int (0 : Int32))) (F1 : Fld Z h0 a1 "java/lang/String" "value" "[B" (.ref b1)) (V1 : Arv Z h0 b1 k1 .byte (6 : Int32) [(.int y0), (.int y1), (.int y2), (.int y3), (.int y4), (.int y5)] (.int (0 : Int32))) (E2 : Exa Z h0 a2 "java/lang/String") (C2 : Fld Z h0 a2 "java/lang/String" "coder" "B" (.int (0 : Int32))) (F2 : Fld Z h0 a2 "java/lang/String" "value" "[B" (.ref b2)) (V2 : Arv Z h0 b2 k2 .byte (6 : Int32) [(.int y0), (.int y1), (.int y2), (.int y3), (.int y4), (.int y5)] (.int (0 : Int32))) :
    MetFree l (⟨"java/lang/String", "equals", "(Ljava/lang/Object;)Z"⟩ : MethodName) (head1 (Jvm.Cond.code (⟨"java/lang/String", "equals", "(Ljava/lang/Object;)Z"⟩ : MethodName) jdk_42_method_66_code 3 (some .boolean) :: ws) ({ frames := 1, cells := 0, slots := 0, locals := 14 } : Room)) (fun a U => a = #[(.ref a1), (.ref a2)] ∧ Z.Warmed39 U.vm ∧ U.heap = h0) (fun _ _ _ _ _ => True) (fun _ U o U' => ∃ v L, o = .returned v ∧ Q12_356 Z a1 a2 b1 b2 k1 k2 cmS y0 y1 y2 y3 y4 y5 h0 n0 v U'.heap L ∧ FrameEnd U o U' L ({ frames := 1, cells := 0, slots := 0, locals := 14 } : Room).cells ({ frames := 1, cells := 0, slots := 0, locals := 14 } : Room).slots) := by
  refine MetFree.of_bodySF (plainFor_of_name pn_12) hisR ?_
  intro p e s m args below meth c s₁ Bd hml0 hP hK
  obtain ⟨rfl, hZ, hh⟩ := hP
  have hx := Bd.exec
  have hby := Bd.bytes
  have hml : c.maxLocals = 3 := hml0
  have hown : s.vm.findClass "java/lang/String" = some m.cls := findClass_of_methodNamed Bd.named
  have hnm := (name_of_methodNamed Bd.named Bd.method).1
  have hlocks : meth.locks = false := BodyLoose.notSynchronized Bd
  have X0 : Stand p l e ({ frames := 1, cells := 0, slots := 0, locals := 14 } : Room) s m #[(.ref a1), (.ref a2)] below meth c s₁ [] 0 0 := Stand.of_body Bd
  have e0 : s₁.heap = h0 := by rw [← hh, Bd.state]; rfl
  have N0 := Fr.nil n0
  show Goes p e below (s₁.setTop (entryFrame m #[(.ref a1), (.ref a2)] 3)) (Fin s (Q12_356 Z a1 a2 b1 b2 k1 k2 cmS y0 y1 y2 y3 y4 y5 h0 n0) ({ frames := 1, cells := 0, slots := 0, locals := 14 } : Room).cells ({ frames := 1, cells := 0, slots := 0, locals := 14 } : Room).slots)
  refine Goes.of (fun t k => castTop (ef_12_356 m a1 a2) k) ?_
  show Goes p e below (s₁.setTop (mkF m 0 #[.val (.ref a1), .val (.ref a2), .unset] [])) _
  refine Goes.of (fun t k => XS.aloadN X0.here hx rfl (hb hby d12_0) rfl rfl k) ?_
  show Goes p e below (s₁.setTop (mkF m 1 #[.val (.ref a1), .val (.ref a2), .unset] [(.ref a1)])) _
  refine Goes.of (fun t k => XS.aloadN X0.here hx rfl (hb hby d12_1) rfl rfl k) ?_
  show Goes p e below (s₁.setTop (mkF m 2 #[.val (.ref a1), .val (.ref a2), .unset] [(.ref a2), (.ref a1)])) _
  by_cases hc2_357 : a1 = a2
  · refine Goes.of (fun t k => Jvm.RoadKit.acmp (g := (mkF m 2 #[.val (.ref a1), .val (.ref a2), .unset] [(.ref a2), (.ref a1)])) X0 hx rfl rfl rfl (pc0 := 2) (pc' := 5) (same := true) rfl (hb hby d12_2) rfl (decide_eq_true (congrArg Value.ref hc2_357)) (by decide) (by decide) k) ?_
    show Goes p e below (s₁.setTop (mkF m 5 #[.val (.ref a1), .val (.ref a2), .unset] [])) _
    refine Goes.of (fun t k => XS.iconst X0.here hx rfl (hb hby d12_5) k) ?_
    show Goes p e below (s₁.setTop (mkF m 6 #[.val (.ref a1), .val (.ref a2), .unset] [(.int (1 : Int32))])) _
    exact Goes.retN (t := .boolean) X0 hx Bd.returns (by simp) hlocks (hb hby d12_6) (⟨rfl, N0, e0⟩) (by decide) (by decide)
  · refine Goes.of (fun t k => Jvm.RoadKit.acmp (g := (mkF m 2 #[.val (.ref a1), .val (.ref a2), .unset] [(.ref a2), (.ref a1)])) X0 hx rfl rfl rfl (pc0 := 2) (pc' := 7) (same := false) rfl (hb hby d12_2) rfl (decide_eq_false (fun q => hc2_357 (Value.ref.inj q))) (by decide) (by decide) k) ?_
    show Goes p e below (s₁.setTop (mkF m 7 #[.val (.ref a1), .val (.ref a2), .unset] [])) _
    refine Goes.of (fun t k => XS.aloadN X0.here hx rfl (hb hby d12_7) rfl rfl k) ?_
    show Goes p e below (s₁.setTop (mkF m 8 #[.val (.ref a1), .val (.ref a2), .unset] [(.ref a2)])) _
    obtain ⟨T358, X358, e358, st358⟩ := instY X0 hx hZ hown (wd hw 91 rfl) e0 (Ins.self E2) (g := (mkF m 8 #[.val (.ref a1), .val (.ref a2), .unset] [(.ref a2)])) rfl rfl (hb hby d12_8)
    refine Goes.of st358 ?_
    show Goes p e below (T358.setTop (mkF m 11 #[.val (.ref a1), .val (.ref a2), .unset] [(.int (1 : Int32))])) _
    refine Goes.of (fun t k => XS.ifNo X358.here hx rfl (hb hby d12_11) rfl ((if0 _ _).trans (feq (by decide)).1) k) ?_
    show Goes p e below (T358.setTop (mkF m 14 #[.val (.ref a1), .val (.ref a2), .unset] [])) _
    refine Goes.of (fun t k => XS.aloadN X358.here hx rfl (hb hby d12_14) rfl rfl k) ?_
    show Goes p e below (T358.setTop (mkF m 15 #[.val (.ref a1), .val (.ref a2), .unset] [(.ref a2)])) _
    obtain ⟨T359, X359, e359, st359⟩ := castY X358 hx hZ hown (wd hw 91 rfl) e358 (Ins.self E2) (g := (mkF m 15 #[.val (.ref a1), .val (.ref a2), .unset] [(.ref a2)])) rfl rfl (hb hby d12_15)
    refine Goes.of st359 ?_
    show Goes p e below (T359.setTop (mkF m 18 #[.val (.ref a1), .val (.ref a2), .unset] [(.ref a2)])) _
    refine Goes.of (fun t k => XS.astoreN X359.here hx rfl (hb hby d12_18) rfl rfl (l' := #[.val (.ref a1), .val (.ref a2), .val (.ref a2)]) rfl k) ?_
    obtain ⟨T360, X360, e360, st360⟩ := getS2 X359 hx hZ hown (host := "") (Or.inl (wd hw 93 rfl)) Via.refl e359 (SC.ext O0.2) (g := (mkF m 19 #[.val (.ref a1), .val (.ref a2), .val (.ref a2)] [])) rfl (hb hby d12_19)
    refine Goes.of st360 ?_
    show Goes p e below (T360.setTop (mkF m 22 #[.val (.ref a1), .val (.ref a2), .val (.ref a2)] [(.int cmS)])) _
    have hd22_361 : ¬ (cmS = (0 : Int32)) := cs0
    refine Goes.of (fun t k => XS.ifNo X360.here hx rfl (hb hby d12_22) rfl ((if0 _ _).trans (feq hd22_361).1) k) ?_
    show Goes p e below (T360.setTop (mkF m 25 #[.val (.ref a1), .val (.ref a2), .val (.ref a2)] [])) _
    refine Goes.of (fun t k => XS.aloadN X360.here hx rfl (hb hby d12_25) rfl rfl k) ?_
    obtain ⟨T362, X362, e362, st362⟩ := getF X360 hx hZ hown (host := "") (Or.inl (wd hw 94 rfl)) Via.refl e360 C1 (g := (mkF m 26 #[.val (.ref a1), .val (.ref a2), .val (.ref a2)] [(.ref a1)])) rfl rfl (hb hby d12_26)
    refine Goes.of st362 ?_
    show Goes p e below (T362.setTop (mkF m 29 #[.val (.ref a1), .val (.ref a2), .val (.ref a2)] [(.int (0 : Int32))])) _
    refine Goes.of (fun t k => XS.aloadN X362.here hx rfl (hb hby d12_29) rfl rfl k) ?_
    obtain ⟨T363, X363, e363, st363⟩ := getF X362 hx hZ hown (host := "") (Or.inl (wd hw 94 rfl)) Via.refl e362 C2 (g := (mkF m 30 #[.val (.ref a1), .val (.ref a2), .val (.ref a2)] [(.ref a2), (.int (0 : Int32))])) rfl rfl (hb hby d12_30)
    refine Goes.of st363 ?_
    show Goes p e below (T363.setTop (mkF m 33 #[.val (.ref a1), .val (.ref a2), .val (.ref a2)] [(.int (0 : Int32)), (.int (0 : Int32))])) _
    refine Goes.of (fun t k => XS.icmpNo X363.here hx rfl (hb hby d12_33) rfl (teq (by decide)).2 k) ?_
    show Goes p e below (T363.setTop (mkF m 36 #[.val (.ref a1), .val (.ref a2), .val (.ref a2)] [])) _
    refine Goes.of (fun t k => XS.aloadN X363.here hx rfl (hb hby d12_36) rfl rfl k) ?_
    obtain ⟨T364, X364, e364, st364⟩ := getF X363 hx hZ hown (host := "") (Or.inl (wd hw 95 rfl)) Via.refl e363 F1 (g := (mkF m 37 #[.val (.ref a1), .val (.ref a2), .val (.ref a2)] [(.ref a1)])) rfl rfl (hb hby d12_37)
    refine Goes.of st364 ?_
    show Goes p e below (T364.setTop (mkF m 40 #[.val (.ref a1), .val (.ref a2), .val (.ref a2)] [(.ref b1)])) _
    refine Goes.of (fun t k => XS.aloadN X364.here hx rfl (hb hby d12_40) rfl rfl k) ?_
    obtain ⟨T365, X365, e365, st365⟩ := getF X364 hx hZ hown (host := "") (Or.inl (wd hw 95 rfl)) Via.refl e364 F2 (g := (mkF m 41 #[.val (.ref a1), .val (.ref a2), .val (.ref a2)] [(.ref a2), (.ref b1)])) rfl rfl (hb hby d12_41)
    refine Goes.of st365 ?_
    obtain ⟨_, _, ⟨T366, L366, k366, n366⟩, -, X366, ⟨Lc366, hQ366, l366, y366, z366⟩, st366⟩ := Jvm.LawKit.callS X365 hx (y := (⟨"java/lang/StringLatin1", "equals", "([B[B)Z"⟩ : MethodName)) hown (mvT hZ (wd hw 96 rfl)) (mvT hZ (wd hw 97 rfl)) (mvT hZ (wd hw 98 rfl)) (mvT hZ (wd hw 99 rfl)) (by decide) (backOf (W := 0) (rm13_304 l Z a0 hw [] b1 b2 k1 k2 y0 y1 y2 y3 y4 y5 h0 n0 Z0 V1 V2) hZ (wd hw 99 rfl) (wd hw 98 rfl) (by decide) (by decide)) (g := (mkF m 44 #[.val (.ref a1), .val (.ref a2), .val (.ref a2)] [(.ref b2), (.ref b1)])) rfl (by rw [hml]; rfl) (argsL := [(.ref b1), (.ref b2)]) (rest := []) (lenOf pd_13 rfl) rfl (by show 2 * 0 + _ ≤ _; exact Nat.le_of_eq rfl) (hb hby d12_44) (fun _ _ => ⟨rfl, e365, (by decide : 0 + 0 ≤ _), (by decide : 0 + 0 ≤ _)⟩)
    dsimp only [Pt.U, Pt.locs, Pt.cells, Pt.slots] at X366 l366 y366 z366 st366 hQ366
    subst l366 y366 z366
    obtain ⟨rfl, N366q, e366⟩ := hQ366
    have N366 := Fr.app N0 N366q
    refine Goes.of st366 ?_
    show Goes p e below (T366.setTop (mkF m 47 #[.val (.ref a1), .val (.ref a2), .val (.ref a2)] [(.int (1 : Int32))])) _
    refine Goes.of (fun t k => XS.ifNo X366.here hx rfl (hb hby d12_47) rfl ((if0 _ _).trans (feq (by decide)).1) k) ?_
    show Goes p e below (T366.setTop (mkF m 50 #[.val (.ref a1), .val (.ref a2), .val (.ref a2)] [])) _
    refine Goes.of (fun t k => XS.iconst X366.here hx rfl (hb hby d12_50) k) ?_
    show Goes p e below (T366.setTop (mkF m 51 #[.val (.ref a1), .val (.ref a2), .val (.ref a2)] [(.int (1 : Int32))])) _
    refine Goes.of (fun t k => XS.goto X366.here hx rfl (pc0 := 51) (pc' := 55) rfl (hb hby d12_51) (by decide) (by decide) k) ?_
    show Goes p e below (T366.setTop (mkF m 55 #[.val (.ref a1), .val (.ref a2), .val (.ref a2)] [(.int (1 : Int32))])) _
    exact Goes.retN (t := .boolean) X366 hx Bd.returns (by simp) hlocks (hb hby d12_55) (⟨rfl, N366, e366⟩) (by decide) (by decide)
theorem ef_13_367 (m : MethodId) (x0 : Addr) (x1 : Addr) : entryFrame m #[(.ref x0), (.ref x1)] 3 = mkF m 0 #[.val (.ref x0), .val (.ref x1), .unset] [] := by first | (simp [entryFrame, mkF, argsToLocals, Value.category]; done) | rfl
def Q13_367 (Z : State) (a1 : Addr) (a2 : Addr) (k1 : ClassId) (k2 : ClassId) (y0 : Int32) (y1 : Int32) (y2 : Int32) (y3 : Int32) (y4 : Int32) (y5 : Int32) (y6 : Int32) (h0 : Heap) (n0 : Nat) (v : Option Value) (h : Heap) (L : List Loc) : Prop := v = some (.int 1) ∧ Fr n0 L ∧ h = h0
set_option maxRecDepth 65536 in
set_option maxHeartbeats 40000000 in
theorem rm13_367 (l : Launch) (Z : State) (a0 : Array Value) (hw : ∀ d ∈ tables_1, d.before a0 Z = true) (ws : List Jvm.Cond) (a1 : Addr) (a2 : Addr) (k1 : ClassId) (k2 : ClassId) (y0 : Int32) (y1 : Int32) (y2 : Int32) (y3 : Int32) (y4 : Int32) (y5 : Int32) (y6 : Int32) (h0 : Heap) (n0 : Nat) (Z0 : n0 ≤ h0.size) (V1 : Arv Z h0 a1 k1 .byte (7 : Int32) [(.int y0), (.int y1), (.int y2), (.int y3), (.int y4), (.int y5), (.int y6)] (.int (0 : Int32))) (V2 : Arv Z h0 a2 k2 .byte (7 : Int32) [(.int y0), (.int y1), (.int y2), (.int y3), (.int y4), (.int y5), (.int y6)] (.int (0 : Int32))) :
    MetFree l (⟨"java/lang/StringLatin1", "equals", "([B[B)Z"⟩ : MethodName) (head1 (Jvm.Cond.code (⟨"java/lang/StringLatin1", "equals", "([B[B)Z"⟩ : MethodName) jdk_43_method_13_code 3 (some .boolean) :: ws) ({ frames := 0, cells := 0, slots := 0, locals := 0 } : Room)) (fun a U => a = #[(.ref a1), (.ref a2)] ∧ Z.Warmed39 U.vm ∧ U.heap = h0) (fun _ _ _ _ _ => True) (fun _ U o U' => ∃ v L, o = .returned v ∧ Q13_367 Z a1 a2 k1 k2 y0 y1 y2 y3 y4 y5 y6 h0 n0 v U'.heap L ∧ FrameEnd U o U' L ({ frames := 0, cells := 0, slots := 0, locals := 0 } : Room).cells ({ frames := 0, cells := 0, slots := 0, locals := 0 } : Room).slots) := by
  refine MetFree.of_bodySF (plainFor_of_name pn_11) hisR ?_
  intro p e s m args below meth c s₁ Bd hml0 hP hK
  obtain ⟨rfl, hZ, hh⟩ := hP
  have hx := Bd.exec
  have hby := Bd.bytes
  have hml : c.maxLocals = 3 := hml0
  have hown : s.vm.findClass "java/lang/StringLatin1" = some m.cls := findClass_of_methodNamed Bd.named
  have hnm := (name_of_methodNamed Bd.named Bd.method).1
  have hlocks : meth.locks = false := BodyLoose.notSynchronized Bd
  have X0 : Stand p l e ({ frames := 0, cells := 0, slots := 0, locals := 0 } : Room) s m #[(.ref a1), (.ref a2)] below meth c s₁ [] 0 0 := Stand.of_body Bd
  have e0 : s₁.heap = h0 := by rw [← hh, Bd.state]; rfl
  have N0 := Fr.nil n0
  show Goes p e below (s₁.setTop (entryFrame m #[(.ref a1), (.ref a2)] 3)) (Fin s (Q13_367 Z a1 a2 k1 k2 y0 y1 y2 y3 y4 y5 y6 h0 n0) ({ frames := 0, cells := 0, slots := 0, locals := 0 } : Room).cells ({ frames := 0, cells := 0, slots := 0, locals := 0 } : Room).slots)
  refine Goes.of (fun t k => castTop (ef_13_367 m a1 a2) k) ?_
  show Goes p e below (s₁.setTop (mkF m 0 #[.val (.ref a1), .val (.ref a2), .unset] [])) _
  refine Goes.of (fun t k => XS.aloadN X0.here hx rfl (hb hby d13_0) rfl rfl k) ?_
  have Vc368 := V1
  obtain ⟨clc368, Arc368, qc368, Sc368, Nc368, Hc368, Gc368⟩ := Vc368
  refine Goes.of (X0.arraylength hx (by rw [e0]; exact Arc368.1) (State.isArrayOf_alike hZ.alike Arc368.2.1) (g := (mkF m 1 #[.val (.ref a1), .val (.ref a2), .unset] [(.ref a1)])) rfl rfl (hb hby d13_1)) ?_
  rw [len_of Sc368 Nc368]
  show Goes p e below (s₁.setTop (mkF m 2 #[.val (.ref a1), .val (.ref a2), .unset] [(.int (7 : Int32))])) _
  refine Goes.of (fun t k => XS.aloadN X0.here hx rfl (hb hby d13_2) rfl rfl k) ?_
  have Vc369 := V2
  obtain ⟨clc369, Arc369, qc369, Sc369, Nc369, Hc369, Gc369⟩ := Vc369
  refine Goes.of (X0.arraylength hx (by rw [e0]; exact Arc369.1) (State.isArrayOf_alike hZ.alike Arc369.2.1) (g := (mkF m 3 #[.val (.ref a1), .val (.ref a2), .unset] [(.ref a2), (.int (7 : Int32))])) rfl rfl (hb hby d13_3)) ?_
  rw [len_of Sc369 Nc369]
  show Goes p e below (s₁.setTop (mkF m 4 #[.val (.ref a1), .val (.ref a2), .unset] [(.int (7 : Int32)), (.int (7 : Int32))])) _
  refine Goes.of (fun t k => XS.icmpNo X0.here hx rfl (hb hby d13_4) rfl (teq (by decide)).2 k) ?_
  show Goes p e below (s₁.setTop (mkF m 7 #[.val (.ref a1), .val (.ref a2), .unset] [])) _
  refine Goes.of (fun t k => XS.iconst X0.here hx rfl (hb hby d13_7) k) ?_
  show Goes p e below (s₁.setTop (mkF m 8 #[.val (.ref a1), .val (.ref a2), .unset] [(.int (0 : Int32))])) _
  refine Goes.of (fun t k => XS.istoreN X0.here hx rfl (hb hby d13_8) rfl (l' := #[.val (.ref a1), .val (.ref a2), .val (.int (0 : Int32))]) rfl k) ?_
  show Goes p e below (s₁.setTop (mkF m 9 #[.val (.ref a1), .val (.ref a2), .val (.int (0 : Int32))] [])) _
  refine Goes.of (fun t k => XS.iloadN X0.here hx rfl (hb hby d13_9) rfl k) ?_
  show Goes p e below (s₁.setTop (mkF m 10 #[.val (.ref a1), .val (.ref a2), .val (.int (0 : Int32))] [(.int (0 : Int32))])) _
  refine Goes.of (fun t k => XS.aloadN X0.here hx rfl (hb hby d13_10) rfl rfl k) ?_
  have Vc370 := V1
  obtain ⟨clc370, Arc370, qc370, Sc370, Nc370, Hc370, Gc370⟩ := Vc370
  refine Goes.of (X0.arraylength hx (by rw [e0]; exact Arc370.1) (State.isArrayOf_alike hZ.alike Arc370.2.1) (g := (mkF m 11 #[.val (.ref a1), .val (.ref a2), .val (.int (0 : Int32))] [(.ref a1), (.int (0 : Int32))])) rfl rfl (hb hby d13_11)) ?_
  rw [len_of Sc370 Nc370]
  show Goes p e below (s₁.setTop (mkF m 12 #[.val (.ref a1), .val (.ref a2), .val (.int (0 : Int32))] [(.int (7 : Int32)), (.int (0 : Int32))])) _
  refine Goes.of (fun t k => XS.icmpNo X0.here hx rfl (hb hby d13_12) rfl (tlt (by decide)).2.1 k) ?_
  show Goes p e below (s₁.setTop (mkF m 15 #[.val (.ref a1), .val (.ref a2), .val (.int (0 : Int32))] [])) _
  refine Goes.of (fun t k => XS.aloadN X0.here hx rfl (hb hby d13_15) rfl rfl k) ?_
  show Goes p e below (s₁.setTop (mkF m 16 #[.val (.ref a1), .val (.ref a2), .val (.int (0 : Int32))] [(.ref a1)])) _
  refine Goes.of (fun t k => XS.iloadN X0.here hx rfl (hb hby d13_16) rfl k) ?_
  have Vc371 := V1
  obtain ⟨clc371, Arc371, qc371, Sc371, Nc371, Hc371, Gc371⟩ := Vc371
  have hin372 : ¬ ((0 : Int32) < 0 ∨ clc371.slots.size ≤ ((0 : Int32)).toNatClampNeg) := inb_of Sc371 ⟨by decide, by decide⟩
  have hat373 : clc371.slots[((0 : Int32)).toNatClampNeg]? = some (.int y0) := Hc371.at hin372 rfl
  refine Goes.of (fun t k => X0.baloadBytes hx (j := (0 : Int32)) (v := (.int y0)) (by rw [e0]; exact Arc371.1) (State.isArrayOf_alike hZ.alike Arc371.2.1) Arc371.2.2 hin372 hat373 (g := (mkF m 17 #[.val (.ref a1), .val (.ref a2), .val (.int (0 : Int32))] [(.int (0 : Int32)), (.ref a1)])) rfl rfl (hb hby d13_17) _ k) ?_
  show Goes p e below (s₁.setTop (mkF m 18 #[.val (.ref a1), .val (.ref a2), .val (.int (0 : Int32))] [(.int y0)])) _
  refine Goes.of (fun t k => XS.aloadN X0.here hx rfl (hb hby d13_18) rfl rfl k) ?_
  show Goes p e below (s₁.setTop (mkF m 19 #[.val (.ref a1), .val (.ref a2), .val (.int (0 : Int32))] [(.ref a2), (.int y0)])) _
  refine Goes.of (fun t k => XS.iloadN X0.here hx rfl (hb hby d13_19) rfl k) ?_
  have Vc374 := V2
  obtain ⟨clc374, Arc374, qc374, Sc374, Nc374, Hc374, Gc374⟩ := Vc374
  have hin375 : ¬ ((0 : Int32) < 0 ∨ clc374.slots.size ≤ ((0 : Int32)).toNatClampNeg) := inb_of Sc374 ⟨by decide, by decide⟩
  have hat376 : clc374.slots[((0 : Int32)).toNatClampNeg]? = some (.int y0) := Hc374.at hin375 rfl
  refine Goes.of (fun t k => X0.baloadBytes hx (j := (0 : Int32)) (v := (.int y0)) (by rw [e0]; exact Arc374.1) (State.isArrayOf_alike hZ.alike Arc374.2.1) Arc374.2.2 hin375 hat376 (g := (mkF m 20 #[.val (.ref a1), .val (.ref a2), .val (.int (0 : Int32))] [(.int (0 : Int32)), (.ref a2), (.int y0)])) rfl rfl (hb hby d13_20) _ k) ?_
  show Goes p e below (s₁.setTop (mkF m 21 #[.val (.ref a1), .val (.ref a2), .val (.int (0 : Int32))] [(.int y0), (.int y0)])) _
  have hd21_377 : y0 = y0 := rfl
  refine Goes.of (fun t k => XS.icmpYes X0.here hx rfl (pc0 := 21) (pc' := 26) rfl (hb hby d13_21) rfl (teq hd21_377).1 (by decide) (by decide) k) ?_
  show Goes p e below (s₁.setTop (mkF m 26 #[.val (.ref a1), .val (.ref a2), .val (.int (0 : Int32))] [])) _
  refine Goes.of (fun t k => XS.iinc X0.here hx rfl (hb hby d13_26) rfl (l' := #[.val (.ref a1), .val (.ref a2), .val (.int (1 : Int32))]) rfl k) ?_
  show Goes p e below (s₁.setTop (mkF m 29 #[.val (.ref a1), .val (.ref a2), .val (.int (1 : Int32))] [])) _
  refine Goes.of (fun t k => XS.goto X0.here hx rfl (pc0 := 29) (pc' := 9) rfl (hb hby d13_29) (by decide) (by decide) k) ?_
  show Goes p e below (s₁.setTop (mkF m 9 #[.val (.ref a1), .val (.ref a2), .val (.int (1 : Int32))] [])) _
  refine Goes.of (fun t k => XS.iloadN X0.here hx rfl (hb hby d13_9) rfl k) ?_
  show Goes p e below (s₁.setTop (mkF m 10 #[.val (.ref a1), .val (.ref a2), .val (.int (1 : Int32))] [(.int (1 : Int32))])) _
  refine Goes.of (fun t k => XS.aloadN X0.here hx rfl (hb hby d13_10) rfl rfl k) ?_
  have Vc378 := V1
  obtain ⟨clc378, Arc378, qc378, Sc378, Nc378, Hc378, Gc378⟩ := Vc378
  refine Goes.of (X0.arraylength hx (by rw [e0]; exact Arc378.1) (State.isArrayOf_alike hZ.alike Arc378.2.1) (g := (mkF m 11 #[.val (.ref a1), .val (.ref a2), .val (.int (1 : Int32))] [(.ref a1), (.int (1 : Int32))])) rfl rfl (hb hby d13_11)) ?_
  rw [len_of Sc378 Nc378]
  show Goes p e below (s₁.setTop (mkF m 12 #[.val (.ref a1), .val (.ref a2), .val (.int (1 : Int32))] [(.int (7 : Int32)), (.int (1 : Int32))])) _
  refine Goes.of (fun t k => XS.icmpNo X0.here hx rfl (hb hby d13_12) rfl (tlt (by decide)).2.1 k) ?_
  show Goes p e below (s₁.setTop (mkF m 15 #[.val (.ref a1), .val (.ref a2), .val (.int (1 : Int32))] [])) _
  refine Goes.of (fun t k => XS.aloadN X0.here hx rfl (hb hby d13_15) rfl rfl k) ?_
  show Goes p e below (s₁.setTop (mkF m 16 #[.val (.ref a1), .val (.ref a2), .val (.int (1 : Int32))] [(.ref a1)])) _
  refine Goes.of (fun t k => XS.iloadN X0.here hx rfl (hb hby d13_16) rfl k) ?_
  have Vc379 := V1
  obtain ⟨clc379, Arc379, qc379, Sc379, Nc379, Hc379, Gc379⟩ := Vc379
  have hin380 : ¬ ((1 : Int32) < 0 ∨ clc379.slots.size ≤ ((1 : Int32)).toNatClampNeg) := inb_of Sc379 ⟨by decide, by decide⟩
  have hat381 : clc379.slots[((1 : Int32)).toNatClampNeg]? = some (.int y1) := Hc379.at hin380 rfl
  refine Goes.of (fun t k => X0.baloadBytes hx (j := (1 : Int32)) (v := (.int y1)) (by rw [e0]; exact Arc379.1) (State.isArrayOf_alike hZ.alike Arc379.2.1) Arc379.2.2 hin380 hat381 (g := (mkF m 17 #[.val (.ref a1), .val (.ref a2), .val (.int (1 : Int32))] [(.int (1 : Int32)), (.ref a1)])) rfl rfl (hb hby d13_17) _ k) ?_
  show Goes p e below (s₁.setTop (mkF m 18 #[.val (.ref a1), .val (.ref a2), .val (.int (1 : Int32))] [(.int y1)])) _
  refine Goes.of (fun t k => XS.aloadN X0.here hx rfl (hb hby d13_18) rfl rfl k) ?_
  show Goes p e below (s₁.setTop (mkF m 19 #[.val (.ref a1), .val (.ref a2), .val (.int (1 : Int32))] [(.ref a2), (.int y1)])) _
  refine Goes.of (fun t k => XS.iloadN X0.here hx rfl (hb hby d13_19) rfl k) ?_
  have Vc382 := V2
  obtain ⟨clc382, Arc382, qc382, Sc382, Nc382, Hc382, Gc382⟩ := Vc382
  have hin383 : ¬ ((1 : Int32) < 0 ∨ clc382.slots.size ≤ ((1 : Int32)).toNatClampNeg) := inb_of Sc382 ⟨by decide, by decide⟩
  have hat384 : clc382.slots[((1 : Int32)).toNatClampNeg]? = some (.int y1) := Hc382.at hin383 rfl
  refine Goes.of (fun t k => X0.baloadBytes hx (j := (1 : Int32)) (v := (.int y1)) (by rw [e0]; exact Arc382.1) (State.isArrayOf_alike hZ.alike Arc382.2.1) Arc382.2.2 hin383 hat384 (g := (mkF m 20 #[.val (.ref a1), .val (.ref a2), .val (.int (1 : Int32))] [(.int (1 : Int32)), (.ref a2), (.int y1)])) rfl rfl (hb hby d13_20) _ k) ?_
  show Goes p e below (s₁.setTop (mkF m 21 #[.val (.ref a1), .val (.ref a2), .val (.int (1 : Int32))] [(.int y1), (.int y1)])) _
  have hd21_385 : y1 = y1 := rfl
  refine Goes.of (fun t k => XS.icmpYes X0.here hx rfl (pc0 := 21) (pc' := 26) rfl (hb hby d13_21) rfl (teq hd21_385).1 (by decide) (by decide) k) ?_
  show Goes p e below (s₁.setTop (mkF m 26 #[.val (.ref a1), .val (.ref a2), .val (.int (1 : Int32))] [])) _
  refine Goes.of (fun t k => XS.iinc X0.here hx rfl (hb hby d13_26) rfl (l' := #[.val (.ref a1), .val (.ref a2), .val (.int (2 : Int32))]) rfl k) ?_
  show Goes p e below (s₁.setTop (mkF m 29 #[.val (.ref a1), .val (.ref a2), .val (.int (2 : Int32))] [])) _
  refine Goes.of (fun t k => XS.goto X0.here hx rfl (pc0 := 29) (pc' := 9) rfl (hb hby d13_29) (by decide) (by decide) k) ?_
  show Goes p e below (s₁.setTop (mkF m 9 #[.val (.ref a1), .val (.ref a2), .val (.int (2 : Int32))] [])) _
  refine Goes.of (fun t k => XS.iloadN X0.here hx rfl (hb hby d13_9) rfl k) ?_
  show Goes p e below (s₁.setTop (mkF m 10 #[.val (.ref a1), .val (.ref a2), .val (.int (2 : Int32))] [(.int (2 : Int32))])) _
  refine Goes.of (fun t k => XS.aloadN X0.here hx rfl (hb hby d13_10) rfl rfl k) ?_
  have Vc386 := V1
  obtain ⟨clc386, Arc386, qc386, Sc386, Nc386, Hc386, Gc386⟩ := Vc386
  refine Goes.of (X0.arraylength hx (by rw [e0]; exact Arc386.1) (State.isArrayOf_alike hZ.alike Arc386.2.1) (g := (mkF m 11 #[.val (.ref a1), .val (.ref a2), .val (.int (2 : Int32))] [(.ref a1), (.int (2 : Int32))])) rfl rfl (hb hby d13_11)) ?_
  rw [len_of Sc386 Nc386]
  show Goes p e below (s₁.setTop (mkF m 12 #[.val (.ref a1), .val (.ref a2), .val (.int (2 : Int32))] [(.int (7 : Int32)), (.int (2 : Int32))])) _
  refine Goes.of (fun t k => XS.icmpNo X0.here hx rfl (hb hby d13_12) rfl (tlt (by decide)).2.1 k) ?_
  show Goes p e below (s₁.setTop (mkF m 15 #[.val (.ref a1), .val (.ref a2), .val (.int (2 : Int32))] [])) _
  refine Goes.of (fun t k => XS.aloadN X0.here hx rfl (hb hby d13_15) rfl rfl k) ?_
  show Goes p e below (s₁.setTop (mkF m 16 #[.val (.ref a1), .val (.ref a2), .val (.int (2 : Int32))] [(.ref a1)])) _
  refine Goes.of (fun t k => XS.iloadN X0.here hx rfl (hb hby d13_16) rfl k) ?_
  have Vc387 := V1
  obtain ⟨clc387, Arc387, qc387, Sc387, Nc387, Hc387, Gc387⟩ := Vc387
  have hin388 : ¬ ((2 : Int32) < 0 ∨ clc387.slots.size ≤ ((2 : Int32)).toNatClampNeg) := inb_of Sc387 ⟨by decide, by decide⟩
  have hat389 : clc387.slots[((2 : Int32)).toNatClampNeg]? = some (.int y2) := Hc387.at hin388 rfl
  refine Goes.of (fun t k => X0.baloadBytes hx (j := (2 : Int32)) (v := (.int y2)) (by rw [e0]; exact Arc387.1) (State.isArrayOf_alike hZ.alike Arc387.2.1) Arc387.2.2 hin388 hat389 (g := (mkF m 17 #[.val (.ref a1), .val (.ref a2), .val (.int (2 : Int32))] [(.int (2 : Int32)), (.ref a1)])) rfl rfl (hb hby d13_17) _ k) ?_
  show Goes p e below (s₁.setTop (mkF m 18 #[.val (.ref a1), .val (.ref a2), .val (.int (2 : Int32))] [(.int y2)])) _
  refine Goes.of (fun t k => XS.aloadN X0.here hx rfl (hb hby d13_18) rfl rfl k) ?_
  show Goes p e below (s₁.setTop (mkF m 19 #[.val (.ref a1), .val (.ref a2), .val (.int (2 : Int32))] [(.ref a2), (.int y2)])) _
  refine Goes.of (fun t k => XS.iloadN X0.here hx rfl (hb hby d13_19) rfl k) ?_
  have Vc390 := V2
  obtain ⟨clc390, Arc390, qc390, Sc390, Nc390, Hc390, Gc390⟩ := Vc390
  have hin391 : ¬ ((2 : Int32) < 0 ∨ clc390.slots.size ≤ ((2 : Int32)).toNatClampNeg) := inb_of Sc390 ⟨by decide, by decide⟩
  have hat392 : clc390.slots[((2 : Int32)).toNatClampNeg]? = some (.int y2) := Hc390.at hin391 rfl
  refine Goes.of (fun t k => X0.baloadBytes hx (j := (2 : Int32)) (v := (.int y2)) (by rw [e0]; exact Arc390.1) (State.isArrayOf_alike hZ.alike Arc390.2.1) Arc390.2.2 hin391 hat392 (g := (mkF m 20 #[.val (.ref a1), .val (.ref a2), .val (.int (2 : Int32))] [(.int (2 : Int32)), (.ref a2), (.int y2)])) rfl rfl (hb hby d13_20) _ k) ?_
  show Goes p e below (s₁.setTop (mkF m 21 #[.val (.ref a1), .val (.ref a2), .val (.int (2 : Int32))] [(.int y2), (.int y2)])) _
  have hd21_393 : y2 = y2 := rfl
  refine Goes.of (fun t k => XS.icmpYes X0.here hx rfl (pc0 := 21) (pc' := 26) rfl (hb hby d13_21) rfl (teq hd21_393).1 (by decide) (by decide) k) ?_
  show Goes p e below (s₁.setTop (mkF m 26 #[.val (.ref a1), .val (.ref a2), .val (.int (2 : Int32))] [])) _
  refine Goes.of (fun t k => XS.iinc X0.here hx rfl (hb hby d13_26) rfl (l' := #[.val (.ref a1), .val (.ref a2), .val (.int (3 : Int32))]) rfl k) ?_
  show Goes p e below (s₁.setTop (mkF m 29 #[.val (.ref a1), .val (.ref a2), .val (.int (3 : Int32))] [])) _
  refine Goes.of (fun t k => XS.goto X0.here hx rfl (pc0 := 29) (pc' := 9) rfl (hb hby d13_29) (by decide) (by decide) k) ?_
  show Goes p e below (s₁.setTop (mkF m 9 #[.val (.ref a1), .val (.ref a2), .val (.int (3 : Int32))] [])) _
  refine Goes.of (fun t k => XS.iloadN X0.here hx rfl (hb hby d13_9) rfl k) ?_
  show Goes p e below (s₁.setTop (mkF m 10 #[.val (.ref a1), .val (.ref a2), .val (.int (3 : Int32))] [(.int (3 : Int32))])) _
  refine Goes.of (fun t k => XS.aloadN X0.here hx rfl (hb hby d13_10) rfl rfl k) ?_
  have Vc394 := V1
  obtain ⟨clc394, Arc394, qc394, Sc394, Nc394, Hc394, Gc394⟩ := Vc394
  refine Goes.of (X0.arraylength hx (by rw [e0]; exact Arc394.1) (State.isArrayOf_alike hZ.alike Arc394.2.1) (g := (mkF m 11 #[.val (.ref a1), .val (.ref a2), .val (.int (3 : Int32))] [(.ref a1), (.int (3 : Int32))])) rfl rfl (hb hby d13_11)) ?_
  rw [len_of Sc394 Nc394]
  show Goes p e below (s₁.setTop (mkF m 12 #[.val (.ref a1), .val (.ref a2), .val (.int (3 : Int32))] [(.int (7 : Int32)), (.int (3 : Int32))])) _
  refine Goes.of (fun t k => XS.icmpNo X0.here hx rfl (hb hby d13_12) rfl (tlt (by decide)).2.1 k) ?_
  show Goes p e below (s₁.setTop (mkF m 15 #[.val (.ref a1), .val (.ref a2), .val (.int (3 : Int32))] [])) _
  refine Goes.of (fun t k => XS.aloadN X0.here hx rfl (hb hby d13_15) rfl rfl k) ?_
  show Goes p e below (s₁.setTop (mkF m 16 #[.val (.ref a1), .val (.ref a2), .val (.int (3 : Int32))] [(.ref a1)])) _
  refine Goes.of (fun t k => XS.iloadN X0.here hx rfl (hb hby d13_16) rfl k) ?_
  have Vc395 := V1
  obtain ⟨clc395, Arc395, qc395, Sc395, Nc395, Hc395, Gc395⟩ := Vc395
  have hin396 : ¬ ((3 : Int32) < 0 ∨ clc395.slots.size ≤ ((3 : Int32)).toNatClampNeg) := inb_of Sc395 ⟨by decide, by decide⟩
  have hat397 : clc395.slots[((3 : Int32)).toNatClampNeg]? = some (.int y3) := Hc395.at hin396 rfl
  refine Goes.of (fun t k => X0.baloadBytes hx (j := (3 : Int32)) (v := (.int y3)) (by rw [e0]; exact Arc395.1) (State.isArrayOf_alike hZ.alike Arc395.2.1) Arc395.2.2 hin396 hat397 (g := (mkF m 17 #[.val (.ref a1), .val (.ref a2), .val (.int (3 : Int32))] [(.int (3 : Int32)), (.ref a1)])) rfl rfl (hb hby d13_17) _ k) ?_
  show Goes p e below (s₁.setTop (mkF m 18 #[.val (.ref a1), .val (.ref a2), .val (.int (3 : Int32))] [(.int y3)])) _
  refine Goes.of (fun t k => XS.aloadN X0.here hx rfl (hb hby d13_18) rfl rfl k) ?_
  show Goes p e below (s₁.setTop (mkF m 19 #[.val (.ref a1), .val (.ref a2), .val (.int (3 : Int32))] [(.ref a2), (.int y3)])) _
  refine Goes.of (fun t k => XS.iloadN X0.here hx rfl (hb hby d13_19) rfl k) ?_
  have Vc398 := V2
  obtain ⟨clc398, Arc398, qc398, Sc398, Nc398, Hc398, Gc398⟩ := Vc398
  have hin399 : ¬ ((3 : Int32) < 0 ∨ clc398.slots.size ≤ ((3 : Int32)).toNatClampNeg) := inb_of Sc398 ⟨by decide, by decide⟩
  have hat400 : clc398.slots[((3 : Int32)).toNatClampNeg]? = some (.int y3) := Hc398.at hin399 rfl
  refine Goes.of (fun t k => X0.baloadBytes hx (j := (3 : Int32)) (v := (.int y3)) (by rw [e0]; exact Arc398.1) (State.isArrayOf_alike hZ.alike Arc398.2.1) Arc398.2.2 hin399 hat400 (g := (mkF m 20 #[.val (.ref a1), .val (.ref a2), .val (.int (3 : Int32))] [(.int (3 : Int32)), (.ref a2), (.int y3)])) rfl rfl (hb hby d13_20) _ k) ?_
  show Goes p e below (s₁.setTop (mkF m 21 #[.val (.ref a1), .val (.ref a2), .val (.int (3 : Int32))] [(.int y3), (.int y3)])) _
  have hd21_401 : y3 = y3 := rfl
  refine Goes.of (fun t k => XS.icmpYes X0.here hx rfl (pc0 := 21) (pc' := 26) rfl (hb hby d13_21) rfl (teq hd21_401).1 (by decide) (by decide) k) ?_
  show Goes p e below (s₁.setTop (mkF m 26 #[.val (.ref a1), .val (.ref a2), .val (.int (3 : Int32))] [])) _
  refine Goes.of (fun t k => XS.iinc X0.here hx rfl (hb hby d13_26) rfl (l' := #[.val (.ref a1), .val (.ref a2), .val (.int (4 : Int32))]) rfl k) ?_
  show Goes p e below (s₁.setTop (mkF m 29 #[.val (.ref a1), .val (.ref a2), .val (.int (4 : Int32))] [])) _
  refine Goes.of (fun t k => XS.goto X0.here hx rfl (pc0 := 29) (pc' := 9) rfl (hb hby d13_29) (by decide) (by decide) k) ?_
  show Goes p e below (s₁.setTop (mkF m 9 #[.val (.ref a1), .val (.ref a2), .val (.int (4 : Int32))] [])) _
  refine Goes.of (fun t k => XS.iloadN X0.here hx rfl (hb hby d13_9) rfl k) ?_
  show Goes p e below (s₁.setTop (mkF m 10 #[.val (.ref a1), .val (.ref a2), .val (.int (4 : Int32))] [(.int (4 : Int32))])) _
  refine Goes.of (fun t k => XS.aloadN X0.here hx rfl (hb hby d13_10) rfl rfl k) ?_
  have Vc402 := V1
  obtain ⟨clc402, Arc402, qc402, Sc402, Nc402, Hc402, Gc402⟩ := Vc402
  refine Goes.of (X0.arraylength hx (by rw [e0]; exact Arc402.1) (State.isArrayOf_alike hZ.alike Arc402.2.1) (g := (mkF m 11 #[.val (.ref a1), .val (.ref a2), .val (.int (4 : Int32))] [(.ref a1), (.int (4 : Int32))])) rfl rfl (hb hby d13_11)) ?_
  rw [len_of Sc402 Nc402]
  show Goes p e below (s₁.setTop (mkF m 12 #[.val (.ref a1), .val (.ref a2), .val (.int (4 : Int32))] [(.int (7 : Int32)), (.int (4 : Int32))])) _
  refine Goes.of (fun t k => XS.icmpNo X0.here hx rfl (hb hby d13_12) rfl (tlt (by decide)).2.1 k) ?_
  show Goes p e below (s₁.setTop (mkF m 15 #[.val (.ref a1), .val (.ref a2), .val (.int (4 : Int32))] [])) _
  refine Goes.of (fun t k => XS.aloadN X0.here hx rfl (hb hby d13_15) rfl rfl k) ?_
  show Goes p e below (s₁.setTop (mkF m 16 #[.val (.ref a1), .val (.ref a2), .val (.int (4 : Int32))] [(.ref a1)])) _
  refine Goes.of (fun t k => XS.iloadN X0.here hx rfl (hb hby d13_16) rfl k) ?_
  have Vc403 := V1
  obtain ⟨clc403, Arc403, qc403, Sc403, Nc403, Hc403, Gc403⟩ := Vc403
  have hin404 : ¬ ((4 : Int32) < 0 ∨ clc403.slots.size ≤ ((4 : Int32)).toNatClampNeg) := inb_of Sc403 ⟨by decide, by decide⟩
  have hat405 : clc403.slots[((4 : Int32)).toNatClampNeg]? = some (.int y4) := Hc403.at hin404 rfl
  refine Goes.of (fun t k => X0.baloadBytes hx (j := (4 : Int32)) (v := (.int y4)) (by rw [e0]; exact Arc403.1) (State.isArrayOf_alike hZ.alike Arc403.2.1) Arc403.2.2 hin404 hat405 (g := (mkF m 17 #[.val (.ref a1), .val (.ref a2), .val (.int (4 : Int32))] [(.int (4 : Int32)), (.ref a1)])) rfl rfl (hb hby d13_17) _ k) ?_
  show Goes p e below (s₁.setTop (mkF m 18 #[.val (.ref a1), .val (.ref a2), .val (.int (4 : Int32))] [(.int y4)])) _
  refine Goes.of (fun t k => XS.aloadN X0.here hx rfl (hb hby d13_18) rfl rfl k) ?_
  show Goes p e below (s₁.setTop (mkF m 19 #[.val (.ref a1), .val (.ref a2), .val (.int (4 : Int32))] [(.ref a2), (.int y4)])) _
  refine Goes.of (fun t k => XS.iloadN X0.here hx rfl (hb hby d13_19) rfl k) ?_
  have Vc406 := V2
  obtain ⟨clc406, Arc406, qc406, Sc406, Nc406, Hc406, Gc406⟩ := Vc406
  have hin407 : ¬ ((4 : Int32) < 0 ∨ clc406.slots.size ≤ ((4 : Int32)).toNatClampNeg) := inb_of Sc406 ⟨by decide, by decide⟩
  have hat408 : clc406.slots[((4 : Int32)).toNatClampNeg]? = some (.int y4) := Hc406.at hin407 rfl
  refine Goes.of (fun t k => X0.baloadBytes hx (j := (4 : Int32)) (v := (.int y4)) (by rw [e0]; exact Arc406.1) (State.isArrayOf_alike hZ.alike Arc406.2.1) Arc406.2.2 hin407 hat408 (g := (mkF m 20 #[.val (.ref a1), .val (.ref a2), .val (.int (4 : Int32))] [(.int (4 : Int32)), (.ref a2), (.int y4)])) rfl rfl (hb hby d13_20) _ k) ?_
  show Goes p e below (s₁.setTop (mkF m 21 #[.val (.ref a1), .val (.ref a2), .val (.int (4 : Int32))] [(.int y4), (.int y4)])) _
  have hd21_409 : y4 = y4 := rfl
  refine Goes.of (fun t k => XS.icmpYes X0.here hx rfl (pc0 := 21) (pc' := 26) rfl (hb hby d13_21) rfl (teq hd21_409).1 (by decide) (by decide) k) ?_
  show Goes p e below (s₁.setTop (mkF m 26 #[.val (.ref a1), .val (.ref a2), .val (.int (4 : Int32))] [])) _
  refine Goes.of (fun t k => XS.iinc X0.here hx rfl (hb hby d13_26) rfl (l' := #[.val (.ref a1), .val (.ref a2), .val (.int (5 : Int32))]) rfl k) ?_
  show Goes p e below (s₁.setTop (mkF m 29 #[.val (.ref a1), .val (.ref a2), .val (.int (5 : Int32))] [])) _
  refine Goes.of (fun t k => XS.goto X0.here hx rfl (pc0 := 29) (pc' := 9) rfl (hb hby d13_29) (by decide) (by decide) k) ?_
  show Goes p e below (s₁.setTop (mkF m 9 #[.val (.ref a1), .val (.ref a2), .val (.int (5 : Int32))] [])) _
  refine Goes.of (fun t k => XS.iloadN X0.here hx rfl (hb hby d13_9) rfl k) ?_
  show Goes p e below (s₁.setTop (mkF m 10 #[.val (.ref a1), .val (.ref a2), .val (.int (5 : Int32))] [(.int (5 : Int32))])) _
  refine Goes.of (fun t k => XS.aloadN X0.here hx rfl (hb hby d13_10) rfl rfl k) ?_
  have Vc410 := V1
  obtain ⟨clc410, Arc410, qc410, Sc410, Nc410, Hc410, Gc410⟩ := Vc410
  refine Goes.of (X0.arraylength hx (by rw [e0]; exact Arc410.1) (State.isArrayOf_alike hZ.alike Arc410.2.1) (g := (mkF m 11 #[.val (.ref a1), .val (.ref a2), .val (.int (5 : Int32))] [(.ref a1), (.int (5 : Int32))])) rfl rfl (hb hby d13_11)) ?_
  rw [len_of Sc410 Nc410]
  show Goes p e below (s₁.setTop (mkF m 12 #[.val (.ref a1), .val (.ref a2), .val (.int (5 : Int32))] [(.int (7 : Int32)), (.int (5 : Int32))])) _
  refine Goes.of (fun t k => XS.icmpNo X0.here hx rfl (hb hby d13_12) rfl (tlt (by decide)).2.1 k) ?_
  show Goes p e below (s₁.setTop (mkF m 15 #[.val (.ref a1), .val (.ref a2), .val (.int (5 : Int32))] [])) _
  refine Goes.of (fun t k => XS.aloadN X0.here hx rfl (hb hby d13_15) rfl rfl k) ?_
  show Goes p e below (s₁.setTop (mkF m 16 #[.val (.ref a1), .val (.ref a2), .val (.int (5 : Int32))] [(.ref a1)])) _
  refine Goes.of (fun t k => XS.iloadN X0.here hx rfl (hb hby d13_16) rfl k) ?_
  have Vc411 := V1
  obtain ⟨clc411, Arc411, qc411, Sc411, Nc411, Hc411, Gc411⟩ := Vc411
  have hin412 : ¬ ((5 : Int32) < 0 ∨ clc411.slots.size ≤ ((5 : Int32)).toNatClampNeg) := inb_of Sc411 ⟨by decide, by decide⟩
  have hat413 : clc411.slots[((5 : Int32)).toNatClampNeg]? = some (.int y5) := Hc411.at hin412 rfl
  refine Goes.of (fun t k => X0.baloadBytes hx (j := (5 : Int32)) (v := (.int y5)) (by rw [e0]; exact Arc411.1) (State.isArrayOf_alike hZ.alike Arc411.2.1) Arc411.2.2 hin412 hat413 (g := (mkF m 17 #[.val (.ref a1), .val (.ref a2), .val (.int (5 : Int32))] [(.int (5 : Int32)), (.ref a1)])) rfl rfl (hb hby d13_17) _ k) ?_
  show Goes p e below (s₁.setTop (mkF m 18 #[.val (.ref a1), .val (.ref a2), .val (.int (5 : Int32))] [(.int y5)])) _
  refine Goes.of (fun t k => XS.aloadN X0.here hx rfl (hb hby d13_18) rfl rfl k) ?_
  show Goes p e below (s₁.setTop (mkF m 19 #[.val (.ref a1), .val (.ref a2), .val (.int (5 : Int32))] [(.ref a2), (.int y5)])) _
  refine Goes.of (fun t k => XS.iloadN X0.here hx rfl (hb hby d13_19) rfl k) ?_
  have Vc414 := V2
  obtain ⟨clc414, Arc414, qc414, Sc414, Nc414, Hc414, Gc414⟩ := Vc414
  have hin415 : ¬ ((5 : Int32) < 0 ∨ clc414.slots.size ≤ ((5 : Int32)).toNatClampNeg) := inb_of Sc414 ⟨by decide, by decide⟩
  have hat416 : clc414.slots[((5 : Int32)).toNatClampNeg]? = some (.int y5) := Hc414.at hin415 rfl
  refine Goes.of (fun t k => X0.baloadBytes hx (j := (5 : Int32)) (v := (.int y5)) (by rw [e0]; exact Arc414.1) (State.isArrayOf_alike hZ.alike Arc414.2.1) Arc414.2.2 hin415 hat416 (g := (mkF m 20 #[.val (.ref a1), .val (.ref a2), .val (.int (5 : Int32))] [(.int (5 : Int32)), (.ref a2), (.int y5)])) rfl rfl (hb hby d13_20) _ k) ?_
  show Goes p e below (s₁.setTop (mkF m 21 #[.val (.ref a1), .val (.ref a2), .val (.int (5 : Int32))] [(.int y5), (.int y5)])) _
  have hd21_417 : y5 = y5 := rfl
  refine Goes.of (fun t k => XS.icmpYes X0.here hx rfl (pc0 := 21) (pc' := 26) rfl (hb hby d13_21) rfl (teq hd21_417).1 (by decide) (by decide) k) ?_
  show Goes p e below (s₁.setTop (mkF m 26 #[.val (.ref a1), .val (.ref a2), .val (.int (5 : Int32))] [])) _
  refine Goes.of (fun t k => XS.iinc X0.here hx rfl (hb hby d13_26) rfl (l' := #[.val (.ref a1), .val (.ref a2), .val (.int (6 : Int32))]) rfl k) ?_
  show Goes p e below (s₁.setTop (mkF m 29 #[.val (.ref a1), .val (.ref a2), .val (.int (6 : Int32))] [])) _
  refine Goes.of (fun t k => XS.goto X0.here hx rfl (pc0 := 29) (pc' := 9) rfl (hb hby d13_29) (by decide) (by decide) k) ?_
  show Goes p e below (s₁.setTop (mkF m 9 #[.val (.ref a1), .val (.ref a2), .val (.int (6 : Int32))] [])) _
  refine Goes.of (fun t k => XS.iloadN X0.here hx rfl (hb hby d13_9) rfl k) ?_
  show Goes p e below (s₁.setTop (mkF m 10 #[.val (.ref a1), .val (.ref a2), .val (.int (6 : Int32))] [(.int (6 : Int32))])) _
  refine Goes.of (fun t k => XS.aloadN X0.here hx rfl (hb hby d13_10) rfl rfl k) ?_
  have Vc418 := V1
  obtain ⟨clc418, Arc418, qc418, Sc418, Nc418, Hc418, Gc418⟩ := Vc418
  refine Goes.of (X0.arraylength hx (by rw [e0]; exact Arc418.1) (State.isArrayOf_alike hZ.alike Arc418.2.1) (g := (mkF m 11 #[.val (.ref a1), .val (.ref a2), .val (.int (6 : Int32))] [(.ref a1), (.int (6 : Int32))])) rfl rfl (hb hby d13_11)) ?_
  rw [len_of Sc418 Nc418]
  show Goes p e below (s₁.setTop (mkF m 12 #[.val (.ref a1), .val (.ref a2), .val (.int (6 : Int32))] [(.int (7 : Int32)), (.int (6 : Int32))])) _
  refine Goes.of (fun t k => XS.icmpNo X0.here hx rfl (hb hby d13_12) rfl (tlt (by decide)).2.1 k) ?_
  show Goes p e below (s₁.setTop (mkF m 15 #[.val (.ref a1), .val (.ref a2), .val (.int (6 : Int32))] [])) _
  refine Goes.of (fun t k => XS.aloadN X0.here hx rfl (hb hby d13_15) rfl rfl k) ?_
  show Goes p e below (s₁.setTop (mkF m 16 #[.val (.ref a1), .val (.ref a2), .val (.int (6 : Int32))] [(.ref a1)])) _
  refine Goes.of (fun t k => XS.iloadN X0.here hx rfl (hb hby d13_16) rfl k) ?_
  have Vc419 := V1
  obtain ⟨clc419, Arc419, qc419, Sc419, Nc419, Hc419, Gc419⟩ := Vc419
  have hin420 : ¬ ((6 : Int32) < 0 ∨ clc419.slots.size ≤ ((6 : Int32)).toNatClampNeg) := inb_of Sc419 ⟨by decide, by decide⟩
  have hat421 : clc419.slots[((6 : Int32)).toNatClampNeg]? = some (.int y6) := Hc419.at hin420 rfl
  refine Goes.of (fun t k => X0.baloadBytes hx (j := (6 : Int32)) (v := (.int y6)) (by rw [e0]; exact Arc419.1) (State.isArrayOf_alike hZ.alike Arc419.2.1) Arc419.2.2 hin420 hat421 (g := (mkF m 17 #[.val (.ref a1), .val (.ref a2), .val (.int (6 : Int32))] [(.int (6 : Int32)), (.ref a1)])) rfl rfl (hb hby d13_17) _ k) ?_
  show Goes p e below (s₁.setTop (mkF m 18 #[.val (.ref a1), .val (.ref a2), .val (.int (6 : Int32))] [(.int y6)])) _
  refine Goes.of (fun t k => XS.aloadN X0.here hx rfl (hb hby d13_18) rfl rfl k) ?_
  show Goes p e below (s₁.setTop (mkF m 19 #[.val (.ref a1), .val (.ref a2), .val (.int (6 : Int32))] [(.ref a2), (.int y6)])) _
  refine Goes.of (fun t k => XS.iloadN X0.here hx rfl (hb hby d13_19) rfl k) ?_
  have Vc422 := V2
  obtain ⟨clc422, Arc422, qc422, Sc422, Nc422, Hc422, Gc422⟩ := Vc422
  have hin423 : ¬ ((6 : Int32) < 0 ∨ clc422.slots.size ≤ ((6 : Int32)).toNatClampNeg) := inb_of Sc422 ⟨by decide, by decide⟩
  have hat424 : clc422.slots[((6 : Int32)).toNatClampNeg]? = some (.int y6) := Hc422.at hin423 rfl
  refine Goes.of (fun t k => X0.baloadBytes hx (j := (6 : Int32)) (v := (.int y6)) (by rw [e0]; exact Arc422.1) (State.isArrayOf_alike hZ.alike Arc422.2.1) Arc422.2.2 hin423 hat424 (g := (mkF m 20 #[.val (.ref a1), .val (.ref a2), .val (.int (6 : Int32))] [(.int (6 : Int32)), (.ref a2), (.int y6)])) rfl rfl (hb hby d13_20) _ k) ?_
  show Goes p e below (s₁.setTop (mkF m 21 #[.val (.ref a1), .val (.ref a2), .val (.int (6 : Int32))] [(.int y6), (.int y6)])) _
  have hd21_425 : y6 = y6 := rfl
  refine Goes.of (fun t k => XS.icmpYes X0.here hx rfl (pc0 := 21) (pc' := 26) rfl (hb hby d13_21) rfl (teq hd21_425).1 (by decide) (by decide) k) ?_
  show Goes p e below (s₁.setTop (mkF m 26 #[.val (.ref a1), .val (.ref a2), .val (.int (6 : Int32))] [])) _
  refine Goes.of (fun t k => XS.iinc X0.here hx rfl (hb hby d13_26) rfl (l' := #[.val (.ref a1), .val (.ref a2), .val (.int (7 : Int32))]) rfl k) ?_
  show Goes p e below (s₁.setTop (mkF m 29 #[.val (.ref a1), .val (.ref a2), .val (.int (7 : Int32))] [])) _
  refine Goes.of (fun t k => XS.goto X0.here hx rfl (pc0 := 29) (pc' := 9) rfl (hb hby d13_29) (by decide) (by decide) k) ?_
  show Goes p e below (s₁.setTop (mkF m 9 #[.val (.ref a1), .val (.ref a2), .val (.int (7 : Int32))] [])) _
  refine Goes.of (fun t k => XS.iloadN X0.here hx rfl (hb hby d13_9) rfl k) ?_
  show Goes p e below (s₁.setTop (mkF m 10 #[.val (.ref a1), .val (.ref a2), .val (.int (7 : Int32))] [(.int (7 : Int32))])) _
  refine Goes.of (fun t k => XS.aloadN X0.here hx rfl (hb hby d13_10) rfl rfl k) ?_
  have Vc426 := V1
  obtain ⟨clc426, Arc426, qc426, Sc426, Nc426, Hc426, Gc426⟩ := Vc426
  refine Goes.of (X0.arraylength hx (by rw [e0]; exact Arc426.1) (State.isArrayOf_alike hZ.alike Arc426.2.1) (g := (mkF m 11 #[.val (.ref a1), .val (.ref a2), .val (.int (7 : Int32))] [(.ref a1), (.int (7 : Int32))])) rfl rfl (hb hby d13_11)) ?_
  rw [len_of Sc426 Nc426]
  show Goes p e below (s₁.setTop (mkF m 12 #[.val (.ref a1), .val (.ref a2), .val (.int (7 : Int32))] [(.int (7 : Int32)), (.int (7 : Int32))])) _
  refine Goes.of (fun t k => XS.icmpYes X0.here hx rfl (pc0 := 12) (pc' := 32) rfl (hb hby d13_12) rfl (flt (by decide)).2.1 (by decide) (by decide) k) ?_
  show Goes p e below (s₁.setTop (mkF m 32 #[.val (.ref a1), .val (.ref a2), .val (.int (7 : Int32))] [])) _
  refine Goes.of (fun t k => XS.iconst X0.here hx rfl (hb hby d13_32) k) ?_
  show Goes p e below (s₁.setTop (mkF m 33 #[.val (.ref a1), .val (.ref a2), .val (.int (7 : Int32))] [(.int (1 : Int32))])) _
  exact Goes.retN (t := .boolean) X0 hx Bd.returns (by simp) hlocks (hb hby d13_33) (⟨rfl, N0, e0⟩) (by decide) (by decide)
theorem ef_12_427 (m : MethodId) (x0 : Addr) (x1 : Addr) : entryFrame m #[(.ref x0), (.ref x1)] 3 = mkF m 0 #[.val (.ref x0), .val (.ref x1), .unset] [] := by first | (simp [entryFrame, mkF, argsToLocals, Value.category]; done) | rfl
def Q12_427 (Z : State) (a1 : Addr) (a2 : Addr) (b1 : Addr) (b2 : Addr) (k1 : ClassId) (k2 : ClassId) (cmS : Int32) (y0 : Int32) (y1 : Int32) (y2 : Int32) (y3 : Int32) (y4 : Int32) (y5 : Int32) (y6 : Int32) (h0 : Heap) (n0 : Nat) (v : Option Value) (h : Heap) (L : List Loc) : Prop := v = some (.int 1) ∧ Fr n0 L ∧ h = h0
set_option maxRecDepth 65536 in
set_option maxHeartbeats 40000000 in
theorem rm12_427 (l : Launch) (Z : State) (a0 : Array Value) (hw : ∀ d ∈ tables_1, d.before a0 Z = true) (ws : List Jvm.Cond) (a1 : Addr) (a2 : Addr) (b1 : Addr) (b2 : Addr) (k1 : ClassId) (k2 : ClassId) (cmS : Int32) (y0 : Int32) (y1 : Int32) (y2 : Int32) (y3 : Int32) (y4 : Int32) (y5 : Int32) (y6 : Int32) (h0 : Heap) (n0 : Nat) (Z0 : n0 ≤ h0.size) (O0 : Old Z n0 h0) (SC : Sta Z Z.heap "java/lang/String" "COMPACT_STRINGS" "Z" (.int cmS)) (cs0 : cmS ≠ 0) (E1 : Exa Z h0 a1 "java/lang/String") (C1 : Fld Z h0 a1 "java/lang/String" "coder" "B" (.int (0 : Int32))) (F1 : Fld Z h0 a1 "java/lang/String" "value" "[B" (.ref b1)) (V1 : Arv Z h0 b1 k1 .byte (7 : Int32) [(.int y0), (.int y1), (.int y2), (.int y3), (.int y4), (.int y5), (.int y6)] (.int (0 : Int32))) (E2 : Exa Z h0 a2 "java/lang/String") (C2 : Fld Z h0 a2 "java/lang/String" "coder" "B" (.int (0 : Int32))) (F2 : Fld Z h0 a2 "java/lang/String" "value" "[B" (.ref b2)) (V2 : Arv Z h0 b2 k2 .byte (7 : Int32) [(.int y0), (.int y1), (.int y2), (.int y3), (.int y4), (.int y5), (.int y6)] (.int (0 : Int32))) :
    MetFree l (⟨"java/lang/String", "equals", "(Ljava/lang/Object;)Z"⟩ : MethodName) (head1 (Jvm.Cond.code (⟨"java/lang/String", "equals", "(Ljava/lang/Object;)Z"⟩ : MethodName) jdk_42_method_66_code 3 (some .boolean) :: ws) ({ frames := 1, cells := 0, slots := 0, locals := 14 } : Room)) (fun a U => a = #[(.ref a1), (.ref a2)] ∧ Z.Warmed39 U.vm ∧ U.heap = h0) (fun _ _ _ _ _ => True) (fun _ U o U' => ∃ v L, o = .returned v ∧ Q12_427 Z a1 a2 b1 b2 k1 k2 cmS y0 y1 y2 y3 y4 y5 y6 h0 n0 v U'.heap L ∧ FrameEnd U o U' L ({ frames := 1, cells := 0, slots := 0, locals := 14 } : Room).cells ({ frames := 1, cells := 0, slots := 0, locals := 14 } : Room).slots) := by
  refine MetFree.of_bodySF (plainFor_of_name pn_12) hisR ?_
  intro p e s m args below meth c s₁ Bd hml0 hP hK
  obtain ⟨rfl, hZ, hh⟩ := hP
  have hx := Bd.exec
  have hby := Bd.bytes
  have hml : c.maxLocals = 3 := hml0
  have hown : s.vm.findClass "java/lang/String" = some m.cls := findClass_of_methodNamed Bd.named
  have hnm := (name_of_methodNamed Bd.named Bd.method).1
  have hlocks : meth.locks = false := BodyLoose.notSynchronized Bd
  have X0 : Stand p l e ({ frames := 1, cells := 0, slots := 0, locals := 14 } : Room) s m #[(.ref a1), (.ref a2)] below meth c s₁ [] 0 0 := Stand.of_body Bd
  have e0 : s₁.heap = h0 := by rw [← hh, Bd.state]; rfl
  have N0 := Fr.nil n0
  show Goes p e below (s₁.setTop (entryFrame m #[(.ref a1), (.ref a2)] 3)) (Fin s (Q12_427 Z a1 a2 b1 b2 k1 k2 cmS y0 y1 y2 y3 y4 y5 y6 h0 n0) ({ frames := 1, cells := 0, slots := 0, locals := 14 } : Room).cells ({ frames := 1, cells := 0, slots := 0, locals := 14 } : Room).slots)
  refine Goes.of (fun t k => castTop (ef_12_427 m a1 a2) k) ?_
  show Goes p e below (s₁.setTop (mkF m 0 #[.val (.ref a1), .val (.ref a2), .unset] [])) _
  refine Goes.of (fun t k => XS.aloadN X0.here hx rfl (hb hby d12_0) rfl rfl k) ?_
  show Goes p e below (s₁.setTop (mkF m 1 #[.val (.ref a1), .val (.ref a2), .unset] [(.ref a1)])) _
  refine Goes.of (fun t k => XS.aloadN X0.here hx rfl (hb hby d12_1) rfl rfl k) ?_
  show Goes p e below (s₁.setTop (mkF m 2 #[.val (.ref a1), .val (.ref a2), .unset] [(.ref a2), (.ref a1)])) _
  by_cases hc2_428 : a1 = a2
  · refine Goes.of (fun t k => Jvm.RoadKit.acmp (g := (mkF m 2 #[.val (.ref a1), .val (.ref a2), .unset] [(.ref a2), (.ref a1)])) X0 hx rfl rfl rfl (pc0 := 2) (pc' := 5) (same := true) rfl (hb hby d12_2) rfl (decide_eq_true (congrArg Value.ref hc2_428)) (by decide) (by decide) k) ?_
    show Goes p e below (s₁.setTop (mkF m 5 #[.val (.ref a1), .val (.ref a2), .unset] [])) _
    refine Goes.of (fun t k => XS.iconst X0.here hx rfl (hb hby d12_5) k) ?_
    show Goes p e below (s₁.setTop (mkF m 6 #[.val (.ref a1), .val (.ref a2), .unset] [(.int (1 : Int32))])) _
    exact Goes.retN (t := .boolean) X0 hx Bd.returns (by simp) hlocks (hb hby d12_6) (⟨rfl, N0, e0⟩) (by decide) (by decide)
  · refine Goes.of (fun t k => Jvm.RoadKit.acmp (g := (mkF m 2 #[.val (.ref a1), .val (.ref a2), .unset] [(.ref a2), (.ref a1)])) X0 hx rfl rfl rfl (pc0 := 2) (pc' := 7) (same := false) rfl (hb hby d12_2) rfl (decide_eq_false (fun q => hc2_428 (Value.ref.inj q))) (by decide) (by decide) k) ?_
    show Goes p e below (s₁.setTop (mkF m 7 #[.val (.ref a1), .val (.ref a2), .unset] [])) _
    refine Goes.of (fun t k => XS.aloadN X0.here hx rfl (hb hby d12_7) rfl rfl k) ?_
    show Goes p e below (s₁.setTop (mkF m 8 #[.val (.ref a1), .val (.ref a2), .unset] [(.ref a2)])) _
    obtain ⟨T429, X429, e429, st429⟩ := instY X0 hx hZ hown (wd hw 91 rfl) e0 (Ins.self E2) (g := (mkF m 8 #[.val (.ref a1), .val (.ref a2), .unset] [(.ref a2)])) rfl rfl (hb hby d12_8)
    refine Goes.of st429 ?_
    show Goes p e below (T429.setTop (mkF m 11 #[.val (.ref a1), .val (.ref a2), .unset] [(.int (1 : Int32))])) _
    refine Goes.of (fun t k => XS.ifNo X429.here hx rfl (hb hby d12_11) rfl ((if0 _ _).trans (feq (by decide)).1) k) ?_
    show Goes p e below (T429.setTop (mkF m 14 #[.val (.ref a1), .val (.ref a2), .unset] [])) _
    refine Goes.of (fun t k => XS.aloadN X429.here hx rfl (hb hby d12_14) rfl rfl k) ?_
    show Goes p e below (T429.setTop (mkF m 15 #[.val (.ref a1), .val (.ref a2), .unset] [(.ref a2)])) _
    obtain ⟨T430, X430, e430, st430⟩ := castY X429 hx hZ hown (wd hw 91 rfl) e429 (Ins.self E2) (g := (mkF m 15 #[.val (.ref a1), .val (.ref a2), .unset] [(.ref a2)])) rfl rfl (hb hby d12_15)
    refine Goes.of st430 ?_
    show Goes p e below (T430.setTop (mkF m 18 #[.val (.ref a1), .val (.ref a2), .unset] [(.ref a2)])) _
    refine Goes.of (fun t k => XS.astoreN X430.here hx rfl (hb hby d12_18) rfl rfl (l' := #[.val (.ref a1), .val (.ref a2), .val (.ref a2)]) rfl k) ?_
    obtain ⟨T431, X431, e431, st431⟩ := getS2 X430 hx hZ hown (host := "") (Or.inl (wd hw 93 rfl)) Via.refl e430 (SC.ext O0.2) (g := (mkF m 19 #[.val (.ref a1), .val (.ref a2), .val (.ref a2)] [])) rfl (hb hby d12_19)
    refine Goes.of st431 ?_
    show Goes p e below (T431.setTop (mkF m 22 #[.val (.ref a1), .val (.ref a2), .val (.ref a2)] [(.int cmS)])) _
    have hd22_432 : ¬ (cmS = (0 : Int32)) := cs0
    refine Goes.of (fun t k => XS.ifNo X431.here hx rfl (hb hby d12_22) rfl ((if0 _ _).trans (feq hd22_432).1) k) ?_
    show Goes p e below (T431.setTop (mkF m 25 #[.val (.ref a1), .val (.ref a2), .val (.ref a2)] [])) _
    refine Goes.of (fun t k => XS.aloadN X431.here hx rfl (hb hby d12_25) rfl rfl k) ?_
    obtain ⟨T433, X433, e433, st433⟩ := getF X431 hx hZ hown (host := "") (Or.inl (wd hw 94 rfl)) Via.refl e431 C1 (g := (mkF m 26 #[.val (.ref a1), .val (.ref a2), .val (.ref a2)] [(.ref a1)])) rfl rfl (hb hby d12_26)
    refine Goes.of st433 ?_
    show Goes p e below (T433.setTop (mkF m 29 #[.val (.ref a1), .val (.ref a2), .val (.ref a2)] [(.int (0 : Int32))])) _
    refine Goes.of (fun t k => XS.aloadN X433.here hx rfl (hb hby d12_29) rfl rfl k) ?_
    obtain ⟨T434, X434, e434, st434⟩ := getF X433 hx hZ hown (host := "") (Or.inl (wd hw 94 rfl)) Via.refl e433 C2 (g := (mkF m 30 #[.val (.ref a1), .val (.ref a2), .val (.ref a2)] [(.ref a2), (.int (0 : Int32))])) rfl rfl (hb hby d12_30)
    refine Goes.of st434 ?_
    show Goes p e below (T434.setTop (mkF m 33 #[.val (.ref a1), .val (.ref a2), .val (.ref a2)] [(.int (0 : Int32)), (.int (0 : Int32))])) _
    refine Goes.of (fun t k => XS.icmpNo X434.here hx rfl (hb hby d12_33) rfl (teq (by decide)).2 k) ?_
    show Goes p e below (T434.setTop (mkF m 36 #[.val (.ref a1), .val (.ref a2), .val (.ref a2)] [])) _
    refine Goes.of (fun t k => XS.aloadN X434.here hx rfl (hb hby d12_36) rfl rfl k) ?_
    obtain ⟨T435, X435, e435, st435⟩ := getF X434 hx hZ hown (host := "") (Or.inl (wd hw 95 rfl)) Via.refl e434 F1 (g := (mkF m 37 #[.val (.ref a1), .val (.ref a2), .val (.ref a2)] [(.ref a1)])) rfl rfl (hb hby d12_37)
    refine Goes.of st435 ?_
    show Goes p e below (T435.setTop (mkF m 40 #[.val (.ref a1), .val (.ref a2), .val (.ref a2)] [(.ref b1)])) _
    refine Goes.of (fun t k => XS.aloadN X435.here hx rfl (hb hby d12_40) rfl rfl k) ?_
    obtain ⟨T436, X436, e436, st436⟩ := getF X435 hx hZ hown (host := "") (Or.inl (wd hw 95 rfl)) Via.refl e435 F2 (g := (mkF m 41 #[.val (.ref a1), .val (.ref a2), .val (.ref a2)] [(.ref a2), (.ref b1)])) rfl rfl (hb hby d12_41)
    refine Goes.of st436 ?_
    obtain ⟨_, _, ⟨T437, L437, k437, n437⟩, -, X437, ⟨Lc437, hQ437, l437, y437, z437⟩, st437⟩ := Jvm.LawKit.callS X436 hx (y := (⟨"java/lang/StringLatin1", "equals", "([B[B)Z"⟩ : MethodName)) hown (mvT hZ (wd hw 96 rfl)) (mvT hZ (wd hw 97 rfl)) (mvT hZ (wd hw 98 rfl)) (mvT hZ (wd hw 99 rfl)) (by decide) (backOf (W := 0) (rm13_367 l Z a0 hw [] b1 b2 k1 k2 y0 y1 y2 y3 y4 y5 y6 h0 n0 Z0 V1 V2) hZ (wd hw 99 rfl) (wd hw 98 rfl) (by decide) (by decide)) (g := (mkF m 44 #[.val (.ref a1), .val (.ref a2), .val (.ref a2)] [(.ref b2), (.ref b1)])) rfl (by rw [hml]; rfl) (argsL := [(.ref b1), (.ref b2)]) (rest := []) (lenOf pd_13 rfl) rfl (by show 2 * 0 + _ ≤ _; exact Nat.le_of_eq rfl) (hb hby d12_44) (fun _ _ => ⟨rfl, e436, (by decide : 0 + 0 ≤ _), (by decide : 0 + 0 ≤ _)⟩)
    dsimp only [Pt.U, Pt.locs, Pt.cells, Pt.slots] at X437 l437 y437 z437 st437 hQ437
    subst l437 y437 z437
    obtain ⟨rfl, N437q, e437⟩ := hQ437
    have N437 := Fr.app N0 N437q
    refine Goes.of st437 ?_
    show Goes p e below (T437.setTop (mkF m 47 #[.val (.ref a1), .val (.ref a2), .val (.ref a2)] [(.int (1 : Int32))])) _
    refine Goes.of (fun t k => XS.ifNo X437.here hx rfl (hb hby d12_47) rfl ((if0 _ _).trans (feq (by decide)).1) k) ?_
    show Goes p e below (T437.setTop (mkF m 50 #[.val (.ref a1), .val (.ref a2), .val (.ref a2)] [])) _
    refine Goes.of (fun t k => XS.iconst X437.here hx rfl (hb hby d12_50) k) ?_
    show Goes p e below (T437.setTop (mkF m 51 #[.val (.ref a1), .val (.ref a2), .val (.ref a2)] [(.int (1 : Int32))])) _
    refine Goes.of (fun t k => XS.goto X437.here hx rfl (pc0 := 51) (pc' := 55) rfl (hb hby d12_51) (by decide) (by decide) k) ?_
    show Goes p e below (T437.setTop (mkF m 55 #[.val (.ref a1), .val (.ref a2), .val (.ref a2)] [(.int (1 : Int32))])) _
    exact Goes.retN (t := .boolean) X437 hx Bd.returns (by simp) hlocks (hb hby d12_55) (⟨rfl, N437, e437⟩) (by decide) (by decide)
theorem ef_1 (m : MethodId) (x0 : Addr) (x1 : Int32) : entryFrame m #[(.ref x0), (.int x1)] 2 = mkF m 0 #[.val (.ref x0), .val (.int x1)] [] := by first | (simp [entryFrame, mkF, argsToLocals, Value.category]; done) | rfl
def Q1 (Z : State) (a1 : Addr) (sc : Addr) (h0 : Heap) (n0 : Nat) (v : Option Value) (h : Heap) (L : List Loc) : Prop := ∃ (b d : Addr) (k : ClassId) (s0 t0 : Addr) (u0 : ClassId) (s1 t1 : Addr) (u1 : ClassId), v = some (.ref b) ∧ Fr n0 L ∧ Keep h0 h [] ∧ Exa Z h b "java/util/ImmutableCollections$ListN" ∧ Fld Z h b "java/util/ImmutableCollections$ListN" "elements" "[Ljava/lang/Object;" (.ref d) ∧ Arv Z h d k (.object "java/lang/Object") (3 : Int32) [(.ref sc), (.ref s0), (.ref s1)] .null ∧ Exa Z h s0 "java/lang/String" ∧ Fld Z h s0 "java/lang/String" "coder" "B" (.int (0 : Int32)) ∧ Fld Z h s0 "java/lang/String" "value" "[B" (.ref t0) ∧ Arv Z h t0 u0 .byte (6 : Int32) [(.int (111 : Int32)), (.int (98 : Int32)), (.int (106 : Int32)), (.int (101 : Int32)), (.int (99 : Int32)), (.int (116 : Int32))] (.int (0 : Int32)) ∧ Exa Z h s1 "java/lang/String" ∧ Fld Z h s1 "java/lang/String" "coder" "B" (.int (0 : Int32)) ∧ Fld Z h s1 "java/lang/String" "value" "[B" (.ref t1) ∧ Arv Z h t1 u1 .byte (6 : Int32) [(.int (97 : Int32)), (.int (99 : Int32)), (.int (99 : Int32)), (.int (101 : Int32)), (.int (115 : Int32)), (.int (115 : Int32))] (.int (0 : Int32))
set_option maxRecDepth 65536 in
set_option maxHeartbeats 40000000 in
theorem rm1 (l : Launch) (Z : State) (a0 : Array Value) (hw : ∀ d ∈ tables_1, d.before a0 Z = true) (ws : List Jvm.Cond) (a1 : Addr) (sc : Addr) (h0 : Heap) (n0 : Nat) (Z0 : n0 ≤ h0.size) (O0 : Old Z n0 h0) (SA : Sta Z Z.heap "java/util/ImmutableCollections" "$assertionsDisabled" "Z" (.int 1)) (F : Fld Z h0 a1 "com/example/leaklint/leaklint/GrantListHeader" "subjectColumn" "Ljava/lang/String;" (.ref sc)) (E : Exa Z h0 sc "java/lang/String") :
    MetFree l (⟨"com/example/leaklint/leaklint/GrantListHeader", "fields", "(Z)Ljava/util/List;"⟩ : MethodName) (head1 (Jvm.Cond.code (⟨"com/example/leaklint/leaklint/GrantListHeader", "fields", "(Z)Ljava/util/List;"⟩ : MethodName) prog_13_method_5_code 2 (some (.object "java/util/List")) :: ws) ({ frames := 7, cells := 6, slots := 61, locals := 94 } : Room)) (fun a U => a = #[(.ref a1), (.int (0 : Int32))] ∧ Z.Warmed39 U.vm ∧ U.heap = h0 ∧ CHv Z consts_1 U.vm h0) (fun _ _ _ _ _ => True) (fun _ U o U' => ∃ v L, o = .returned v ∧ Q1 Z a1 sc h0 n0 v U'.heap L ∧ CHr Z consts_1 U.vm U.heap U'.vm U'.heap ∧ ReturnedEndW U o U' L ({ frames := 7, cells := 6, slots := 61, locals := 94 } : Room).cells ({ frames := 7, cells := 6, slots := 61, locals := 94 } : Room).slots) := by
  refine MetFree.of_bodySF (plainFor_of_name pn_14) hisR ?_
  intro p e s m args below meth c s₁ Bd hml0 hP hK
  obtain ⟨rfl, hZ, hh, hCH0⟩ := hP
  have hx := Bd.exec
  have hby := Bd.bytes
  have hml : c.maxLocals = 2 := hml0
  have hown : s.vm.findClass "com/example/leaklint/leaklint/GrantListHeader" = some m.cls := findClass_of_methodNamed Bd.named
  have hnm := (name_of_methodNamed Bd.named Bd.method).1
  have hlocks : meth.locks = false := BodyLoose.notSynchronized Bd
  have X0 : Stand p l e ({ frames := 7, cells := 6, slots := 61, locals := 94 } : Room) s m #[(.ref a1), (.int (0 : Int32))] below meth c s₁ [] 0 0 := Stand.of_body Bd
  have e0 : s₁.heap = h0 := by rw [← hh, Bd.state]; rfl
  have N0 := Fr.nil n0
  show Goes p e below (s₁.setTop (entryFrame m #[(.ref a1), (.int (0 : Int32))] 2)) (FinH Z consts_1 s (Q1 Z a1 sc h0 n0) ({ frames := 7, cells := 6, slots := 61, locals := 94 } : Room).cells ({ frames := 7, cells := 6, slots := 61, locals := 94 } : Room).slots)
  refine Goes.of (fun t k => castTop (ef_1 m a1 (0 : Int32)) k) ?_
  have X0 : Stand p l e ({ frames := 7, cells := 6, slots := 61, locals := 94 } : Room) (s.setVm s.vm) m #[(.ref a1), (.int (0 : Int32))] below meth c s₁ [] 0 0 := X0
  have hS0 : s.Since s.vm 0 := (State.WarmedH.refl s).since 0
  have kS0 : 0 ≤ h0.size := Nat.zero_le _
  have hZ : Z.Warmed39 (s.setVm s.vm).vm := hZ
  have hown : (s.setVm s.vm).vm.findClass "com/example/leaklint/leaklint/GrantListHeader" = some m.cls := hown
  have C0 : CHr Z consts_1 s.vm h0 s.vm h0 := CHr.refl hCH0
  have K0 : Keep h0 h0 [] := Keep.refl _ _
  show Goes p e below (s₁.setTop (mkF m 0 #[.val (.ref a1), .val (.int (0 : Int32))] [])) _
  refine Goes.of (fun t k => XS.iloadN X0.here hx rfl (hb hby d1_0) rfl k) ?_
  show Goes p e below (s₁.setTop (mkF m 1 #[.val (.ref a1), .val (.int (0 : Int32))] [(.int (0 : Int32))])) _
  refine Goes.of (fun t k => XS.ifYes X0.here hx rfl (pc0 := 1) (pc' := 18) rfl (hb hby d1_1) rfl ((if0 _ _).trans (teq (by decide)).1) (by decide) (by decide) k) ?_
  show Goes p e below (s₁.setTop (mkF m 18 #[.val (.ref a1), .val (.int (0 : Int32))] [])) _
  refine Goes.of (fun t k => XS.aloadN X0.here hx rfl (hb hby d1_18) rfl rfl k) ?_
  obtain ⟨T438, X438, e438, st438⟩ := getF X0 hx hZ hown (host := "") (Or.inl (wd hw 8 rfl)) Via.refl e0 F (g := (mkF m 19 #[.val (.ref a1), .val (.int (0 : Int32))] [(.ref a1)])) rfl rfl (hb hby d1_19)
  refine Goes.of st438 ?_
  show Goes p e below (T438.setTop (mkF m 22 #[.val (.ref a1), .val (.int (0 : Int32))] [(.ref sc)])) _
  obtain ⟨a439, T439, h439, k439, b439, c439, X439, e439, E439, hS439, kS439, hZ, hown, S439, F439c, F439v, V439, -, -, C439, -, ne439, st439⟩ := ldcCH (EL := consts_1) X438 hx hZ hown (wd hw 10 rfl) (own_wS hw) e438 hS0 kS0 (own_EW hw) (by decide) C0.1 (vs := [(.int (111 : Int32)), (.int (98 : Int32)), (.int (106 : Int32)), (.int (101 : Int32)), (.int (99 : Int32)), (.int (116 : Int32))]) (z := (6 : Int32)) ⟨by decide, by rfl⟩ (by decide) (by decide) (g := (mkF m 22 #[.val (.ref a1), .val (.int (0 : Int32))] [(.ref sc)])) rfl (hb hby d1_22) (n := 24) (by decide) (by decide) (by decide) (by decide)
  have C440 := C0.trans C439
  have z441 := Nat.le_trans Z0 E439.1
  have z442 := Nat.le_trans kS0 E439.1
  have f443 := O0.ext E439
  have f444 := F.ext E439
  have f445 := E.ext E439
  have K446 : Keep h0 h439 [] := K0.ext E439
  refine Goes.of st439 ?_
  show Goes p e below (T439.setTop (mkF m 24 #[.val (.ref a1), .val (.int (0 : Int32))] [(.ref a439), (.ref sc)])) _
  obtain ⟨a447, T447, h447, k447, b447, c447, X447, e447, E447, hS447, kS447, hZ, hown, S447, F447c, F447v, V447, -, -, C447, -, ne447, st447⟩ := ldcCH (EL := consts_1) X439 hx hZ hown (wd hw 18 rfl) (own_wS hw) e439 hS439 kS439 (own_EW hw) (by decide) C440.1 (vs := [(.int (97 : Int32)), (.int (99 : Int32)), (.int (99 : Int32)), (.int (101 : Int32)), (.int (115 : Int32)), (.int (115 : Int32))]) (z := (6 : Int32)) ⟨by decide, by rfl⟩ (by decide) (by decide) (g := (mkF m 24 #[.val (.ref a1), .val (.int (0 : Int32))] [(.ref a439), (.ref sc)])) rfl (hb hby d1_24) (n := 24) (by decide) (by decide) (by decide) (by decide)
  have C448 := C440.trans C447
  have z449 := Nat.le_trans z441 E447.1
  have z450 := Nat.le_trans kS439 E447.1
  have f451 := f443.ext E447
  have f452 := f444.ext E447
  have f453 := f445.ext E447
  have f454 := S439.ext E447
  have f455 := F439c.ext E447
  have f456 := F439v.ext E447
  have f457 := V439.ext E447
  have K458 : Keep h0 h447 [] := K446.ext E447
  refine Goes.of st447 ?_
  obtain ⟨_, _, ⟨T459, L459, k459, n459⟩, -, X459, ⟨Lc459, hQ459, l459, y459, z459⟩, st459⟩ := Jvm.LawKit.callS X447 hx (y := (⟨"java/util/List", "of", "(Ljava/lang/Object;Ljava/lang/Object;Ljava/lang/Object;)Ljava/util/List;"⟩ : MethodName)) hown (mvT hZ (wd hw 103 rfl)) (mvT hZ (wd hw 104 rfl)) (mvT hZ (wd hw 22 rfl)) (mvT hZ (wd hw 105 rfl)) (by decide) (backOf (W := 0) (rm14 l Z a0 hw [] sc a439 a447  h447 n0 z449 f451 SA f453 f454 S447) hZ (wd hw 105 rfl) (wd hw 22 rfl) (by decide) (by decide)) (g := (mkF m 26 #[.val (.ref a1), .val (.int (0 : Int32))] [(.ref a447), (.ref a439), (.ref sc)])) rfl (by rw [hml]; rfl) (argsL := [(.ref sc), (.ref a439), (.ref a447)]) (rest := []) (lenOf pd_15 rfl) rfl (by show 2 * 0 + _ ≤ _; exact Nat.le_of_eq rfl) (hb hby d1_26) (fun _ _ => ⟨rfl, e447, (by decide : 4 + 2 ≤ _), (by decide : 56 + 5 ≤ _)⟩)
  dsimp only [Pt.U, Pt.locs, Pt.cells, Pt.slots] at X459 l459 y459 z459 st459 hQ459
  subst l459 y459 z459
  obtain ⟨b459, d459, q459, rfl, N459q, K459, E459, F459, V459⟩ := hQ459
  have N459 := Fr.app N0 N459q
  have K460 : Keep h0 T459.heap [] := K458.trans K459 all0
  have z461 := Nat.le_trans z449 K459.1
  have z462 := Nat.le_trans kS447 K459.1
  have C463 := C448.trans (CHr.keep K459 sf0 C448.1)
  have f464 := f451.keep K459 all0
  have f465 := f452.keep K459 nin0
  have f466 := f453.keep K459
  have f467 := f454.keep K459
  have f468 := f455.keep K459 nin0
  have f469 := f456.keep K459 nin0
  have f470 := f457.keep K459 nin0
  have f471 := S447.keep K459
  have f472 := F447c.keep K459 nin0
  have f473 := F447v.keep K459 nin0
  have f474 := V447.keep K459 nin0
  refine Goes.of st459 ?_
  show Goes p e below (T459.setTop (mkF m 29 #[.val (.ref a1), .val (.int (0 : Int32))] [(.ref b459)])) _
  have eh : T459.heap = T459.heap := rfl
  have eh : T459.heap = T459.heap := rfl
  have hCH : CHr Z consts_1 s.vm s.heap T459.vm T459.heap := by rw [eh, hh]; exact C463.trans (CHv.at X459 hZ (own_EW hw) C463.1)
  exact Goes.retAH X459 hS447 z462 hx (by rfl) Bd.returns (by rfl) hlocks (hb hby d1_29) (⟨b459, d459, _, a439, b439, _, a447, b447, _, rfl, N459, by rw [eh]; exact K460, by rw [eh]; exact E459, by rw [eh]; exact F459, by rw [eh]; exact V459, by rw [eh]; exact f467, by rw [eh]; exact f468, by rw [eh]; exact f469, by rw [eh]; exact f470, by rw [eh]; exact f471, by rw [eh]; exact f472, by rw [eh]; exact f473, by rw [eh]; exact f474⟩) (hCH) (by decide) (by decide)
theorem ef_1_475 (m : MethodId) (x0 : Addr) (x1 : Int32) : entryFrame m #[(.ref x0), (.int x1)] 2 = mkF m 0 #[.val (.ref x0), .val (.int x1)] [] := by first | (simp [entryFrame, mkF, argsToLocals, Value.category]; done) | rfl
def Q1_475 (Z : State) (a1 : Addr) (sc : Addr) (h0 : Heap) (n0 : Nat) (v : Option Value) (h : Heap) (L : List Loc) : Prop := ∃ (b d : Addr) (k : ClassId) (s0 t0 : Addr) (u0 : ClassId) (s1 t1 : Addr) (u1 : ClassId) (s2 t2 : Addr) (u2 : ClassId), v = some (.ref b) ∧ Fr n0 L ∧ Keep h0 h [] ∧ Exa Z h b "java/util/ImmutableCollections$ListN" ∧ Fld Z h b "java/util/ImmutableCollections$ListN" "elements" "[Ljava/lang/Object;" (.ref d) ∧ Arv Z h d k (.object "java/lang/Object") (4 : Int32) [(.ref sc), (.ref s0), (.ref s1), (.ref s2)] .null ∧ Exa Z h s0 "java/lang/String" ∧ Fld Z h s0 "java/lang/String" "coder" "B" (.int (0 : Int32)) ∧ Fld Z h s0 "java/lang/String" "value" "[B" (.ref t0) ∧ Arv Z h t0 u0 .byte (6 : Int32) [(.int (111 : Int32)), (.int (98 : Int32)), (.int (106 : Int32)), (.int (101 : Int32)), (.int (99 : Int32)), (.int (116 : Int32))] (.int (0 : Int32)) ∧ Exa Z h s1 "java/lang/String" ∧ Fld Z h s1 "java/lang/String" "coder" "B" (.int (0 : Int32)) ∧ Fld Z h s1 "java/lang/String" "value" "[B" (.ref t1) ∧ Arv Z h t1 u1 .byte (6 : Int32) [(.int (97 : Int32)), (.int (99 : Int32)), (.int (99 : Int32)), (.int (101 : Int32)), (.int (115 : Int32)), (.int (115 : Int32))] (.int (0 : Int32)) ∧ Exa Z h s2 "java/lang/String" ∧ Fld Z h s2 "java/lang/String" "coder" "B" (.int (0 : Int32)) ∧ Fld Z h s2 "java/lang/String" "value" "[B" (.ref t2) ∧ Arv Z h t2 u2 .byte (7 : Int32) [(.int (116 : Int32)), (.int (114 : Int32)), (.int (117 : Int32)), (.int (115 : Int32)), (.int (116 : Int32)), (.int (101 : Int32)), (.int (100 : Int32))] (.int (0 : Int32))
set_option maxRecDepth 65536 in
set_option maxHeartbeats 40000000 in
theorem rm1_475 (l : Launch) (Z : State) (a0 : Array Value) (hw : ∀ d ∈ tables_1, d.before a0 Z = true) (ws : List Jvm.Cond) (a1 : Addr) (sc : Addr) (h0 : Heap) (n0 : Nat) (Z0 : n0 ≤ h0.size) (O0 : Old Z n0 h0) (SA : Sta Z Z.heap "java/util/ImmutableCollections" "$assertionsDisabled" "Z" (.int 1)) (F : Fld Z h0 a1 "com/example/leaklint/leaklint/GrantListHeader" "subjectColumn" "Ljava/lang/String;" (.ref sc)) (E : Exa Z h0 sc "java/lang/String") :
    MetFree l (⟨"com/example/leaklint/leaklint/GrantListHeader", "fields", "(Z)Ljava/util/List;"⟩ : MethodName) (head1 (Jvm.Cond.code (⟨"com/example/leaklint/leaklint/GrantListHeader", "fields", "(Z)Ljava/util/List;"⟩ : MethodName) prog_13_method_5_code 2 (some (.object "java/util/List")) :: ws) ({ frames := 7, cells := 8, slots := 94, locals := 94 } : Room)) (fun a U => a = #[(.ref a1), (.int (1 : Int32))] ∧ Z.Warmed39 U.vm ∧ U.heap = h0 ∧ CHv Z consts_1 U.vm h0) (fun _ _ _ _ _ => True) (fun _ U o U' => ∃ v L, o = .returned v ∧ Q1_475 Z a1 sc h0 n0 v U'.heap L ∧ CHr Z consts_1 U.vm U.heap U'.vm U'.heap ∧ ReturnedEndW U o U' L ({ frames := 7, cells := 8, slots := 94, locals := 94 } : Room).cells ({ frames := 7, cells := 8, slots := 94, locals := 94 } : Room).slots) := by
  refine MetFree.of_bodySF (plainFor_of_name pn_14) hisR ?_
  intro p e s m args below meth c s₁ Bd hml0 hP hK
  obtain ⟨rfl, hZ, hh, hCH0⟩ := hP
  have hx := Bd.exec
  have hby := Bd.bytes
  have hml : c.maxLocals = 2 := hml0
  have hown : s.vm.findClass "com/example/leaklint/leaklint/GrantListHeader" = some m.cls := findClass_of_methodNamed Bd.named
  have hnm := (name_of_methodNamed Bd.named Bd.method).1
  have hlocks : meth.locks = false := BodyLoose.notSynchronized Bd
  have X0 : Stand p l e ({ frames := 7, cells := 8, slots := 94, locals := 94 } : Room) s m #[(.ref a1), (.int (1 : Int32))] below meth c s₁ [] 0 0 := Stand.of_body Bd
  have e0 : s₁.heap = h0 := by rw [← hh, Bd.state]; rfl
  have N0 := Fr.nil n0
  show Goes p e below (s₁.setTop (entryFrame m #[(.ref a1), (.int (1 : Int32))] 2)) (FinH Z consts_1 s (Q1_475 Z a1 sc h0 n0) ({ frames := 7, cells := 8, slots := 94, locals := 94 } : Room).cells ({ frames := 7, cells := 8, slots := 94, locals := 94 } : Room).slots)
  refine Goes.of (fun t k => castTop (ef_1_475 m a1 (1 : Int32)) k) ?_
  have X0 : Stand p l e ({ frames := 7, cells := 8, slots := 94, locals := 94 } : Room) (s.setVm s.vm) m #[(.ref a1), (.int (1 : Int32))] below meth c s₁ [] 0 0 := X0
  have hS0 : s.Since s.vm 0 := (State.WarmedH.refl s).since 0
  have kS0 : 0 ≤ h0.size := Nat.zero_le _
  have hZ : Z.Warmed39 (s.setVm s.vm).vm := hZ
  have hown : (s.setVm s.vm).vm.findClass "com/example/leaklint/leaklint/GrantListHeader" = some m.cls := hown
  have C0 : CHr Z consts_1 s.vm h0 s.vm h0 := CHr.refl hCH0
  have K0 : Keep h0 h0 [] := Keep.refl _ _
  show Goes p e below (s₁.setTop (mkF m 0 #[.val (.ref a1), .val (.int (1 : Int32))] [])) _
  refine Goes.of (fun t k => XS.iloadN X0.here hx rfl (hb hby d1_0) rfl k) ?_
  show Goes p e below (s₁.setTop (mkF m 1 #[.val (.ref a1), .val (.int (1 : Int32))] [(.int (1 : Int32))])) _
  refine Goes.of (fun t k => XS.ifNo X0.here hx rfl (hb hby d1_1) rfl ((if0 _ _).trans (feq (by decide)).1) k) ?_
  show Goes p e below (s₁.setTop (mkF m 4 #[.val (.ref a1), .val (.int (1 : Int32))] [])) _
  refine Goes.of (fun t k => XS.aloadN X0.here hx rfl (hb hby d1_4) rfl rfl k) ?_
  obtain ⟨T476, X476, e476, st476⟩ := getF X0 hx hZ hown (host := "") (Or.inl (wd hw 8 rfl)) Via.refl e0 F (g := (mkF m 5 #[.val (.ref a1), .val (.int (1 : Int32))] [(.ref a1)])) rfl rfl (hb hby d1_5)
  refine Goes.of st476 ?_
  show Goes p e below (T476.setTop (mkF m 8 #[.val (.ref a1), .val (.int (1 : Int32))] [(.ref sc)])) _
  obtain ⟨a477, T477, h477, k477, b477, c477, X477, e477, E477, hS477, kS477, hZ, hown, S477, F477c, F477v, V477, -, -, C477, -, ne477, st477⟩ := ldcCH (EL := consts_1) X476 hx hZ hown (wd hw 10 rfl) (own_wS hw) e476 hS0 kS0 (own_EW hw) (by decide) C0.1 (vs := [(.int (111 : Int32)), (.int (98 : Int32)), (.int (106 : Int32)), (.int (101 : Int32)), (.int (99 : Int32)), (.int (116 : Int32))]) (z := (6 : Int32)) ⟨by decide, by rfl⟩ (by decide) (by decide) (g := (mkF m 8 #[.val (.ref a1), .val (.int (1 : Int32))] [(.ref sc)])) rfl (hb hby d1_8) (n := 24) (by decide) (by decide) (by decide) (by decide)
  have C478 := C0.trans C477
  have z479 := Nat.le_trans Z0 E477.1
  have z480 := Nat.le_trans kS0 E477.1
  have f481 := O0.ext E477
  have f482 := F.ext E477
  have f483 := E.ext E477
  have K484 : Keep h0 h477 [] := K0.ext E477
  refine Goes.of st477 ?_
  show Goes p e below (T477.setTop (mkF m 10 #[.val (.ref a1), .val (.int (1 : Int32))] [(.ref a477), (.ref sc)])) _
  obtain ⟨a485, T485, h485, k485, b485, c485, X485, e485, E485, hS485, kS485, hZ, hown, S485, F485c, F485v, V485, -, -, C485, -, ne485, st485⟩ := ldcCH (EL := consts_1) X477 hx hZ hown (wd hw 18 rfl) (own_wS hw) e477 hS477 kS477 (own_EW hw) (by decide) C478.1 (vs := [(.int (97 : Int32)), (.int (99 : Int32)), (.int (99 : Int32)), (.int (101 : Int32)), (.int (115 : Int32)), (.int (115 : Int32))]) (z := (6 : Int32)) ⟨by decide, by rfl⟩ (by decide) (by decide) (g := (mkF m 10 #[.val (.ref a1), .val (.int (1 : Int32))] [(.ref a477), (.ref sc)])) rfl (hb hby d1_10) (n := 24) (by decide) (by decide) (by decide) (by decide)
  have C486 := C478.trans C485
  have z487 := Nat.le_trans z479 E485.1
  have z488 := Nat.le_trans kS477 E485.1
  have f489 := f481.ext E485
  have f490 := f482.ext E485
  have f491 := f483.ext E485
  have f492 := S477.ext E485
  have f493 := F477c.ext E485
  have f494 := F477v.ext E485
  have f495 := V477.ext E485
  have K496 : Keep h0 h485 [] := K484.ext E485
  refine Goes.of st485 ?_
  show Goes p e below (T485.setTop (mkF m 12 #[.val (.ref a1), .val (.int (1 : Int32))] [(.ref a485), (.ref a477), (.ref sc)])) _
  obtain ⟨a497, T497, h497, k497, b497, c497, X497, e497, E497, hS497, kS497, hZ, hown, S497, F497c, F497v, V497, -, -, C497, -, ne497, st497⟩ := ldcCH (EL := consts_1) X485 hx hZ hown (wd hw 19 rfl) (own_wS hw) e485 hS485 kS485 (own_EW hw) (by decide) C486.1 (vs := [(.int (116 : Int32)), (.int (114 : Int32)), (.int (117 : Int32)), (.int (115 : Int32)), (.int (116 : Int32)), (.int (101 : Int32)), (.int (100 : Int32))]) (z := (7 : Int32)) ⟨by decide, by rfl⟩ (by decide) (by decide) (g := (mkF m 12 #[.val (.ref a1), .val (.int (1 : Int32))] [(.ref a485), (.ref a477), (.ref sc)])) rfl (hb hby d1_12) (n := 28) (by decide) (by decide) (by decide) (by decide)
  have C498 := C486.trans C497
  have z499 := Nat.le_trans z487 E497.1
  have z500 := Nat.le_trans kS485 E497.1
  have f501 := f489.ext E497
  have f502 := f490.ext E497
  have f503 := f491.ext E497
  have f504 := f492.ext E497
  have f505 := f493.ext E497
  have f506 := f494.ext E497
  have f507 := f495.ext E497
  have f508 := S485.ext E497
  have f509 := F485c.ext E497
  have f510 := F485v.ext E497
  have f511 := V485.ext E497
  have K512 : Keep h0 h497 [] := K496.ext E497
  refine Goes.of st497 ?_
  obtain ⟨_, _, ⟨T513, L513, k513, n513⟩, -, X513, ⟨Lc513, hQ513, l513, y513, z513⟩, st513⟩ := Jvm.LawKit.callS X497 hx (y := (⟨"java/util/List", "of", "(Ljava/lang/Object;Ljava/lang/Object;Ljava/lang/Object;Ljava/lang/Object;)Ljava/util/List;"⟩ : MethodName)) hown (mvT hZ (wd hw 20 rfl)) (mvT hZ (wd hw 21 rfl)) (mvT hZ (wd hw 22 rfl)) (mvT hZ (wd hw 23 rfl)) (by decide) (backOf (W := 0) (rm2 l Z a0 hw [] sc a477 a485 a497  h497 n0 z499 f501 SA f503 f504 f508 S497) hZ (wd hw 23 rfl) (wd hw 22 rfl) (by decide) (by decide)) (g := (mkF m 14 #[.val (.ref a1), .val (.int (1 : Int32))] [(.ref a497), (.ref a485), (.ref a477), (.ref sc)])) rfl (by rw [hml]; rfl) (argsL := [(.ref sc), (.ref a477), (.ref a485), (.ref a497)]) (rest := []) (lenOf pd_16 rfl) rfl (by show 2 * 0 + _ ≤ _; exact Nat.le_of_eq rfl) (hb hby d1_14) (fun _ _ => ⟨rfl, e497, (by decide : 6 + 2 ≤ _), (by decide : 88 + 6 ≤ _)⟩)
  dsimp only [Pt.U, Pt.locs, Pt.cells, Pt.slots] at X513 l513 y513 z513 st513 hQ513
  subst l513 y513 z513
  obtain ⟨b513, d513, q513, rfl, N513q, K513, E513, F513, V513⟩ := hQ513
  have N513 := Fr.app N0 N513q
  have K514 : Keep h0 T513.heap [] := K512.trans K513 all0
  have z515 := Nat.le_trans z499 K513.1
  have z516 := Nat.le_trans kS497 K513.1
  have C517 := C498.trans (CHr.keep K513 sf0 C498.1)
  have f518 := f501.keep K513 all0
  have f519 := f502.keep K513 nin0
  have f520 := f503.keep K513
  have f521 := f504.keep K513
  have f522 := f505.keep K513 nin0
  have f523 := f506.keep K513 nin0
  have f524 := f507.keep K513 nin0
  have f525 := f508.keep K513
  have f526 := f509.keep K513 nin0
  have f527 := f510.keep K513 nin0
  have f528 := f511.keep K513 nin0
  have f529 := S497.keep K513
  have f530 := F497c.keep K513 nin0
  have f531 := F497v.keep K513 nin0
  have f532 := V497.keep K513 nin0
  refine Goes.of st513 ?_
  show Goes p e below (T513.setTop (mkF m 17 #[.val (.ref a1), .val (.int (1 : Int32))] [(.ref b513)])) _
  have eh : T513.heap = T513.heap := rfl
  have eh : T513.heap = T513.heap := rfl
  have hCH : CHr Z consts_1 s.vm s.heap T513.vm T513.heap := by rw [eh, hh]; exact C517.trans (CHv.at X513 hZ (own_EW hw) C517.1)
  exact Goes.retAH X513 hS497 z516 hx (by rfl) Bd.returns (by rfl) hlocks (hb hby d1_17) (⟨b513, d513, _, a477, b477, _, a485, b485, _, a497, b497, _, rfl, N513, by rw [eh]; exact K514, by rw [eh]; exact E513, by rw [eh]; exact F513, by rw [eh]; exact V513, by rw [eh]; exact f521, by rw [eh]; exact f522, by rw [eh]; exact f523, by rw [eh]; exact f524, by rw [eh]; exact f525, by rw [eh]; exact f526, by rw [eh]; exact f527, by rw [eh]; exact f528, by rw [eh]; exact f529, by rw [eh]; exact f530, by rw [eh]; exact f531, by rw [eh]; exact f532⟩) (hCH) (by decide) (by decide)
theorem ef_0 (m : MethodId) (x0 : Int32) (x1 : Int32) : entryFrame m #[(.int x0), (.int x1)] maxLocals = mkF m 0 #[.val (.int x0), .val (.int x1), .unset, .unset, .unset, .unset, .unset, .unset] [] := by first | (simp [entryFrame, mkF, argsToLocals, Value.category, maxLocals]; done) | rfl
def Q0 (Z : State) (p1 : Int32) (p2 : Int32) (aS : Addr) (cS : Addr) (bS : Addr) (kS : ClassId) (aR : Addr) (cR : Addr) (bR : Addr) (kR : ClassId) (cmS : Int32) (h0 : Heap) (n0 : Nat) (v : Option Value) (h : Heap) (L : List Loc) : Prop := v = some (.int 1) ∧ Fr n0 L
set_option maxRecDepth 65536 in
set_option maxHeartbeats 40000000 in
theorem rm0 (l : Launch) (Z : State) (a0 : Array Value) (hw : ∀ d ∈ tables_1, d.before a0 Z = true) (ws : List Jvm.Cond) (p1 : Int32) (p2 : Int32) (aS : Addr) (cS : Addr) (bS : Addr) (kS : ClassId) (aR : Addr) (cR : Addr) (bR : Addr) (kR : ClassId) (cmS : Int32) (h0 : Heap) (n0 : Nat) (Z0 : n0 ≤ h0.size) (O0 : Old Z n0 h0) (SA : Sta Z Z.heap "java/util/ImmutableCollections" "$assertionsDisabled" "Z" (.int 1)) (SC : Sta Z Z.heap "java/lang/String" "COMPACT_STRINGS" "Z" (.int cmS)) (cs0 : cmS ≠ 0) (SS : Sta Z Z.heap "com/example/leaklint/leaklint/GrantListHeader" "SUBJECT" "Lcom/example/leaklint/leaklint/GrantListHeader;" (.ref aS)) (XhS : Exa Z Z.heap aS "com/example/leaklint/leaklint/GrantListHeader") (YS : Fld Z Z.heap aS "com/example/leaklint/leaklint/GrantListHeader" "subjectColumn" "Ljava/lang/String;" (.ref cS)) (ES : Exa Z Z.heap cS "java/lang/String") (CS : Fld Z Z.heap cS "java/lang/String" "coder" "B" (.int (0 : Int32))) (FS : Fld Z Z.heap cS "java/lang/String" "value" "[B" (.ref bS)) (VS : Arv Z Z.heap bS kS .byte (7 : Int32) [(.int (115 : Int32)), (.int (117 : Int32)), (.int (98 : Int32)), (.int (106 : Int32)), (.int (101 : Int32)), (.int (99 : Int32)), (.int (116 : Int32))] (.int (0 : Int32))) (SR : Sta Z Z.heap "com/example/leaklint/leaklint/GrantListHeader" "ROLE" "Lcom/example/leaklint/leaklint/GrantListHeader;" (.ref aR)) (XhR : Exa Z Z.heap aR "com/example/leaklint/leaklint/GrantListHeader") (YR : Fld Z Z.heap aR "com/example/leaklint/leaklint/GrantListHeader" "subjectColumn" "Ljava/lang/String;" (.ref cR)) (ER : Exa Z Z.heap cR "java/lang/String") (CR : Fld Z Z.heap cR "java/lang/String" "coder" "B" (.int (0 : Int32))) (FR : Fld Z Z.heap cR "java/lang/String" "value" "[B" (.ref bR)) (VR : Arv Z Z.heap bR kR .byte (4 : Int32) [(.int (114 : Int32)), (.int (111 : Int32)), (.int (108 : Int32)), (.int (101 : Int32))] (.int (0 : Int32))) :
    MetFree l x (head1 (Jvm.Cond.code x code maxLocals ret :: ws) room_1) (fun a U => a = #[(.int p1), (.int p2)] ∧ Z.Warmed39 U.vm ∧ U.heap = h0 ∧ CHv Z consts_1 U.vm h0) (fun _ _ _ _ _ => True) (fun _ U o U' => ∃ v L, o = .returned v ∧ Q0 Z p1 p2 aS cS bS kS aR cR bR kR cmS h0 n0 v U'.heap L ∧ CHr Z consts_1 U.vm U.heap U'.vm U'.heap ∧ ReturnedEndW U o U' L room_1.cells room_1.slots) := by
  refine MetFree.of_bodySF (plainFor_of_name pn_17) hisR ?_
  intro p e s m args below meth c s₁ Bd hml0 hP hK
  obtain ⟨rfl, hZ, hh, hCH0⟩ := hP
  have hx := Bd.exec
  have hby := Bd.bytes
  have hml : c.maxLocals = 8 := hml0
  have hown : s.vm.findClass "com/example/leaklint/leaklint/GrantListHeaderFieldsPinLaw" = some m.cls := findClass_of_methodNamed Bd.named
  have hnm := (name_of_methodNamed Bd.named Bd.method).1
  have hlocks : meth.locks = false := BodyLoose.notSynchronized Bd
  have X0 : Stand p l e room_1 s m #[(.int p1), (.int p2)] below meth c s₁ [] 0 0 := Stand.of_body Bd
  have e0 : s₁.heap = h0 := by rw [← hh, Bd.state]; rfl
  have N0 := Fr.nil n0
  show Goes p e below (s₁.setTop (entryFrame m #[(.int p1), (.int p2)] maxLocals)) (FinH Z consts_1 s (Q0 Z p1 p2 aS cS bS kS aR cR bR kR cmS h0 n0) room_1.cells room_1.slots)
  refine Goes.of (fun t k => castTop (ef_0 m p1 p2) k) ?_
  have X0 : Stand p l e room_1 (s.setVm s.vm) m #[(.int p1), (.int p2)] below meth c s₁ [] 0 0 := X0
  have hS0 : s.Since s.vm 0 := (State.WarmedH.refl s).since 0
  have kS0 : 0 ≤ h0.size := Nat.zero_le _
  have hZ : Z.Warmed39 (s.setVm s.vm).vm := hZ
  have hown : (s.setVm s.vm).vm.findClass "com/example/leaklint/leaklint/GrantListHeaderFieldsPinLaw" = some m.cls := hown
  have C0 : CHr Z consts_1 s.vm h0 s.vm h0 := CHr.refl hCH0
  show Goes p e below (s₁.setTop (mkF m 0 #[.val (.int p1), .val (.int p2), .unset, .unset, .unset, .unset, .unset, .unset] [])) _
  refine Goes.of (fun t k => XS.iloadN X0.here hx rfl (hb hby at_0) rfl k) ?_
  show Goes p e below (s₁.setTop (mkF m 1 #[.val (.int p1), .val (.int p2), .unset, .unset, .unset, .unset, .unset, .unset] [(.int p1)])) _
  refine Goes.of (fun t k => XS.iconst X0.here hx rfl (hb hby at_1) k) ?_
  show Goes p e below (s₁.setTop (mkF m 2 #[.val (.int p1), .val (.int p2), .unset, .unset, .unset, .unset, .unset, .unset] [(.int (1 : Int32)), (.int p1)])) _
  refine Goes.of (fun t k => XS.iand X0.here hx rfl (hb hby at_2) rfl k) ?_
  show Goes p e below (s₁.setTop (mkF m 3 #[.val (.int p1), .val (.int p2), .unset, .unset, .unset, .unset, .unset, .unset] [(.int (p1 &&& (1 : Int32)))])) _
  by_cases hc3_533 : (p1 &&& (1 : Int32)) = (0 : Int32)
  · refine Goes.of (fun t k => XS.ifYes X0.here hx rfl (pc0 := 3) (pc' := 10) rfl (hb hby at_3) rfl ((if0 _ _).trans (teq hc3_533).1) (by decide) (by decide) k) ?_
    show Goes p e below (s₁.setTop (mkF m 10 #[.val (.int p1), .val (.int p2), .unset, .unset, .unset, .unset, .unset, .unset] [])) _
    refine Goes.of (fun t k => XS.iconst X0.here hx rfl (hb hby at_10) k) ?_
    show Goes p e below (s₁.setTop (mkF m 11 #[.val (.int p1), .val (.int p2), .unset, .unset, .unset, .unset, .unset, .unset] [(.int (0 : Int32))])) _
    refine Goes.of (fun t k => XS.istoreN X0.here hx rfl (hb hby at_11) rfl (l' := #[.val (.int p1), .val (.int p2), .val (.int (0 : Int32)), .unset, .unset, .unset, .unset, .unset]) rfl k) ?_
    show Goes p e below (s₁.setTop (mkF m 12 #[.val (.int p1), .val (.int p2), .val (.int (0 : Int32)), .unset, .unset, .unset, .unset, .unset] [])) _
    refine Goes.of (fun t k => XS.iloadN X0.here hx rfl (hb hby at_12) rfl k) ?_
    show Goes p e below (s₁.setTop (mkF m 13 #[.val (.int p1), .val (.int p2), .val (.int (0 : Int32)), .unset, .unset, .unset, .unset, .unset] [(.int p2)])) _
    refine Goes.of (fun t k => XS.iconst X0.here hx rfl (hb hby at_13) k) ?_
    show Goes p e below (s₁.setTop (mkF m 14 #[.val (.int p1), .val (.int p2), .val (.int (0 : Int32)), .unset, .unset, .unset, .unset, .unset] [(.int (1 : Int32)), (.int p2)])) _
    refine Goes.of (fun t k => XS.iand X0.here hx rfl (hb hby at_14) rfl k) ?_
    show Goes p e below (s₁.setTop (mkF m 15 #[.val (.int p1), .val (.int p2), .val (.int (0 : Int32)), .unset, .unset, .unset, .unset, .unset] [(.int (p2 &&& (1 : Int32)))])) _
    by_cases hc15_534 : (p2 &&& (1 : Int32)) = (0 : Int32)
    · refine Goes.of (fun t k => XS.ifYes X0.here hx rfl (pc0 := 15) (pc' := 22) rfl (hb hby at_15) rfl ((if0 _ _).trans (teq hc15_534).1) (by decide) (by decide) k) ?_
      show Goes p e below (s₁.setTop (mkF m 22 #[.val (.int p1), .val (.int p2), .val (.int (0 : Int32)), .unset, .unset, .unset, .unset, .unset] [])) _
      refine Goes.of (fun t k => XS.iconst X0.here hx rfl (hb hby at_22) k) ?_
      show Goes p e below (s₁.setTop (mkF m 23 #[.val (.int p1), .val (.int p2), .val (.int (0 : Int32)), .unset, .unset, .unset, .unset, .unset] [(.int (0 : Int32))])) _
      refine Goes.of (fun t k => XS.istoreN X0.here hx rfl (hb hby at_23) rfl (l' := #[.val (.int p1), .val (.int p2), .val (.int (0 : Int32)), .val (.int (0 : Int32)), .unset, .unset, .unset, .unset]) rfl k) ?_
      show Goes p e below (s₁.setTop (mkF m 24 #[.val (.int p1), .val (.int p2), .val (.int (0 : Int32)), .val (.int (0 : Int32)), .unset, .unset, .unset, .unset] [])) _
      refine Goes.of (fun t k => XS.iloadN X0.here hx rfl (hb hby at_24) rfl k) ?_
      show Goes p e below (s₁.setTop (mkF m 25 #[.val (.int p1), .val (.int p2), .val (.int (0 : Int32)), .val (.int (0 : Int32)), .unset, .unset, .unset, .unset] [(.int (0 : Int32))])) _
      refine Goes.of (fun t k => XS.ifYes X0.here hx rfl (pc0 := 25) (pc' := 34) rfl (hb hby at_25) rfl ((if0 _ _).trans (teq (by decide)).1) (by decide) (by decide) k) ?_
      obtain ⟨T535, X535, e535, st535⟩ := getS2 X0 hx hZ hown (host := "") (Or.inl (wd hw 0 rfl)) Via.refl e0 (SS.ext O0.2) (g := (mkF m 34 #[.val (.int p1), .val (.int p2), .val (.int (0 : Int32)), .val (.int (0 : Int32)), .unset, .unset, .unset, .unset] [])) rfl (hb hby at_34)
      refine Goes.of st535 ?_
      show Goes p e below (T535.setTop (mkF m 37 #[.val (.int p1), .val (.int p2), .val (.int (0 : Int32)), .val (.int (0 : Int32)), .unset, .unset, .unset, .unset] [(.ref aS)])) _
      refine Goes.of (fun t k => XS.astore X535.here hx rfl (hb hby at_37) rfl rfl (l' := #[.val (.int p1), .val (.int p2), .val (.int (0 : Int32)), .val (.int (0 : Int32)), .val (.ref aS), .unset, .unset, .unset]) rfl k) ?_
      show Goes p e below (T535.setTop (mkF m 39 #[.val (.int p1), .val (.int p2), .val (.int (0 : Int32)), .val (.int (0 : Int32)), .val (.ref aS), .unset, .unset, .unset] [])) _
      refine Goes.of (fun t k => XS.aload X535.here hx rfl (hb hby at_39) rfl rfl k) ?_
      show Goes p e below (T535.setTop (mkF m 41 #[.val (.int p1), .val (.int p2), .val (.int (0 : Int32)), .val (.int (0 : Int32)), .val (.ref aS), .unset, .unset, .unset] [(.ref aS)])) _
      refine Goes.of (fun t k => XS.iloadN X535.here hx rfl (hb hby at_41) rfl k) ?_
      obtain ⟨cq536, kq536, q536a, q536b, q536c⟩ := isOf hZ e535 (XhS.ext O0.2)
      obtain ⟨_, _, ⟨T536, L536, k536, n536⟩, -, X536, hS536, kS536, ⟨Lc536, hQ536, l536, y536, z536, cc536⟩, st536⟩ := X535.virtualBackS hx (y := (⟨"com/example/leaklint/leaklint/GrantListHeader", "fields", "(Z)Ljava/util/List;"⟩ : MethodName)) (z := (⟨"com/example/leaklint/leaklint/GrantListHeader", "fields", "(Z)Ljava/util/List;"⟩ : MethodName)) hown (mvT hZ (wd hw 3 rfl)) (mvT hZ (wd hw 4 rfl)) (notFace_of_selects (args := #[]) (mvT hZ (wd hw 6 rfl))) (mvT hZ (wd hw 6 rfl)) (mvT hZ (wd hw 5 rfl)) (by decide) (backOfSH (EL := consts_1) (vm0 := s.vm) (W := 0) (rm1 l Z a0 hw [] aS cS h0 n0 Z0 O0 SA (YS.ext O0.2) (ES.ext O0.2)) hZ (wd hw 7 rfl) (wd hw 1 rfl) (by decide) (by decide) (own_EW hw) C0.1) q536a q536c (g := (mkF m 42 #[.val (.int p1), .val (.int p2), .val (.int (0 : Int32)), .val (.int (0 : Int32)), .val (.ref aS), .unset, .unset, .unset] [(.int (0 : Int32)), (.ref aS)])) rfl (by rw [hml]; rfl) (Steps.refl _) (argsL := [(.int (0 : Int32))]) (rest := []) (lenOf pd_18 rfl) rfl (by show 2 * 0 + _ ≤ _; exact Nat.le_of_eq rfl) (hb hby at_42) (fun _ _ => ⟨rfl, e535, (by decide : 0 + 6 ≤ _), (by decide : 0 + 61 ≤ _)⟩)
      dsimp only [Pt.U, Pt.locs, Pt.cells, Pt.slots] at X536 l536 y536 z536 st536 hQ536 hS536 kS536 cc536
      subst l536 y536 z536
      obtain ⟨X536, hS536, hZ, hown⟩ := rebS hS0 (by rw [e535]; exact kS0) X536 hS536 kS536 hZ hown
      obtain ⟨b536, d536, q536, s0_536, t0_536, u0_536, s1_536, t1_536, u1_536, rfl, N536q, K536, E536, F536, V536, Es0_536, Cs0_536, Fs0_536, Vs0_536, Es1_536, Cs1_536, Fs1_536, Vs1_536⟩ := hQ536
      have N536 := Fr.app N0 N536q
      have C537 := C0.trans cc536
      have z538 := Nat.le_trans Z0 K536.1
      have z539 := Nat.le_trans kS0 K536.1
      have f540 := O0.keep K536 all0
      have kR536 : T536.heap.size ≤ T536.heap.size := Nat.le_refl _
      refine Goes.of (fun t k => st536.trans k) ?_
      show Goes p e below (T536.setTop (mkF m 45 #[.val (.int p1), .val (.int p2), .val (.int (0 : Int32)), .val (.int (0 : Int32)), .val (.ref aS), .unset, .unset, .unset] [(.ref b536)])) _
      refine Goes.of (fun t k => XS.astore X536.here hx rfl (hb hby at_45) rfl rfl (l' := #[.val (.int p1), .val (.int p2), .val (.int (0 : Int32)), .val (.int (0 : Int32)), .val (.ref aS), .val (.ref b536), .unset, .unset]) rfl k) ?_
      show Goes p e below (T536.setTop (mkF m 47 #[.val (.int p1), .val (.int p2), .val (.int (0 : Int32)), .val (.int (0 : Int32)), .val (.ref aS), .val (.ref b536), .unset, .unset] [])) _
      refine Goes.of (fun t k => XS.aload X536.here hx rfl (hb hby at_47) rfl rfl k) ?_
      show Goes p e below (T536.setTop (mkF m 49 #[.val (.int p1), .val (.int p2), .val (.int (0 : Int32)), .val (.int (0 : Int32)), .val (.ref aS), .val (.ref b536), .unset, .unset] [(.ref b536)])) _
      refine Goes.of (fun t k => XS.ifnonnullYes X536.here hx rfl (pc0 := 49) (pc' := 54) rfl (hb hby at_49) rfl (by decide) (by decide) k) ?_
      show Goes p e below (T536.setTop (mkF m 54 #[.val (.int p1), .val (.int p2), .val (.int (0 : Int32)), .val (.int (0 : Int32)), .val (.ref aS), .val (.ref b536), .unset, .unset] [])) _
      refine Goes.of (fun t k => XS.iloadN X536.here hx rfl (hb hby at_54) rfl k) ?_
      show Goes p e below (T536.setTop (mkF m 55 #[.val (.int p1), .val (.int p2), .val (.int (0 : Int32)), .val (.int (0 : Int32)), .val (.ref aS), .val (.ref b536), .unset, .unset] [(.int (0 : Int32))])) _
      refine Goes.of (fun t k => XS.ifYes X536.here hx rfl (pc0 := 55) (pc' := 62) rfl (hb hby at_55) rfl ((if0 _ _).trans (teq (by decide)).1) (by decide) (by decide) k) ?_
      show Goes p e below (T536.setTop (mkF m 62 #[.val (.int p1), .val (.int p2), .val (.int (0 : Int32)), .val (.int (0 : Int32)), .val (.ref aS), .val (.ref b536), .unset, .unset] [])) _
      refine Goes.of (fun t k => XS.iconst X536.here hx rfl (hb hby at_62) k) ?_
      show Goes p e below (T536.setTop (mkF m 63 #[.val (.int p1), .val (.int p2), .val (.int (0 : Int32)), .val (.int (0 : Int32)), .val (.ref aS), .val (.ref b536), .unset, .unset] [(.int (3 : Int32))])) _
      refine Goes.of (fun t k => XS.istore X536.here hx rfl (hb hby at_63) rfl (l' := #[.val (.int p1), .val (.int p2), .val (.int (0 : Int32)), .val (.int (0 : Int32)), .val (.ref aS), .val (.ref b536), .val (.int (3 : Int32)), .unset]) rfl k) ?_
      show Goes p e below (T536.setTop (mkF m 65 #[.val (.int p1), .val (.int p2), .val (.int (0 : Int32)), .val (.int (0 : Int32)), .val (.ref aS), .val (.ref b536), .val (.int (3 : Int32)), .unset] [])) _
      refine Goes.of (fun t k => XS.aload X536.here hx rfl (hb hby at_65) rfl rfl k) ?_
      obtain ⟨cq541, kq541, q541a, q541b, q541c⟩ := isOf hZ rfl E536
      obtain ⟨_, _, ⟨T541, L541, k541, n541⟩, -, X541, ⟨Lc541, hQ541, l541, y541, z541⟩, st541⟩ := X536.interfaceBack hx (xi := (⟨"java/util/List", "size", "()I"⟩ : MethodName)) (y := (⟨"java/util/ImmutableCollections$ListN", "size", "()I"⟩ : MethodName)) hown (mvT hZ (wd hw 68 rfl)) (mvT hZ (wd hw 69 rfl)) (mvT hZ (wd hw 70 rfl)) (mvT hZ (wd hw 71 rfl)) (mvT hZ (wd hw 72 rfl)) (mvT hZ (wd hw 73 rfl)) (mvT hZ (wd hw 74 rfl)) (mvT hZ (wd hw 75 rfl)) (by decide) (backOf (W := 0) (rm10 l Z a0 hw [] b536 d536 q536 cS s0_536 s1_536 T536.heap n0 z538 F536 V536) hZ (wd hw 76 rfl) (wd hw 38 rfl) (by decide) (by decide)) q541a q541b q541c (g := (mkF m 67 #[.val (.int p1), .val (.int p2), .val (.int (0 : Int32)), .val (.int (0 : Int32)), .val (.ref aS), .val (.ref b536), .val (.int (3 : Int32)), .unset] [(.ref b536)])) rfl (by rw [hml]; rfl) (Steps.refl _) (argsL := []) (rest := []) (lenOf pd_19 rfl) rfl (by show 2 * 0 + _ ≤ _; exact Nat.le_of_eq rfl) (hb hby at_67) (fun _ _ => ⟨rfl, rfl, (by decide : 6 + 0 ≤ _), (by decide : 61 + 0 ≤ _)⟩)
      dsimp only [Pt.U, Pt.locs, Pt.cells, Pt.slots] at X541 l541 y541 z541 st541 hQ541
      subst l541 y541 z541
      obtain ⟨rfl, N541q, e541⟩ := hQ541
      have N541 := Fr.app N536 N541q
      refine Goes.of (fun t k => st541.trans k) ?_
      show Goes p e below (T541.setTop (mkF m 72 #[.val (.int p1), .val (.int p2), .val (.int (0 : Int32)), .val (.int (0 : Int32)), .val (.ref aS), .val (.ref b536), .val (.int (3 : Int32)), .unset] [(.int (3 : Int32))])) _
      refine Goes.of (fun t k => XS.iload X541.here hx rfl (hb hby at_72) rfl k) ?_
      show Goes p e below (T541.setTop (mkF m 74 #[.val (.int p1), .val (.int p2), .val (.int (0 : Int32)), .val (.int (0 : Int32)), .val (.ref aS), .val (.ref b536), .val (.int (3 : Int32)), .unset] [(.int (3 : Int32)), (.int (3 : Int32))])) _
      refine Goes.of (fun t k => XS.icmpYes X541.here hx rfl (pc0 := 74) (pc' := 79) rfl (hb hby at_74) rfl (teq (by decide)).1 (by decide) (by decide) k) ?_
      show Goes p e below (T541.setTop (mkF m 79 #[.val (.int p1), .val (.int p2), .val (.int (0 : Int32)), .val (.int (0 : Int32)), .val (.ref aS), .val (.ref b536), .val (.int (3 : Int32)), .unset] [])) _
      refine Goes.of (fun t k => XS.iloadN X541.here hx rfl (hb hby at_79) rfl k) ?_
      show Goes p e below (T541.setTop (mkF m 80 #[.val (.int p1), .val (.int p2), .val (.int (0 : Int32)), .val (.int (0 : Int32)), .val (.ref aS), .val (.ref b536), .val (.int (3 : Int32)), .unset] [(.int (0 : Int32))])) _
      refine Goes.of (fun t k => XS.ifYes X541.here hx rfl (pc0 := 80) (pc' := 88) rfl (hb hby at_80) rfl ((if0 _ _).trans (teq (by decide)).1) (by decide) (by decide) k) ?_
      show Goes p e below (T541.setTop (mkF m 88 #[.val (.int p1), .val (.int p2), .val (.int (0 : Int32)), .val (.int (0 : Int32)), .val (.ref aS), .val (.ref b536), .val (.int (3 : Int32)), .unset] [])) _
      obtain ⟨a542, T542, h542, k542, b542, c542, X542, e542, E542, hS542, kS542, hZ, hown, S542, F542c, F542v, V542, -, -, C542, -, ne542, st542⟩ := ldcCH (EL := consts_1) X541 hx hZ hown (wd hw 77 rfl) (own_wS hw) e541 hS536 kR536 (own_EW hw) (by decide) C537.1 (vs := [(.int (115 : Int32)), (.int (117 : Int32)), (.int (98 : Int32)), (.int (106 : Int32)), (.int (101 : Int32)), (.int (99 : Int32)), (.int (116 : Int32))]) (z := (7 : Int32)) ⟨by decide, by rfl⟩ (by decide) (by decide) (g := (mkF m 88 #[.val (.int p1), .val (.int p2), .val (.int (0 : Int32)), .val (.int (0 : Int32)), .val (.ref aS), .val (.ref b536), .val (.int (3 : Int32)), .unset] [])) rfl (hb hby at_88) (n := 28) (by decide) (by decide) (by decide) (by decide)
      have C543 := C537.trans C542
      have z544 := Nat.le_trans z538 E542.1
      have z545 := Nat.le_trans kR536 E542.1
      have f546 := f540.ext E542
      have f547 := E536.ext E542
      have f548 := F536.ext E542
      have f549 := V536.ext E542
      have f550 := Es0_536.ext E542
      have f551 := Cs0_536.ext E542
      have f552 := Fs0_536.ext E542
      have f553 := Vs0_536.ext E542
      have f554 := Es1_536.ext E542
      have f555 := Cs1_536.ext E542
      have f556 := Fs1_536.ext E542
      have f557 := Vs1_536.ext E542
      refine Goes.of st542 ?_
      show Goes p e below (T542.setTop (mkF m 90 #[.val (.int p1), .val (.int p2), .val (.int (0 : Int32)), .val (.int (0 : Int32)), .val (.ref aS), .val (.ref b536), .val (.int (3 : Int32)), .unset] [(.ref a542)])) _
      refine Goes.of (fun t k => XS.astore X542.here hx rfl (hb hby at_90) rfl rfl (l' := #[.val (.int p1), .val (.int p2), .val (.int (0 : Int32)), .val (.int (0 : Int32)), .val (.ref aS), .val (.ref b536), .val (.int (3 : Int32)), .val (.ref a542)]) rfl k) ?_
      show Goes p e below (T542.setTop (mkF m 92 #[.val (.int p1), .val (.int p2), .val (.int (0 : Int32)), .val (.int (0 : Int32)), .val (.ref aS), .val (.ref b536), .val (.int (3 : Int32)), .val (.ref a542)] [])) _
      refine Goes.of (fun t k => XS.aload X542.here hx rfl (hb hby at_92) rfl rfl k) ?_
      show Goes p e below (T542.setTop (mkF m 94 #[.val (.int p1), .val (.int p2), .val (.int (0 : Int32)), .val (.int (0 : Int32)), .val (.ref aS), .val (.ref b536), .val (.int (3 : Int32)), .val (.ref a542)] [(.ref a542)])) _
      refine Goes.of (fun t k => XS.aload X542.here hx rfl (hb hby at_94) rfl rfl k) ?_
      show Goes p e below (T542.setTop (mkF m 96 #[.val (.int p1), .val (.int p2), .val (.int (0 : Int32)), .val (.int (0 : Int32)), .val (.ref aS), .val (.ref b536), .val (.int (3 : Int32)), .val (.ref a542)] [(.ref b536), (.ref a542)])) _
      refine Goes.of (fun t k => XS.iconst X542.here hx rfl (hb hby at_96) k) ?_
      obtain ⟨cq558, kq558, q558a, q558b, q558c⟩ := isOf hZ e542 f547
      obtain ⟨_, _, ⟨T558, L558, k558, n558⟩, -, X558, ⟨Lc558, hQ558, l558, y558, z558⟩, st558⟩ := X542.interfaceBack hx (xi := (⟨"java/util/List", "get", "(I)Ljava/lang/Object;"⟩ : MethodName)) (y := (⟨"java/util/ImmutableCollections$ListN", "get", "(I)Ljava/lang/Object;"⟩ : MethodName)) hown (mvT hZ (wd hw 78 rfl)) (mvT hZ (wd hw 79 rfl)) (mvT hZ (wd hw 80 rfl)) (mvT hZ (wd hw 81 rfl)) (mvT hZ (wd hw 82 rfl)) (mvT hZ (wd hw 83 rfl)) (mvT hZ (wd hw 84 rfl)) (mvT hZ (wd hw 75 rfl)) (by decide) (backOf (W := 1) (rm11 l Z a0 hw [] b536 d536 q536 cS s0_536 s1_536 h542 n0 z544 f548 f549) hZ (wd hw 85 rfl) (wd hw 38 rfl) (by decide) (by decide)) q558a q558b q558c (g := (mkF m 97 #[.val (.int p1), .val (.int p2), .val (.int (0 : Int32)), .val (.int (0 : Int32)), .val (.ref aS), .val (.ref b536), .val (.int (3 : Int32)), .val (.ref a542)] [(.int (0 : Int32)), (.ref b536), (.ref a542)])) rfl (by rw [hml]; rfl) (Steps.refl _) (argsL := [(.int (0 : Int32))]) (rest := [(.ref a542)]) (lenOf pd_20 rfl) rfl (by show 2 * 0 + _ ≤ _; exact Nat.le_of_eq rfl) (hb hby at_97) (fun _ _ => ⟨rfl, e542, (by decide : 8 + 0 ≤ _), (by decide : 93 + 0 ≤ _)⟩)
      dsimp only [Pt.U, Pt.locs, Pt.cells, Pt.slots] at X558 l558 y558 z558 st558 hQ558
      subst l558 y558 z558
      obtain ⟨rfl, N558q, e558⟩ := hQ558
      have N558 := Fr.app N541 N558q
      refine Goes.of (fun t k => st558.trans k) ?_
      obtain ⟨cq559, kq559, q559a, q559b, q559c⟩ := isOf hZ e558 S542
      obtain ⟨_, _, ⟨T559, L559, k559, n559⟩, -, X559, ⟨Lc559, hQ559, l559, y559, z559⟩, st559⟩ := X558.virtualBack hx (y := (⟨"java/lang/String", "equals", "(Ljava/lang/Object;)Z"⟩ : MethodName)) (z := (⟨"java/lang/String", "equals", "(Ljava/lang/Object;)Z"⟩ : MethodName)) hown (mvT hZ (wd hw 86 rfl)) (mvT hZ (wd hw 87 rfl)) (notFace_of_selects (args := #[]) (mvT hZ (wd hw 89 rfl))) (mvT hZ (wd hw 89 rfl)) (mvT hZ (wd hw 88 rfl)) (by decide) (backOf (W := 0) (rm12_427 l Z a0 hw [] a542 cS b542 bS c542 kS cmS (115 : Int32) (117 : Int32) (98 : Int32) (106 : Int32) (101 : Int32) (99 : Int32) (116 : Int32) h542 n0 z544 f546 SC cs0 S542 F542c F542v V542 (ES.ext f546.2) (CS.ext f546.2) (FS.ext f546.2) (VS.ext f546.2)) hZ (wd hw 90 rfl) (wd hw 11 rfl) (by decide) (by decide)) q559a q559c (g := (mkF m 102 #[.val (.int p1), .val (.int p2), .val (.int (0 : Int32)), .val (.int (0 : Int32)), .val (.ref aS), .val (.ref b536), .val (.int (3 : Int32)), .val (.ref a542)] [(.ref cS), (.ref a542)])) rfl (by rw [hml]; rfl) (Steps.refl _) (argsL := [(.ref cS)]) (rest := []) (lenOf pd_21 rfl) rfl (by show 2 * 0 + _ ≤ _; exact Nat.le_of_eq rfl) (hb hby at_102) (fun _ _ => ⟨rfl, e558, (by decide : 8 + 0 ≤ _), (by decide : 93 + 0 ≤ _)⟩)
      dsimp only [Pt.U, Pt.locs, Pt.cells, Pt.slots] at X559 l559 y559 z559 st559 hQ559
      subst l559 y559 z559
      obtain ⟨rfl, N559q, e559⟩ := hQ559
      have N559 := Fr.app N558 N559q
      refine Goes.of (fun t k => st559.trans k) ?_
      show Goes p e below (T559.setTop (mkF m 105 #[.val (.int p1), .val (.int p2), .val (.int (0 : Int32)), .val (.int (0 : Int32)), .val (.ref aS), .val (.ref b536), .val (.int (3 : Int32)), .val (.ref a542)] [(.int (1 : Int32))])) _
      refine Goes.of (fun t k => XS.ifYes X559.here hx rfl (pc0 := 105) (pc' := 110) rfl (hb hby at_105) rfl ((if0 _ _).trans (feq (by decide)).2) (by decide) (by decide) k) ?_
      show Goes p e below (T559.setTop (mkF m 110 #[.val (.int p1), .val (.int p2), .val (.int (0 : Int32)), .val (.int (0 : Int32)), .val (.ref aS), .val (.ref b536), .val (.int (3 : Int32)), .val (.ref a542)] [])) _
      obtain ⟨a560, T560, h560, k560, b560, c560, X560, e560, E560, hS560, kS560, hZ, hown, S560, F560c, F560v, V560, -, -, C560, -, ne560, st560⟩ := ldcCH (EL := consts_1) X559 hx hZ hown (wd hw 100 rfl) (own_wS hw) e559 hS542 kS542 (own_EW hw) (by decide) C543.1 (vs := [(.int (111 : Int32)), (.int (98 : Int32)), (.int (106 : Int32)), (.int (101 : Int32)), (.int (99 : Int32)), (.int (116 : Int32))]) (z := (6 : Int32)) ⟨by decide, by rfl⟩ (by decide) (by decide) (g := (mkF m 110 #[.val (.int p1), .val (.int p2), .val (.int (0 : Int32)), .val (.int (0 : Int32)), .val (.ref aS), .val (.ref b536), .val (.int (3 : Int32)), .val (.ref a542)] [])) rfl (hb hby at_110) (n := 24) (by decide) (by decide) (by decide) (by decide)
      have C561 := C543.trans C560
      have z562 := Nat.le_trans z544 E560.1
      have z563 := Nat.le_trans kS542 E560.1
      have f564 := f546.ext E560
      have f565 := f547.ext E560
      have f566 := f548.ext E560
      have f567 := f549.ext E560
      have f568 := f550.ext E560
      have f569 := f551.ext E560
      have f570 := f552.ext E560
      have f571 := f553.ext E560
      have f572 := f554.ext E560
      have f573 := f555.ext E560
      have f574 := f556.ext E560
      have f575 := f557.ext E560
      have f576 := S542.ext E560
      have f577 := F542c.ext E560
      have f578 := F542v.ext E560
      have f579 := V542.ext E560
      refine Goes.of st560 ?_
      show Goes p e below (T560.setTop (mkF m 112 #[.val (.int p1), .val (.int p2), .val (.int (0 : Int32)), .val (.int (0 : Int32)), .val (.ref aS), .val (.ref b536), .val (.int (3 : Int32)), .val (.ref a542)] [(.ref a560)])) _
      refine Goes.of (fun t k => XS.aload X560.here hx rfl (hb hby at_112) rfl rfl k) ?_
      show Goes p e below (T560.setTop (mkF m 114 #[.val (.int p1), .val (.int p2), .val (.int (0 : Int32)), .val (.int (0 : Int32)), .val (.ref aS), .val (.ref b536), .val (.int (3 : Int32)), .val (.ref a542)] [(.ref b536), (.ref a560)])) _
      refine Goes.of (fun t k => XS.iconst X560.here hx rfl (hb hby at_114) k) ?_
      obtain ⟨cq580, kq580, q580a, q580b, q580c⟩ := isOf hZ e560 f565
      obtain ⟨_, _, ⟨T580, L580, k580, n580⟩, -, X580, ⟨Lc580, hQ580, l580, y580, z580⟩, st580⟩ := X560.interfaceBack hx (xi := (⟨"java/util/List", "get", "(I)Ljava/lang/Object;"⟩ : MethodName)) (y := (⟨"java/util/ImmutableCollections$ListN", "get", "(I)Ljava/lang/Object;"⟩ : MethodName)) hown (mvT hZ (wd hw 78 rfl)) (mvT hZ (wd hw 79 rfl)) (mvT hZ (wd hw 80 rfl)) (mvT hZ (wd hw 81 rfl)) (mvT hZ (wd hw 82 rfl)) (mvT hZ (wd hw 83 rfl)) (mvT hZ (wd hw 84 rfl)) (mvT hZ (wd hw 75 rfl)) (by decide) (backOf (W := 1) (rm11_226 l Z a0 hw [] b536 d536 q536 cS s0_536 s1_536 h560 n0 z562 f566 f567) hZ (wd hw 85 rfl) (wd hw 38 rfl) (by decide) (by decide)) q580a q580b q580c (g := (mkF m 115 #[.val (.int p1), .val (.int p2), .val (.int (0 : Int32)), .val (.int (0 : Int32)), .val (.ref aS), .val (.ref b536), .val (.int (3 : Int32)), .val (.ref a542)] [(.int (1 : Int32)), (.ref b536), (.ref a560)])) rfl (by rw [hml]; rfl) (Steps.refl _) (argsL := [(.int (1 : Int32))]) (rest := [(.ref a560)]) (lenOf pd_20 rfl) rfl (by show 2 * 0 + _ ≤ _; exact Nat.le_of_eq rfl) (hb hby at_115) (fun _ _ => ⟨rfl, e560, (by decide : 10 + 0 ≤ _), (by decide : 121 + 0 ≤ _)⟩)
      dsimp only [Pt.U, Pt.locs, Pt.cells, Pt.slots] at X580 l580 y580 z580 st580 hQ580
      subst l580 y580 z580
      obtain ⟨rfl, N580q, e580⟩ := hQ580
      have N580 := Fr.app N559 N580q
      refine Goes.of (fun t k => st580.trans k) ?_
      obtain ⟨cq581, kq581, q581a, q581b, q581c⟩ := isOf hZ e580 S560
      obtain ⟨_, _, ⟨T581, L581, k581, n581⟩, -, X581, ⟨Lc581, hQ581, l581, y581, z581⟩, st581⟩ := X580.virtualBack hx (y := (⟨"java/lang/String", "equals", "(Ljava/lang/Object;)Z"⟩ : MethodName)) (z := (⟨"java/lang/String", "equals", "(Ljava/lang/Object;)Z"⟩ : MethodName)) hown (mvT hZ (wd hw 86 rfl)) (mvT hZ (wd hw 87 rfl)) (notFace_of_selects (args := #[]) (mvT hZ (wd hw 89 rfl))) (mvT hZ (wd hw 89 rfl)) (mvT hZ (wd hw 88 rfl)) (by decide) (backOf (W := 0) (rm12_356 l Z a0 hw [] a560 s0_536 b560 t0_536 c560 u0_536 cmS (111 : Int32) (98 : Int32) (106 : Int32) (101 : Int32) (99 : Int32) (116 : Int32) h560 n0 z562 f564 SC cs0 S560 F560c F560v V560 f568 f569 f570 f571) hZ (wd hw 90 rfl) (wd hw 11 rfl) (by decide) (by decide)) q581a q581c (g := (mkF m 120 #[.val (.int p1), .val (.int p2), .val (.int (0 : Int32)), .val (.int (0 : Int32)), .val (.ref aS), .val (.ref b536), .val (.int (3 : Int32)), .val (.ref a542)] [(.ref s0_536), (.ref a560)])) rfl (by rw [hml]; rfl) (Steps.refl _) (argsL := [(.ref s0_536)]) (rest := []) (lenOf pd_21 rfl) rfl (by show 2 * 0 + _ ≤ _; exact Nat.le_of_eq rfl) (hb hby at_120) (fun _ _ => ⟨rfl, e580, (by decide : 10 + 0 ≤ _), (by decide : 121 + 0 ≤ _)⟩)
      dsimp only [Pt.U, Pt.locs, Pt.cells, Pt.slots] at X581 l581 y581 z581 st581 hQ581
      subst l581 y581 z581
      obtain ⟨rfl, N581q, e581⟩ := hQ581
      have N581 := Fr.app N580 N581q
      refine Goes.of (fun t k => st581.trans k) ?_
      show Goes p e below (T581.setTop (mkF m 123 #[.val (.int p1), .val (.int p2), .val (.int (0 : Int32)), .val (.int (0 : Int32)), .val (.ref aS), .val (.ref b536), .val (.int (3 : Int32)), .val (.ref a542)] [(.int (1 : Int32))])) _
      refine Goes.of (fun t k => XS.ifYes X581.here hx rfl (pc0 := 123) (pc' := 128) rfl (hb hby at_123) rfl ((if0 _ _).trans (feq (by decide)).2) (by decide) (by decide) k) ?_
      show Goes p e below (T581.setTop (mkF m 128 #[.val (.int p1), .val (.int p2), .val (.int (0 : Int32)), .val (.int (0 : Int32)), .val (.ref aS), .val (.ref b536), .val (.int (3 : Int32)), .val (.ref a542)] [])) _
      obtain ⟨a582, T582, h582, k582, b582, c582, X582, e582, E582, hS582, kS582, hZ, hown, S582, F582c, F582v, V582, -, -, C582, -, ne582, st582⟩ := ldcCH (EL := consts_1) X581 hx hZ hown (wd hw 101 rfl) (own_wS hw) e581 hS560 kS560 (own_EW hw) (by decide) C561.1 (vs := [(.int (97 : Int32)), (.int (99 : Int32)), (.int (99 : Int32)), (.int (101 : Int32)), (.int (115 : Int32)), (.int (115 : Int32))]) (z := (6 : Int32)) ⟨by decide, by rfl⟩ (by decide) (by decide) (g := (mkF m 128 #[.val (.int p1), .val (.int p2), .val (.int (0 : Int32)), .val (.int (0 : Int32)), .val (.ref aS), .val (.ref b536), .val (.int (3 : Int32)), .val (.ref a542)] [])) rfl (hb hby at_128) (n := 24) (by decide) (by decide) (by decide) (by decide)
      have C583 := C561.trans C582
      have z584 := Nat.le_trans z562 E582.1
      have z585 := Nat.le_trans kS560 E582.1
      have f586 := f564.ext E582
      have f587 := f565.ext E582
      have f588 := f566.ext E582
      have f589 := f567.ext E582
      have f590 := f568.ext E582
      have f591 := f569.ext E582
      have f592 := f570.ext E582
      have f593 := f571.ext E582
      have f594 := f572.ext E582
      have f595 := f573.ext E582
      have f596 := f574.ext E582
      have f597 := f575.ext E582
      have f598 := f576.ext E582
      have f599 := f577.ext E582
      have f600 := f578.ext E582
      have f601 := f579.ext E582
      have f602 := S560.ext E582
      have f603 := F560c.ext E582
      have f604 := F560v.ext E582
      have f605 := V560.ext E582
      refine Goes.of st582 ?_
      show Goes p e below (T582.setTop (mkF m 130 #[.val (.int p1), .val (.int p2), .val (.int (0 : Int32)), .val (.int (0 : Int32)), .val (.ref aS), .val (.ref b536), .val (.int (3 : Int32)), .val (.ref a542)] [(.ref a582)])) _
      refine Goes.of (fun t k => XS.aload X582.here hx rfl (hb hby at_130) rfl rfl k) ?_
      show Goes p e below (T582.setTop (mkF m 132 #[.val (.int p1), .val (.int p2), .val (.int (0 : Int32)), .val (.int (0 : Int32)), .val (.ref aS), .val (.ref b536), .val (.int (3 : Int32)), .val (.ref a542)] [(.ref b536), (.ref a582)])) _
      refine Goes.of (fun t k => XS.iconst X582.here hx rfl (hb hby at_132) k) ?_
      obtain ⟨cq606, kq606, q606a, q606b, q606c⟩ := isOf hZ e582 f587
      obtain ⟨_, _, ⟨T606, L606, k606, n606⟩, -, X606, ⟨Lc606, hQ606, l606, y606, z606⟩, st606⟩ := X582.interfaceBack hx (xi := (⟨"java/util/List", "get", "(I)Ljava/lang/Object;"⟩ : MethodName)) (y := (⟨"java/util/ImmutableCollections$ListN", "get", "(I)Ljava/lang/Object;"⟩ : MethodName)) hown (mvT hZ (wd hw 78 rfl)) (mvT hZ (wd hw 79 rfl)) (mvT hZ (wd hw 80 rfl)) (mvT hZ (wd hw 81 rfl)) (mvT hZ (wd hw 82 rfl)) (mvT hZ (wd hw 83 rfl)) (mvT hZ (wd hw 84 rfl)) (mvT hZ (wd hw 75 rfl)) (by decide) (backOf (W := 1) (rm11_231 l Z a0 hw [] b536 d536 q536 cS s0_536 s1_536 h582 n0 z584 f588 f589) hZ (wd hw 85 rfl) (wd hw 38 rfl) (by decide) (by decide)) q606a q606b q606c (g := (mkF m 133 #[.val (.int p1), .val (.int p2), .val (.int (0 : Int32)), .val (.int (0 : Int32)), .val (.ref aS), .val (.ref b536), .val (.int (3 : Int32)), .val (.ref a542)] [(.int (2 : Int32)), (.ref b536), (.ref a582)])) rfl (by rw [hml]; rfl) (Steps.refl _) (argsL := [(.int (2 : Int32))]) (rest := [(.ref a582)]) (lenOf pd_20 rfl) rfl (by show 2 * 0 + _ ≤ _; exact Nat.le_of_eq rfl) (hb hby at_133) (fun _ _ => ⟨rfl, e582, (by decide : 12 + 0 ≤ _), (by decide : 149 + 0 ≤ _)⟩)
      dsimp only [Pt.U, Pt.locs, Pt.cells, Pt.slots] at X606 l606 y606 z606 st606 hQ606
      subst l606 y606 z606
      obtain ⟨rfl, N606q, e606⟩ := hQ606
      have N606 := Fr.app N581 N606q
      refine Goes.of (fun t k => st606.trans k) ?_
      obtain ⟨cq607, kq607, q607a, q607b, q607c⟩ := isOf hZ e606 S582
      obtain ⟨_, _, ⟨T607, L607, k607, n607⟩, -, X607, ⟨Lc607, hQ607, l607, y607, z607⟩, st607⟩ := X606.virtualBack hx (y := (⟨"java/lang/String", "equals", "(Ljava/lang/Object;)Z"⟩ : MethodName)) (z := (⟨"java/lang/String", "equals", "(Ljava/lang/Object;)Z"⟩ : MethodName)) hown (mvT hZ (wd hw 86 rfl)) (mvT hZ (wd hw 87 rfl)) (notFace_of_selects (args := #[]) (mvT hZ (wd hw 89 rfl))) (mvT hZ (wd hw 89 rfl)) (mvT hZ (wd hw 88 rfl)) (by decide) (backOf (W := 0) (rm12_356 l Z a0 hw [] a582 s1_536 b582 t1_536 c582 u1_536 cmS (97 : Int32) (99 : Int32) (99 : Int32) (101 : Int32) (115 : Int32) (115 : Int32) h582 n0 z584 f586 SC cs0 S582 F582c F582v V582 f594 f595 f596 f597) hZ (wd hw 90 rfl) (wd hw 11 rfl) (by decide) (by decide)) q607a q607c (g := (mkF m 138 #[.val (.int p1), .val (.int p2), .val (.int (0 : Int32)), .val (.int (0 : Int32)), .val (.ref aS), .val (.ref b536), .val (.int (3 : Int32)), .val (.ref a542)] [(.ref s1_536), (.ref a582)])) rfl (by rw [hml]; rfl) (Steps.refl _) (argsL := [(.ref s1_536)]) (rest := []) (lenOf pd_21 rfl) rfl (by show 2 * 0 + _ ≤ _; exact Nat.le_of_eq rfl) (hb hby at_138) (fun _ _ => ⟨rfl, e606, (by decide : 12 + 0 ≤ _), (by decide : 149 + 0 ≤ _)⟩)
      dsimp only [Pt.U, Pt.locs, Pt.cells, Pt.slots] at X607 l607 y607 z607 st607 hQ607
      subst l607 y607 z607
      obtain ⟨rfl, N607q, e607⟩ := hQ607
      have N607 := Fr.app N606 N607q
      refine Goes.of (fun t k => st607.trans k) ?_
      show Goes p e below (T607.setTop (mkF m 141 #[.val (.int p1), .val (.int p2), .val (.int (0 : Int32)), .val (.int (0 : Int32)), .val (.ref aS), .val (.ref b536), .val (.int (3 : Int32)), .val (.ref a542)] [(.int (1 : Int32))])) _
      refine Goes.of (fun t k => XS.ifYes X607.here hx rfl (pc0 := 141) (pc' := 146) rfl (hb hby at_141) rfl ((if0 _ _).trans (feq (by decide)).2) (by decide) (by decide) k) ?_
      show Goes p e below (T607.setTop (mkF m 146 #[.val (.int p1), .val (.int p2), .val (.int (0 : Int32)), .val (.int (0 : Int32)), .val (.ref aS), .val (.ref b536), .val (.int (3 : Int32)), .val (.ref a542)] [])) _
      refine Goes.of (fun t k => XS.iloadN X607.here hx rfl (hb hby at_146) rfl k) ?_
      show Goes p e below (T607.setTop (mkF m 147 #[.val (.int p1), .val (.int p2), .val (.int (0 : Int32)), .val (.int (0 : Int32)), .val (.ref aS), .val (.ref b536), .val (.int (3 : Int32)), .val (.ref a542)] [(.int (0 : Int32))])) _
      refine Goes.of (fun t k => XS.ifYes X607.here hx rfl (pc0 := 147) (pc' := 168) rfl (hb hby at_147) rfl ((if0 _ _).trans (teq (by decide)).1) (by decide) (by decide) k) ?_
      show Goes p e below (T607.setTop (mkF m 168 #[.val (.int p1), .val (.int p2), .val (.int (0 : Int32)), .val (.int (0 : Int32)), .val (.ref aS), .val (.ref b536), .val (.int (3 : Int32)), .val (.ref a542)] [])) _
      refine Goes.of (fun t k => XS.iconst X607.here hx rfl (hb hby at_168) k) ?_
      show Goes p e below (T607.setTop (mkF m 169 #[.val (.int p1), .val (.int p2), .val (.int (0 : Int32)), .val (.int (0 : Int32)), .val (.ref aS), .val (.ref b536), .val (.int (3 : Int32)), .val (.ref a542)] [(.int (1 : Int32))])) _
      have eh : T607.heap = h582 := e607
      have hCH : CHr Z consts_1 s.vm s.heap T607.vm T607.heap := by rw [eh, hh]; exact C583.trans (CHv.at X607 hZ (own_EW hw) C583.1)
      exact Goes.retNH (t := .boolean) X607 hS582 (by rw [e607]; exact kS582) hx Bd.returns (by simp) hlocks (hb hby at_169) (⟨rfl, N607⟩) (hCH) (by decide) (by decide)
    · refine Goes.of (fun t k => XS.ifNo X0.here hx rfl (hb hby at_15) rfl ((if0 _ _).trans (feq hc15_534).1) k) ?_
      show Goes p e below (s₁.setTop (mkF m 18 #[.val (.int p1), .val (.int p2), .val (.int (0 : Int32)), .unset, .unset, .unset, .unset, .unset] [])) _
      refine Goes.of (fun t k => XS.iconst X0.here hx rfl (hb hby at_18) k) ?_
      show Goes p e below (s₁.setTop (mkF m 19 #[.val (.int p1), .val (.int p2), .val (.int (0 : Int32)), .unset, .unset, .unset, .unset, .unset] [(.int (1 : Int32))])) _
      refine Goes.of (fun t k => XS.goto X0.here hx rfl (pc0 := 19) (pc' := 23) rfl (hb hby at_19) (by decide) (by decide) k) ?_
      show Goes p e below (s₁.setTop (mkF m 23 #[.val (.int p1), .val (.int p2), .val (.int (0 : Int32)), .unset, .unset, .unset, .unset, .unset] [(.int (1 : Int32))])) _
      refine Goes.of (fun t k => XS.istoreN X0.here hx rfl (hb hby at_23) rfl (l' := #[.val (.int p1), .val (.int p2), .val (.int (0 : Int32)), .val (.int (1 : Int32)), .unset, .unset, .unset, .unset]) rfl k) ?_
      show Goes p e below (s₁.setTop (mkF m 24 #[.val (.int p1), .val (.int p2), .val (.int (0 : Int32)), .val (.int (1 : Int32)), .unset, .unset, .unset, .unset] [])) _
      refine Goes.of (fun t k => XS.iloadN X0.here hx rfl (hb hby at_24) rfl k) ?_
      show Goes p e below (s₁.setTop (mkF m 25 #[.val (.int p1), .val (.int p2), .val (.int (0 : Int32)), .val (.int (1 : Int32)), .unset, .unset, .unset, .unset] [(.int (0 : Int32))])) _
      refine Goes.of (fun t k => XS.ifYes X0.here hx rfl (pc0 := 25) (pc' := 34) rfl (hb hby at_25) rfl ((if0 _ _).trans (teq (by decide)).1) (by decide) (by decide) k) ?_
      obtain ⟨T608, X608, e608, st608⟩ := getS2 X0 hx hZ hown (host := "") (Or.inl (wd hw 0 rfl)) Via.refl e0 (SS.ext O0.2) (g := (mkF m 34 #[.val (.int p1), .val (.int p2), .val (.int (0 : Int32)), .val (.int (1 : Int32)), .unset, .unset, .unset, .unset] [])) rfl (hb hby at_34)
      refine Goes.of st608 ?_
      show Goes p e below (T608.setTop (mkF m 37 #[.val (.int p1), .val (.int p2), .val (.int (0 : Int32)), .val (.int (1 : Int32)), .unset, .unset, .unset, .unset] [(.ref aS)])) _
      refine Goes.of (fun t k => XS.astore X608.here hx rfl (hb hby at_37) rfl rfl (l' := #[.val (.int p1), .val (.int p2), .val (.int (0 : Int32)), .val (.int (1 : Int32)), .val (.ref aS), .unset, .unset, .unset]) rfl k) ?_
      show Goes p e below (T608.setTop (mkF m 39 #[.val (.int p1), .val (.int p2), .val (.int (0 : Int32)), .val (.int (1 : Int32)), .val (.ref aS), .unset, .unset, .unset] [])) _
      refine Goes.of (fun t k => XS.aload X608.here hx rfl (hb hby at_39) rfl rfl k) ?_
      show Goes p e below (T608.setTop (mkF m 41 #[.val (.int p1), .val (.int p2), .val (.int (0 : Int32)), .val (.int (1 : Int32)), .val (.ref aS), .unset, .unset, .unset] [(.ref aS)])) _
      refine Goes.of (fun t k => XS.iloadN X608.here hx rfl (hb hby at_41) rfl k) ?_
      obtain ⟨cq609, kq609, q609a, q609b, q609c⟩ := isOf hZ e608 (XhS.ext O0.2)
      obtain ⟨_, _, ⟨T609, L609, k609, n609⟩, -, X609, hS609, kS609, ⟨Lc609, hQ609, l609, y609, z609, cc609⟩, st609⟩ := X608.virtualBackS hx (y := (⟨"com/example/leaklint/leaklint/GrantListHeader", "fields", "(Z)Ljava/util/List;"⟩ : MethodName)) (z := (⟨"com/example/leaklint/leaklint/GrantListHeader", "fields", "(Z)Ljava/util/List;"⟩ : MethodName)) hown (mvT hZ (wd hw 3 rfl)) (mvT hZ (wd hw 4 rfl)) (notFace_of_selects (args := #[]) (mvT hZ (wd hw 6 rfl))) (mvT hZ (wd hw 6 rfl)) (mvT hZ (wd hw 5 rfl)) (by decide) (backOfSH (EL := consts_1) (vm0 := s.vm) (W := 0) (rm1_475 l Z a0 hw [] aS cS h0 n0 Z0 O0 SA (YS.ext O0.2) (ES.ext O0.2)) hZ (wd hw 7 rfl) (wd hw 1 rfl) (by decide) (by decide) (own_EW hw) C0.1) q609a q609c (g := (mkF m 42 #[.val (.int p1), .val (.int p2), .val (.int (0 : Int32)), .val (.int (1 : Int32)), .val (.ref aS), .unset, .unset, .unset] [(.int (1 : Int32)), (.ref aS)])) rfl (by rw [hml]; rfl) (Steps.refl _) (argsL := [(.int (1 : Int32))]) (rest := []) (lenOf pd_18 rfl) rfl (by show 2 * 0 + _ ≤ _; exact Nat.le_of_eq rfl) (hb hby at_42) (fun _ _ => ⟨rfl, e608, (by decide : 0 + 8 ≤ _), (by decide : 0 + 94 ≤ _)⟩)
      dsimp only [Pt.U, Pt.locs, Pt.cells, Pt.slots] at X609 l609 y609 z609 st609 hQ609 hS609 kS609 cc609
      subst l609 y609 z609
      obtain ⟨X609, hS609, hZ, hown⟩ := rebS hS0 (by rw [e608]; exact kS0) X609 hS609 kS609 hZ hown
      obtain ⟨b609, d609, q609, s0_609, t0_609, u0_609, s1_609, t1_609, u1_609, s2_609, t2_609, u2_609, rfl, N609q, K609, E609, F609, V609, Es0_609, Cs0_609, Fs0_609, Vs0_609, Es1_609, Cs1_609, Fs1_609, Vs1_609, Es2_609, Cs2_609, Fs2_609, Vs2_609⟩ := hQ609
      have N609 := Fr.app N0 N609q
      have C610 := C0.trans cc609
      have z611 := Nat.le_trans Z0 K609.1
      have z612 := Nat.le_trans kS0 K609.1
      have f613 := O0.keep K609 all0
      have kR609 : T609.heap.size ≤ T609.heap.size := Nat.le_refl _
      refine Goes.of (fun t k => st609.trans k) ?_
      show Goes p e below (T609.setTop (mkF m 45 #[.val (.int p1), .val (.int p2), .val (.int (0 : Int32)), .val (.int (1 : Int32)), .val (.ref aS), .unset, .unset, .unset] [(.ref b609)])) _
      refine Goes.of (fun t k => XS.astore X609.here hx rfl (hb hby at_45) rfl rfl (l' := #[.val (.int p1), .val (.int p2), .val (.int (0 : Int32)), .val (.int (1 : Int32)), .val (.ref aS), .val (.ref b609), .unset, .unset]) rfl k) ?_
      show Goes p e below (T609.setTop (mkF m 47 #[.val (.int p1), .val (.int p2), .val (.int (0 : Int32)), .val (.int (1 : Int32)), .val (.ref aS), .val (.ref b609), .unset, .unset] [])) _
      refine Goes.of (fun t k => XS.aload X609.here hx rfl (hb hby at_47) rfl rfl k) ?_
      show Goes p e below (T609.setTop (mkF m 49 #[.val (.int p1), .val (.int p2), .val (.int (0 : Int32)), .val (.int (1 : Int32)), .val (.ref aS), .val (.ref b609), .unset, .unset] [(.ref b609)])) _
      refine Goes.of (fun t k => XS.ifnonnullYes X609.here hx rfl (pc0 := 49) (pc' := 54) rfl (hb hby at_49) rfl (by decide) (by decide) k) ?_
      show Goes p e below (T609.setTop (mkF m 54 #[.val (.int p1), .val (.int p2), .val (.int (0 : Int32)), .val (.int (1 : Int32)), .val (.ref aS), .val (.ref b609), .unset, .unset] [])) _
      refine Goes.of (fun t k => XS.iloadN X609.here hx rfl (hb hby at_54) rfl k) ?_
      show Goes p e below (T609.setTop (mkF m 55 #[.val (.int p1), .val (.int p2), .val (.int (0 : Int32)), .val (.int (1 : Int32)), .val (.ref aS), .val (.ref b609), .unset, .unset] [(.int (1 : Int32))])) _
      refine Goes.of (fun t k => XS.ifNo X609.here hx rfl (hb hby at_55) rfl ((if0 _ _).trans (feq (by decide)).1) k) ?_
      show Goes p e below (T609.setTop (mkF m 58 #[.val (.int p1), .val (.int p2), .val (.int (0 : Int32)), .val (.int (1 : Int32)), .val (.ref aS), .val (.ref b609), .unset, .unset] [])) _
      refine Goes.of (fun t k => XS.iconst X609.here hx rfl (hb hby at_58) k) ?_
      show Goes p e below (T609.setTop (mkF m 59 #[.val (.int p1), .val (.int p2), .val (.int (0 : Int32)), .val (.int (1 : Int32)), .val (.ref aS), .val (.ref b609), .unset, .unset] [(.int (4 : Int32))])) _
      refine Goes.of (fun t k => XS.goto X609.here hx rfl (pc0 := 59) (pc' := 63) rfl (hb hby at_59) (by decide) (by decide) k) ?_
      show Goes p e below (T609.setTop (mkF m 63 #[.val (.int p1), .val (.int p2), .val (.int (0 : Int32)), .val (.int (1 : Int32)), .val (.ref aS), .val (.ref b609), .unset, .unset] [(.int (4 : Int32))])) _
      refine Goes.of (fun t k => XS.istore X609.here hx rfl (hb hby at_63) rfl (l' := #[.val (.int p1), .val (.int p2), .val (.int (0 : Int32)), .val (.int (1 : Int32)), .val (.ref aS), .val (.ref b609), .val (.int (4 : Int32)), .unset]) rfl k) ?_
      show Goes p e below (T609.setTop (mkF m 65 #[.val (.int p1), .val (.int p2), .val (.int (0 : Int32)), .val (.int (1 : Int32)), .val (.ref aS), .val (.ref b609), .val (.int (4 : Int32)), .unset] [])) _
      refine Goes.of (fun t k => XS.aload X609.here hx rfl (hb hby at_65) rfl rfl k) ?_
      obtain ⟨cq614, kq614, q614a, q614b, q614c⟩ := isOf hZ rfl E609
      obtain ⟨_, _, ⟨T614, L614, k614, n614⟩, -, X614, ⟨Lc614, hQ614, l614, y614, z614⟩, st614⟩ := X609.interfaceBack hx (xi := (⟨"java/util/List", "size", "()I"⟩ : MethodName)) (y := (⟨"java/util/ImmutableCollections$ListN", "size", "()I"⟩ : MethodName)) hown (mvT hZ (wd hw 68 rfl)) (mvT hZ (wd hw 69 rfl)) (mvT hZ (wd hw 70 rfl)) (mvT hZ (wd hw 71 rfl)) (mvT hZ (wd hw 72 rfl)) (mvT hZ (wd hw 73 rfl)) (mvT hZ (wd hw 74 rfl)) (mvT hZ (wd hw 75 rfl)) (by decide) (backOf (W := 0) (rm10_236 l Z a0 hw [] b609 d609 q609 cS s0_609 s1_609 s2_609 T609.heap n0 z611 F609 V609) hZ (wd hw 76 rfl) (wd hw 38 rfl) (by decide) (by decide)) q614a q614b q614c (g := (mkF m 67 #[.val (.int p1), .val (.int p2), .val (.int (0 : Int32)), .val (.int (1 : Int32)), .val (.ref aS), .val (.ref b609), .val (.int (4 : Int32)), .unset] [(.ref b609)])) rfl (by rw [hml]; rfl) (Steps.refl _) (argsL := []) (rest := []) (lenOf pd_19 rfl) rfl (by show 2 * 0 + _ ≤ _; exact Nat.le_of_eq rfl) (hb hby at_67) (fun _ _ => ⟨rfl, rfl, (by decide : 8 + 0 ≤ _), (by decide : 94 + 0 ≤ _)⟩)
      dsimp only [Pt.U, Pt.locs, Pt.cells, Pt.slots] at X614 l614 y614 z614 st614 hQ614
      subst l614 y614 z614
      obtain ⟨rfl, N614q, e614⟩ := hQ614
      have N614 := Fr.app N609 N614q
      refine Goes.of (fun t k => st614.trans k) ?_
      show Goes p e below (T614.setTop (mkF m 72 #[.val (.int p1), .val (.int p2), .val (.int (0 : Int32)), .val (.int (1 : Int32)), .val (.ref aS), .val (.ref b609), .val (.int (4 : Int32)), .unset] [(.int (4 : Int32))])) _
      refine Goes.of (fun t k => XS.iload X614.here hx rfl (hb hby at_72) rfl k) ?_
      show Goes p e below (T614.setTop (mkF m 74 #[.val (.int p1), .val (.int p2), .val (.int (0 : Int32)), .val (.int (1 : Int32)), .val (.ref aS), .val (.ref b609), .val (.int (4 : Int32)), .unset] [(.int (4 : Int32)), (.int (4 : Int32))])) _
      refine Goes.of (fun t k => XS.icmpYes X614.here hx rfl (pc0 := 74) (pc' := 79) rfl (hb hby at_74) rfl (teq (by decide)).1 (by decide) (by decide) k) ?_
      show Goes p e below (T614.setTop (mkF m 79 #[.val (.int p1), .val (.int p2), .val (.int (0 : Int32)), .val (.int (1 : Int32)), .val (.ref aS), .val (.ref b609), .val (.int (4 : Int32)), .unset] [])) _
      refine Goes.of (fun t k => XS.iloadN X614.here hx rfl (hb hby at_79) rfl k) ?_
      show Goes p e below (T614.setTop (mkF m 80 #[.val (.int p1), .val (.int p2), .val (.int (0 : Int32)), .val (.int (1 : Int32)), .val (.ref aS), .val (.ref b609), .val (.int (4 : Int32)), .unset] [(.int (0 : Int32))])) _
      refine Goes.of (fun t k => XS.ifYes X614.here hx rfl (pc0 := 80) (pc' := 88) rfl (hb hby at_80) rfl ((if0 _ _).trans (teq (by decide)).1) (by decide) (by decide) k) ?_
      show Goes p e below (T614.setTop (mkF m 88 #[.val (.int p1), .val (.int p2), .val (.int (0 : Int32)), .val (.int (1 : Int32)), .val (.ref aS), .val (.ref b609), .val (.int (4 : Int32)), .unset] [])) _
      obtain ⟨a615, T615, h615, k615, b615, c615, X615, e615, E615, hS615, kS615, hZ, hown, S615, F615c, F615v, V615, -, -, C615, -, ne615, st615⟩ := ldcCH (EL := consts_1) X614 hx hZ hown (wd hw 77 rfl) (own_wS hw) e614 hS609 kR609 (own_EW hw) (by decide) C610.1 (vs := [(.int (115 : Int32)), (.int (117 : Int32)), (.int (98 : Int32)), (.int (106 : Int32)), (.int (101 : Int32)), (.int (99 : Int32)), (.int (116 : Int32))]) (z := (7 : Int32)) ⟨by decide, by rfl⟩ (by decide) (by decide) (g := (mkF m 88 #[.val (.int p1), .val (.int p2), .val (.int (0 : Int32)), .val (.int (1 : Int32)), .val (.ref aS), .val (.ref b609), .val (.int (4 : Int32)), .unset] [])) rfl (hb hby at_88) (n := 28) (by decide) (by decide) (by decide) (by decide)
      have C616 := C610.trans C615
      have z617 := Nat.le_trans z611 E615.1
      have z618 := Nat.le_trans kR609 E615.1
      have f619 := f613.ext E615
      have f620 := E609.ext E615
      have f621 := F609.ext E615
      have f622 := V609.ext E615
      have f623 := Es0_609.ext E615
      have f624 := Cs0_609.ext E615
      have f625 := Fs0_609.ext E615
      have f626 := Vs0_609.ext E615
      have f627 := Es1_609.ext E615
      have f628 := Cs1_609.ext E615
      have f629 := Fs1_609.ext E615
      have f630 := Vs1_609.ext E615
      have f631 := Es2_609.ext E615
      have f632 := Cs2_609.ext E615
      have f633 := Fs2_609.ext E615
      have f634 := Vs2_609.ext E615
      refine Goes.of st615 ?_
      show Goes p e below (T615.setTop (mkF m 90 #[.val (.int p1), .val (.int p2), .val (.int (0 : Int32)), .val (.int (1 : Int32)), .val (.ref aS), .val (.ref b609), .val (.int (4 : Int32)), .unset] [(.ref a615)])) _
      refine Goes.of (fun t k => XS.astore X615.here hx rfl (hb hby at_90) rfl rfl (l' := #[.val (.int p1), .val (.int p2), .val (.int (0 : Int32)), .val (.int (1 : Int32)), .val (.ref aS), .val (.ref b609), .val (.int (4 : Int32)), .val (.ref a615)]) rfl k) ?_
      show Goes p e below (T615.setTop (mkF m 92 #[.val (.int p1), .val (.int p2), .val (.int (0 : Int32)), .val (.int (1 : Int32)), .val (.ref aS), .val (.ref b609), .val (.int (4 : Int32)), .val (.ref a615)] [])) _
      refine Goes.of (fun t k => XS.aload X615.here hx rfl (hb hby at_92) rfl rfl k) ?_
      show Goes p e below (T615.setTop (mkF m 94 #[.val (.int p1), .val (.int p2), .val (.int (0 : Int32)), .val (.int (1 : Int32)), .val (.ref aS), .val (.ref b609), .val (.int (4 : Int32)), .val (.ref a615)] [(.ref a615)])) _
      refine Goes.of (fun t k => XS.aload X615.here hx rfl (hb hby at_94) rfl rfl k) ?_
      show Goes p e below (T615.setTop (mkF m 96 #[.val (.int p1), .val (.int p2), .val (.int (0 : Int32)), .val (.int (1 : Int32)), .val (.ref aS), .val (.ref b609), .val (.int (4 : Int32)), .val (.ref a615)] [(.ref b609), (.ref a615)])) _
      refine Goes.of (fun t k => XS.iconst X615.here hx rfl (hb hby at_96) k) ?_
      obtain ⟨cq635, kq635, q635a, q635b, q635c⟩ := isOf hZ e615 f620
      obtain ⟨_, _, ⟨T635, L635, k635, n635⟩, -, X635, ⟨Lc635, hQ635, l635, y635, z635⟩, st635⟩ := X615.interfaceBack hx (xi := (⟨"java/util/List", "get", "(I)Ljava/lang/Object;"⟩ : MethodName)) (y := (⟨"java/util/ImmutableCollections$ListN", "get", "(I)Ljava/lang/Object;"⟩ : MethodName)) hown (mvT hZ (wd hw 78 rfl)) (mvT hZ (wd hw 79 rfl)) (mvT hZ (wd hw 80 rfl)) (mvT hZ (wd hw 81 rfl)) (mvT hZ (wd hw 82 rfl)) (mvT hZ (wd hw 83 rfl)) (mvT hZ (wd hw 84 rfl)) (mvT hZ (wd hw 75 rfl)) (by decide) (backOf (W := 1) (rm11_239 l Z a0 hw [] b609 d609 q609 cS s0_609 s1_609 s2_609 h615 n0 z617 f621 f622) hZ (wd hw 85 rfl) (wd hw 38 rfl) (by decide) (by decide)) q635a q635b q635c (g := (mkF m 97 #[.val (.int p1), .val (.int p2), .val (.int (0 : Int32)), .val (.int (1 : Int32)), .val (.ref aS), .val (.ref b609), .val (.int (4 : Int32)), .val (.ref a615)] [(.int (0 : Int32)), (.ref b609), (.ref a615)])) rfl (by rw [hml]; rfl) (Steps.refl _) (argsL := [(.int (0 : Int32))]) (rest := [(.ref a615)]) (lenOf pd_20 rfl) rfl (by show 2 * 0 + _ ≤ _; exact Nat.le_of_eq rfl) (hb hby at_97) (fun _ _ => ⟨rfl, e615, (by decide : 10 + 0 ≤ _), (by decide : 126 + 0 ≤ _)⟩)
      dsimp only [Pt.U, Pt.locs, Pt.cells, Pt.slots] at X635 l635 y635 z635 st635 hQ635
      subst l635 y635 z635
      obtain ⟨rfl, N635q, e635⟩ := hQ635
      have N635 := Fr.app N614 N635q
      refine Goes.of (fun t k => st635.trans k) ?_
      obtain ⟨cq636, kq636, q636a, q636b, q636c⟩ := isOf hZ e635 S615
      obtain ⟨_, _, ⟨T636, L636, k636, n636⟩, -, X636, ⟨Lc636, hQ636, l636, y636, z636⟩, st636⟩ := X635.virtualBack hx (y := (⟨"java/lang/String", "equals", "(Ljava/lang/Object;)Z"⟩ : MethodName)) (z := (⟨"java/lang/String", "equals", "(Ljava/lang/Object;)Z"⟩ : MethodName)) hown (mvT hZ (wd hw 86 rfl)) (mvT hZ (wd hw 87 rfl)) (notFace_of_selects (args := #[]) (mvT hZ (wd hw 89 rfl))) (mvT hZ (wd hw 89 rfl)) (mvT hZ (wd hw 88 rfl)) (by decide) (backOf (W := 0) (rm12_427 l Z a0 hw [] a615 cS b615 bS c615 kS cmS (115 : Int32) (117 : Int32) (98 : Int32) (106 : Int32) (101 : Int32) (99 : Int32) (116 : Int32) h615 n0 z617 f619 SC cs0 S615 F615c F615v V615 (ES.ext f619.2) (CS.ext f619.2) (FS.ext f619.2) (VS.ext f619.2)) hZ (wd hw 90 rfl) (wd hw 11 rfl) (by decide) (by decide)) q636a q636c (g := (mkF m 102 #[.val (.int p1), .val (.int p2), .val (.int (0 : Int32)), .val (.int (1 : Int32)), .val (.ref aS), .val (.ref b609), .val (.int (4 : Int32)), .val (.ref a615)] [(.ref cS), (.ref a615)])) rfl (by rw [hml]; rfl) (Steps.refl _) (argsL := [(.ref cS)]) (rest := []) (lenOf pd_21 rfl) rfl (by show 2 * 0 + _ ≤ _; exact Nat.le_of_eq rfl) (hb hby at_102) (fun _ _ => ⟨rfl, e635, (by decide : 10 + 0 ≤ _), (by decide : 126 + 0 ≤ _)⟩)
      dsimp only [Pt.U, Pt.locs, Pt.cells, Pt.slots] at X636 l636 y636 z636 st636 hQ636
      subst l636 y636 z636
      obtain ⟨rfl, N636q, e636⟩ := hQ636
      have N636 := Fr.app N635 N636q
      refine Goes.of (fun t k => st636.trans k) ?_
      show Goes p e below (T636.setTop (mkF m 105 #[.val (.int p1), .val (.int p2), .val (.int (0 : Int32)), .val (.int (1 : Int32)), .val (.ref aS), .val (.ref b609), .val (.int (4 : Int32)), .val (.ref a615)] [(.int (1 : Int32))])) _
      refine Goes.of (fun t k => XS.ifYes X636.here hx rfl (pc0 := 105) (pc' := 110) rfl (hb hby at_105) rfl ((if0 _ _).trans (feq (by decide)).2) (by decide) (by decide) k) ?_
      show Goes p e below (T636.setTop (mkF m 110 #[.val (.int p1), .val (.int p2), .val (.int (0 : Int32)), .val (.int (1 : Int32)), .val (.ref aS), .val (.ref b609), .val (.int (4 : Int32)), .val (.ref a615)] [])) _
      obtain ⟨a637, T637, h637, k637, b637, c637, X637, e637, E637, hS637, kS637, hZ, hown, S637, F637c, F637v, V637, -, -, C637, -, ne637, st637⟩ := ldcCH (EL := consts_1) X636 hx hZ hown (wd hw 100 rfl) (own_wS hw) e636 hS615 kS615 (own_EW hw) (by decide) C616.1 (vs := [(.int (111 : Int32)), (.int (98 : Int32)), (.int (106 : Int32)), (.int (101 : Int32)), (.int (99 : Int32)), (.int (116 : Int32))]) (z := (6 : Int32)) ⟨by decide, by rfl⟩ (by decide) (by decide) (g := (mkF m 110 #[.val (.int p1), .val (.int p2), .val (.int (0 : Int32)), .val (.int (1 : Int32)), .val (.ref aS), .val (.ref b609), .val (.int (4 : Int32)), .val (.ref a615)] [])) rfl (hb hby at_110) (n := 24) (by decide) (by decide) (by decide) (by decide)
      have C638 := C616.trans C637
      have z639 := Nat.le_trans z617 E637.1
      have z640 := Nat.le_trans kS615 E637.1
      have f641 := f619.ext E637
      have f642 := f620.ext E637
      have f643 := f621.ext E637
      have f644 := f622.ext E637
      have f645 := f623.ext E637
      have f646 := f624.ext E637
      have f647 := f625.ext E637
      have f648 := f626.ext E637
      have f649 := f627.ext E637
      have f650 := f628.ext E637
      have f651 := f629.ext E637
      have f652 := f630.ext E637
      have f653 := f631.ext E637
      have f654 := f632.ext E637
      have f655 := f633.ext E637
      have f656 := f634.ext E637
      have f657 := S615.ext E637
      have f658 := F615c.ext E637
      have f659 := F615v.ext E637
      have f660 := V615.ext E637
      refine Goes.of st637 ?_
      show Goes p e below (T637.setTop (mkF m 112 #[.val (.int p1), .val (.int p2), .val (.int (0 : Int32)), .val (.int (1 : Int32)), .val (.ref aS), .val (.ref b609), .val (.int (4 : Int32)), .val (.ref a615)] [(.ref a637)])) _
      refine Goes.of (fun t k => XS.aload X637.here hx rfl (hb hby at_112) rfl rfl k) ?_
      show Goes p e below (T637.setTop (mkF m 114 #[.val (.int p1), .val (.int p2), .val (.int (0 : Int32)), .val (.int (1 : Int32)), .val (.ref aS), .val (.ref b609), .val (.int (4 : Int32)), .val (.ref a615)] [(.ref b609), (.ref a637)])) _
      refine Goes.of (fun t k => XS.iconst X637.here hx rfl (hb hby at_114) k) ?_
      obtain ⟨cq661, kq661, q661a, q661b, q661c⟩ := isOf hZ e637 f642
      obtain ⟨_, _, ⟨T661, L661, k661, n661⟩, -, X661, ⟨Lc661, hQ661, l661, y661, z661⟩, st661⟩ := X637.interfaceBack hx (xi := (⟨"java/util/List", "get", "(I)Ljava/lang/Object;"⟩ : MethodName)) (y := (⟨"java/util/ImmutableCollections$ListN", "get", "(I)Ljava/lang/Object;"⟩ : MethodName)) hown (mvT hZ (wd hw 78 rfl)) (mvT hZ (wd hw 79 rfl)) (mvT hZ (wd hw 80 rfl)) (mvT hZ (wd hw 81 rfl)) (mvT hZ (wd hw 82 rfl)) (mvT hZ (wd hw 83 rfl)) (mvT hZ (wd hw 84 rfl)) (mvT hZ (wd hw 75 rfl)) (by decide) (backOf (W := 1) (rm11_244 l Z a0 hw [] b609 d609 q609 cS s0_609 s1_609 s2_609 h637 n0 z639 f643 f644) hZ (wd hw 85 rfl) (wd hw 38 rfl) (by decide) (by decide)) q661a q661b q661c (g := (mkF m 115 #[.val (.int p1), .val (.int p2), .val (.int (0 : Int32)), .val (.int (1 : Int32)), .val (.ref aS), .val (.ref b609), .val (.int (4 : Int32)), .val (.ref a615)] [(.int (1 : Int32)), (.ref b609), (.ref a637)])) rfl (by rw [hml]; rfl) (Steps.refl _) (argsL := [(.int (1 : Int32))]) (rest := [(.ref a637)]) (lenOf pd_20 rfl) rfl (by show 2 * 0 + _ ≤ _; exact Nat.le_of_eq rfl) (hb hby at_115) (fun _ _ => ⟨rfl, e637, (by decide : 12 + 0 ≤ _), (by decide : 154 + 0 ≤ _)⟩)
      dsimp only [Pt.U, Pt.locs, Pt.cells, Pt.slots] at X661 l661 y661 z661 st661 hQ661
      subst l661 y661 z661
      obtain ⟨rfl, N661q, e661⟩ := hQ661
      have N661 := Fr.app N636 N661q
      refine Goes.of (fun t k => st661.trans k) ?_
      obtain ⟨cq662, kq662, q662a, q662b, q662c⟩ := isOf hZ e661 S637
      obtain ⟨_, _, ⟨T662, L662, k662, n662⟩, -, X662, ⟨Lc662, hQ662, l662, y662, z662⟩, st662⟩ := X661.virtualBack hx (y := (⟨"java/lang/String", "equals", "(Ljava/lang/Object;)Z"⟩ : MethodName)) (z := (⟨"java/lang/String", "equals", "(Ljava/lang/Object;)Z"⟩ : MethodName)) hown (mvT hZ (wd hw 86 rfl)) (mvT hZ (wd hw 87 rfl)) (notFace_of_selects (args := #[]) (mvT hZ (wd hw 89 rfl))) (mvT hZ (wd hw 89 rfl)) (mvT hZ (wd hw 88 rfl)) (by decide) (backOf (W := 0) (rm12_356 l Z a0 hw [] a637 s0_609 b637 t0_609 c637 u0_609 cmS (111 : Int32) (98 : Int32) (106 : Int32) (101 : Int32) (99 : Int32) (116 : Int32) h637 n0 z639 f641 SC cs0 S637 F637c F637v V637 f645 f646 f647 f648) hZ (wd hw 90 rfl) (wd hw 11 rfl) (by decide) (by decide)) q662a q662c (g := (mkF m 120 #[.val (.int p1), .val (.int p2), .val (.int (0 : Int32)), .val (.int (1 : Int32)), .val (.ref aS), .val (.ref b609), .val (.int (4 : Int32)), .val (.ref a615)] [(.ref s0_609), (.ref a637)])) rfl (by rw [hml]; rfl) (Steps.refl _) (argsL := [(.ref s0_609)]) (rest := []) (lenOf pd_21 rfl) rfl (by show 2 * 0 + _ ≤ _; exact Nat.le_of_eq rfl) (hb hby at_120) (fun _ _ => ⟨rfl, e661, (by decide : 12 + 0 ≤ _), (by decide : 154 + 0 ≤ _)⟩)
      dsimp only [Pt.U, Pt.locs, Pt.cells, Pt.slots] at X662 l662 y662 z662 st662 hQ662
      subst l662 y662 z662
      obtain ⟨rfl, N662q, e662⟩ := hQ662
      have N662 := Fr.app N661 N662q
      refine Goes.of (fun t k => st662.trans k) ?_
      show Goes p e below (T662.setTop (mkF m 123 #[.val (.int p1), .val (.int p2), .val (.int (0 : Int32)), .val (.int (1 : Int32)), .val (.ref aS), .val (.ref b609), .val (.int (4 : Int32)), .val (.ref a615)] [(.int (1 : Int32))])) _
      refine Goes.of (fun t k => XS.ifYes X662.here hx rfl (pc0 := 123) (pc' := 128) rfl (hb hby at_123) rfl ((if0 _ _).trans (feq (by decide)).2) (by decide) (by decide) k) ?_
      show Goes p e below (T662.setTop (mkF m 128 #[.val (.int p1), .val (.int p2), .val (.int (0 : Int32)), .val (.int (1 : Int32)), .val (.ref aS), .val (.ref b609), .val (.int (4 : Int32)), .val (.ref a615)] [])) _
      obtain ⟨a663, T663, h663, k663, b663, c663, X663, e663, E663, hS663, kS663, hZ, hown, S663, F663c, F663v, V663, -, -, C663, -, ne663, st663⟩ := ldcCH (EL := consts_1) X662 hx hZ hown (wd hw 101 rfl) (own_wS hw) e662 hS637 kS637 (own_EW hw) (by decide) C638.1 (vs := [(.int (97 : Int32)), (.int (99 : Int32)), (.int (99 : Int32)), (.int (101 : Int32)), (.int (115 : Int32)), (.int (115 : Int32))]) (z := (6 : Int32)) ⟨by decide, by rfl⟩ (by decide) (by decide) (g := (mkF m 128 #[.val (.int p1), .val (.int p2), .val (.int (0 : Int32)), .val (.int (1 : Int32)), .val (.ref aS), .val (.ref b609), .val (.int (4 : Int32)), .val (.ref a615)] [])) rfl (hb hby at_128) (n := 24) (by decide) (by decide) (by decide) (by decide)
      have C664 := C638.trans C663
      have z665 := Nat.le_trans z639 E663.1
      have z666 := Nat.le_trans kS637 E663.1
      have f667 := f641.ext E663
      have f668 := f642.ext E663
      have f669 := f643.ext E663
      have f670 := f644.ext E663
      have f671 := f645.ext E663
      have f672 := f646.ext E663
      have f673 := f647.ext E663
      have f674 := f648.ext E663
      have f675 := f649.ext E663
      have f676 := f650.ext E663
      have f677 := f651.ext E663
      have f678 := f652.ext E663
      have f679 := f653.ext E663
      have f680 := f654.ext E663
      have f681 := f655.ext E663
      have f682 := f656.ext E663
      have f683 := f657.ext E663
      have f684 := f658.ext E663
      have f685 := f659.ext E663
      have f686 := f660.ext E663
      have f687 := S637.ext E663
      have f688 := F637c.ext E663
      have f689 := F637v.ext E663
      have f690 := V637.ext E663
      refine Goes.of st663 ?_
      show Goes p e below (T663.setTop (mkF m 130 #[.val (.int p1), .val (.int p2), .val (.int (0 : Int32)), .val (.int (1 : Int32)), .val (.ref aS), .val (.ref b609), .val (.int (4 : Int32)), .val (.ref a615)] [(.ref a663)])) _
      refine Goes.of (fun t k => XS.aload X663.here hx rfl (hb hby at_130) rfl rfl k) ?_
      show Goes p e below (T663.setTop (mkF m 132 #[.val (.int p1), .val (.int p2), .val (.int (0 : Int32)), .val (.int (1 : Int32)), .val (.ref aS), .val (.ref b609), .val (.int (4 : Int32)), .val (.ref a615)] [(.ref b609), (.ref a663)])) _
      refine Goes.of (fun t k => XS.iconst X663.here hx rfl (hb hby at_132) k) ?_
      obtain ⟨cq691, kq691, q691a, q691b, q691c⟩ := isOf hZ e663 f668
      obtain ⟨_, _, ⟨T691, L691, k691, n691⟩, -, X691, ⟨Lc691, hQ691, l691, y691, z691⟩, st691⟩ := X663.interfaceBack hx (xi := (⟨"java/util/List", "get", "(I)Ljava/lang/Object;"⟩ : MethodName)) (y := (⟨"java/util/ImmutableCollections$ListN", "get", "(I)Ljava/lang/Object;"⟩ : MethodName)) hown (mvT hZ (wd hw 78 rfl)) (mvT hZ (wd hw 79 rfl)) (mvT hZ (wd hw 80 rfl)) (mvT hZ (wd hw 81 rfl)) (mvT hZ (wd hw 82 rfl)) (mvT hZ (wd hw 83 rfl)) (mvT hZ (wd hw 84 rfl)) (mvT hZ (wd hw 75 rfl)) (by decide) (backOf (W := 1) (rm11_249 l Z a0 hw [] b609 d609 q609 cS s0_609 s1_609 s2_609 h663 n0 z665 f669 f670) hZ (wd hw 85 rfl) (wd hw 38 rfl) (by decide) (by decide)) q691a q691b q691c (g := (mkF m 133 #[.val (.int p1), .val (.int p2), .val (.int (0 : Int32)), .val (.int (1 : Int32)), .val (.ref aS), .val (.ref b609), .val (.int (4 : Int32)), .val (.ref a615)] [(.int (2 : Int32)), (.ref b609), (.ref a663)])) rfl (by rw [hml]; rfl) (Steps.refl _) (argsL := [(.int (2 : Int32))]) (rest := [(.ref a663)]) (lenOf pd_20 rfl) rfl (by show 2 * 0 + _ ≤ _; exact Nat.le_of_eq rfl) (hb hby at_133) (fun _ _ => ⟨rfl, e663, (by decide : 14 + 0 ≤ _), (by decide : 182 + 0 ≤ _)⟩)
      dsimp only [Pt.U, Pt.locs, Pt.cells, Pt.slots] at X691 l691 y691 z691 st691 hQ691
      subst l691 y691 z691
      obtain ⟨rfl, N691q, e691⟩ := hQ691
      have N691 := Fr.app N662 N691q
      refine Goes.of (fun t k => st691.trans k) ?_
      obtain ⟨cq692, kq692, q692a, q692b, q692c⟩ := isOf hZ e691 S663
      obtain ⟨_, _, ⟨T692, L692, k692, n692⟩, -, X692, ⟨Lc692, hQ692, l692, y692, z692⟩, st692⟩ := X691.virtualBack hx (y := (⟨"java/lang/String", "equals", "(Ljava/lang/Object;)Z"⟩ : MethodName)) (z := (⟨"java/lang/String", "equals", "(Ljava/lang/Object;)Z"⟩ : MethodName)) hown (mvT hZ (wd hw 86 rfl)) (mvT hZ (wd hw 87 rfl)) (notFace_of_selects (args := #[]) (mvT hZ (wd hw 89 rfl))) (mvT hZ (wd hw 89 rfl)) (mvT hZ (wd hw 88 rfl)) (by decide) (backOf (W := 0) (rm12_356 l Z a0 hw [] a663 s1_609 b663 t1_609 c663 u1_609 cmS (97 : Int32) (99 : Int32) (99 : Int32) (101 : Int32) (115 : Int32) (115 : Int32) h663 n0 z665 f667 SC cs0 S663 F663c F663v V663 f675 f676 f677 f678) hZ (wd hw 90 rfl) (wd hw 11 rfl) (by decide) (by decide)) q692a q692c (g := (mkF m 138 #[.val (.int p1), .val (.int p2), .val (.int (0 : Int32)), .val (.int (1 : Int32)), .val (.ref aS), .val (.ref b609), .val (.int (4 : Int32)), .val (.ref a615)] [(.ref s1_609), (.ref a663)])) rfl (by rw [hml]; rfl) (Steps.refl _) (argsL := [(.ref s1_609)]) (rest := []) (lenOf pd_21 rfl) rfl (by show 2 * 0 + _ ≤ _; exact Nat.le_of_eq rfl) (hb hby at_138) (fun _ _ => ⟨rfl, e691, (by decide : 14 + 0 ≤ _), (by decide : 182 + 0 ≤ _)⟩)
      dsimp only [Pt.U, Pt.locs, Pt.cells, Pt.slots] at X692 l692 y692 z692 st692 hQ692
      subst l692 y692 z692
      obtain ⟨rfl, N692q, e692⟩ := hQ692
      have N692 := Fr.app N691 N692q
      refine Goes.of (fun t k => st692.trans k) ?_
      show Goes p e below (T692.setTop (mkF m 141 #[.val (.int p1), .val (.int p2), .val (.int (0 : Int32)), .val (.int (1 : Int32)), .val (.ref aS), .val (.ref b609), .val (.int (4 : Int32)), .val (.ref a615)] [(.int (1 : Int32))])) _
      refine Goes.of (fun t k => XS.ifYes X692.here hx rfl (pc0 := 141) (pc' := 146) rfl (hb hby at_141) rfl ((if0 _ _).trans (feq (by decide)).2) (by decide) (by decide) k) ?_
      show Goes p e below (T692.setTop (mkF m 146 #[.val (.int p1), .val (.int p2), .val (.int (0 : Int32)), .val (.int (1 : Int32)), .val (.ref aS), .val (.ref b609), .val (.int (4 : Int32)), .val (.ref a615)] [])) _
      refine Goes.of (fun t k => XS.iloadN X692.here hx rfl (hb hby at_146) rfl k) ?_
      show Goes p e below (T692.setTop (mkF m 147 #[.val (.int p1), .val (.int p2), .val (.int (0 : Int32)), .val (.int (1 : Int32)), .val (.ref aS), .val (.ref b609), .val (.int (4 : Int32)), .val (.ref a615)] [(.int (1 : Int32))])) _
      refine Goes.of (fun t k => XS.ifNo X692.here hx rfl (hb hby at_147) rfl ((if0 _ _).trans (feq (by decide)).1) k) ?_
      show Goes p e below (T692.setTop (mkF m 150 #[.val (.int p1), .val (.int p2), .val (.int (0 : Int32)), .val (.int (1 : Int32)), .val (.ref aS), .val (.ref b609), .val (.int (4 : Int32)), .val (.ref a615)] [])) _
      obtain ⟨a693, T693, h693, k693, b693, c693, X693, e693, E693, hS693, kS693, hZ, hown, S693, F693c, F693v, V693, -, -, C693, -, ne693, st693⟩ := ldcCH (EL := consts_1) X692 hx hZ hown (wd hw 102 rfl) (own_wS hw) e692 hS663 kS663 (own_EW hw) (by decide) C664.1 (vs := [(.int (116 : Int32)), (.int (114 : Int32)), (.int (117 : Int32)), (.int (115 : Int32)), (.int (116 : Int32)), (.int (101 : Int32)), (.int (100 : Int32))]) (z := (7 : Int32)) ⟨by decide, by rfl⟩ (by decide) (by decide) (g := (mkF m 150 #[.val (.int p1), .val (.int p2), .val (.int (0 : Int32)), .val (.int (1 : Int32)), .val (.ref aS), .val (.ref b609), .val (.int (4 : Int32)), .val (.ref a615)] [])) rfl (hb hby at_150) (n := 28) (by decide) (by decide) (by decide) (by decide)
      have C694 := C664.trans C693
      have z695 := Nat.le_trans z665 E693.1
      have z696 := Nat.le_trans kS663 E693.1
      have f697 := f667.ext E693
      have f698 := f668.ext E693
      have f699 := f669.ext E693
      have f700 := f670.ext E693
      have f701 := f671.ext E693
      have f702 := f672.ext E693
      have f703 := f673.ext E693
      have f704 := f674.ext E693
      have f705 := f675.ext E693
      have f706 := f676.ext E693
      have f707 := f677.ext E693
      have f708 := f678.ext E693
      have f709 := f679.ext E693
      have f710 := f680.ext E693
      have f711 := f681.ext E693
      have f712 := f682.ext E693
      have f713 := f683.ext E693
      have f714 := f684.ext E693
      have f715 := f685.ext E693
      have f716 := f686.ext E693
      have f717 := f687.ext E693
      have f718 := f688.ext E693
      have f719 := f689.ext E693
      have f720 := f690.ext E693
      have f721 := S663.ext E693
      have f722 := F663c.ext E693
      have f723 := F663v.ext E693
      have f724 := V663.ext E693
      refine Goes.of st693 ?_
      show Goes p e below (T693.setTop (mkF m 152 #[.val (.int p1), .val (.int p2), .val (.int (0 : Int32)), .val (.int (1 : Int32)), .val (.ref aS), .val (.ref b609), .val (.int (4 : Int32)), .val (.ref a615)] [(.ref a693)])) _
      refine Goes.of (fun t k => XS.aload X693.here hx rfl (hb hby at_152) rfl rfl k) ?_
      show Goes p e below (T693.setTop (mkF m 154 #[.val (.int p1), .val (.int p2), .val (.int (0 : Int32)), .val (.int (1 : Int32)), .val (.ref aS), .val (.ref b609), .val (.int (4 : Int32)), .val (.ref a615)] [(.ref b609), (.ref a693)])) _
      refine Goes.of (fun t k => XS.iconst X693.here hx rfl (hb hby at_154) k) ?_
      obtain ⟨cq725, kq725, q725a, q725b, q725c⟩ := isOf hZ e693 f698
      obtain ⟨_, _, ⟨T725, L725, k725, n725⟩, -, X725, ⟨Lc725, hQ725, l725, y725, z725⟩, st725⟩ := X693.interfaceBack hx (xi := (⟨"java/util/List", "get", "(I)Ljava/lang/Object;"⟩ : MethodName)) (y := (⟨"java/util/ImmutableCollections$ListN", "get", "(I)Ljava/lang/Object;"⟩ : MethodName)) hown (mvT hZ (wd hw 78 rfl)) (mvT hZ (wd hw 79 rfl)) (mvT hZ (wd hw 80 rfl)) (mvT hZ (wd hw 81 rfl)) (mvT hZ (wd hw 82 rfl)) (mvT hZ (wd hw 83 rfl)) (mvT hZ (wd hw 84 rfl)) (mvT hZ (wd hw 75 rfl)) (by decide) (backOf (W := 1) (rm11_254 l Z a0 hw [] b609 d609 q609 cS s0_609 s1_609 s2_609 h693 n0 z695 f699 f700) hZ (wd hw 85 rfl) (wd hw 38 rfl) (by decide) (by decide)) q725a q725b q725c (g := (mkF m 155 #[.val (.int p1), .val (.int p2), .val (.int (0 : Int32)), .val (.int (1 : Int32)), .val (.ref aS), .val (.ref b609), .val (.int (4 : Int32)), .val (.ref a615)] [(.int (3 : Int32)), (.ref b609), (.ref a693)])) rfl (by rw [hml]; rfl) (Steps.refl _) (argsL := [(.int (3 : Int32))]) (rest := [(.ref a693)]) (lenOf pd_20 rfl) rfl (by show 2 * 0 + _ ≤ _; exact Nat.le_of_eq rfl) (hb hby at_155) (fun _ _ => ⟨rfl, e693, (by decide : 16 + 0 ≤ _), (by decide : 214 + 0 ≤ _)⟩)
      dsimp only [Pt.U, Pt.locs, Pt.cells, Pt.slots] at X725 l725 y725 z725 st725 hQ725
      subst l725 y725 z725
      obtain ⟨rfl, N725q, e725⟩ := hQ725
      have N725 := Fr.app N692 N725q
      refine Goes.of (fun t k => st725.trans k) ?_
      obtain ⟨cq726, kq726, q726a, q726b, q726c⟩ := isOf hZ e725 S693
      obtain ⟨_, _, ⟨T726, L726, k726, n726⟩, -, X726, ⟨Lc726, hQ726, l726, y726, z726⟩, st726⟩ := X725.virtualBack hx (y := (⟨"java/lang/String", "equals", "(Ljava/lang/Object;)Z"⟩ : MethodName)) (z := (⟨"java/lang/String", "equals", "(Ljava/lang/Object;)Z"⟩ : MethodName)) hown (mvT hZ (wd hw 86 rfl)) (mvT hZ (wd hw 87 rfl)) (notFace_of_selects (args := #[]) (mvT hZ (wd hw 89 rfl))) (mvT hZ (wd hw 89 rfl)) (mvT hZ (wd hw 88 rfl)) (by decide) (backOf (W := 0) (rm12_427 l Z a0 hw [] a693 s2_609 b693 t2_609 c693 u2_609 cmS (116 : Int32) (114 : Int32) (117 : Int32) (115 : Int32) (116 : Int32) (101 : Int32) (100 : Int32) h693 n0 z695 f697 SC cs0 S693 F693c F693v V693 f709 f710 f711 f712) hZ (wd hw 90 rfl) (wd hw 11 rfl) (by decide) (by decide)) q726a q726c (g := (mkF m 160 #[.val (.int p1), .val (.int p2), .val (.int (0 : Int32)), .val (.int (1 : Int32)), .val (.ref aS), .val (.ref b609), .val (.int (4 : Int32)), .val (.ref a615)] [(.ref s2_609), (.ref a693)])) rfl (by rw [hml]; rfl) (Steps.refl _) (argsL := [(.ref s2_609)]) (rest := []) (lenOf pd_21 rfl) rfl (by show 2 * 0 + _ ≤ _; exact Nat.le_of_eq rfl) (hb hby at_160) (fun _ _ => ⟨rfl, e725, (by decide : 16 + 0 ≤ _), (by decide : 214 + 0 ≤ _)⟩)
      dsimp only [Pt.U, Pt.locs, Pt.cells, Pt.slots] at X726 l726 y726 z726 st726 hQ726
      subst l726 y726 z726
      obtain ⟨rfl, N726q, e726⟩ := hQ726
      have N726 := Fr.app N725 N726q
      refine Goes.of (fun t k => st726.trans k) ?_
      show Goes p e below (T726.setTop (mkF m 163 #[.val (.int p1), .val (.int p2), .val (.int (0 : Int32)), .val (.int (1 : Int32)), .val (.ref aS), .val (.ref b609), .val (.int (4 : Int32)), .val (.ref a615)] [(.int (1 : Int32))])) _
      refine Goes.of (fun t k => XS.ifYes X726.here hx rfl (pc0 := 163) (pc' := 168) rfl (hb hby at_163) rfl ((if0 _ _).trans (feq (by decide)).2) (by decide) (by decide) k) ?_
      show Goes p e below (T726.setTop (mkF m 168 #[.val (.int p1), .val (.int p2), .val (.int (0 : Int32)), .val (.int (1 : Int32)), .val (.ref aS), .val (.ref b609), .val (.int (4 : Int32)), .val (.ref a615)] [])) _
      refine Goes.of (fun t k => XS.iconst X726.here hx rfl (hb hby at_168) k) ?_
      show Goes p e below (T726.setTop (mkF m 169 #[.val (.int p1), .val (.int p2), .val (.int (0 : Int32)), .val (.int (1 : Int32)), .val (.ref aS), .val (.ref b609), .val (.int (4 : Int32)), .val (.ref a615)] [(.int (1 : Int32))])) _
      have eh : T726.heap = h693 := e726
      have hCH : CHr Z consts_1 s.vm s.heap T726.vm T726.heap := by rw [eh, hh]; exact C694.trans (CHv.at X726 hZ (own_EW hw) C694.1)
      exact Goes.retNH (t := .boolean) X726 hS693 (by rw [e726]; exact kS693) hx Bd.returns (by simp) hlocks (hb hby at_169) (⟨rfl, N726⟩) (hCH) (by decide) (by decide)
  · refine Goes.of (fun t k => XS.ifNo X0.here hx rfl (hb hby at_3) rfl ((if0 _ _).trans (feq hc3_533).1) k) ?_
    show Goes p e below (s₁.setTop (mkF m 6 #[.val (.int p1), .val (.int p2), .unset, .unset, .unset, .unset, .unset, .unset] [])) _
    refine Goes.of (fun t k => XS.iconst X0.here hx rfl (hb hby at_6) k) ?_
    show Goes p e below (s₁.setTop (mkF m 7 #[.val (.int p1), .val (.int p2), .unset, .unset, .unset, .unset, .unset, .unset] [(.int (1 : Int32))])) _
    refine Goes.of (fun t k => XS.goto X0.here hx rfl (pc0 := 7) (pc' := 11) rfl (hb hby at_7) (by decide) (by decide) k) ?_
    show Goes p e below (s₁.setTop (mkF m 11 #[.val (.int p1), .val (.int p2), .unset, .unset, .unset, .unset, .unset, .unset] [(.int (1 : Int32))])) _
    refine Goes.of (fun t k => XS.istoreN X0.here hx rfl (hb hby at_11) rfl (l' := #[.val (.int p1), .val (.int p2), .val (.int (1 : Int32)), .unset, .unset, .unset, .unset, .unset]) rfl k) ?_
    show Goes p e below (s₁.setTop (mkF m 12 #[.val (.int p1), .val (.int p2), .val (.int (1 : Int32)), .unset, .unset, .unset, .unset, .unset] [])) _
    refine Goes.of (fun t k => XS.iloadN X0.here hx rfl (hb hby at_12) rfl k) ?_
    show Goes p e below (s₁.setTop (mkF m 13 #[.val (.int p1), .val (.int p2), .val (.int (1 : Int32)), .unset, .unset, .unset, .unset, .unset] [(.int p2)])) _
    refine Goes.of (fun t k => XS.iconst X0.here hx rfl (hb hby at_13) k) ?_
    show Goes p e below (s₁.setTop (mkF m 14 #[.val (.int p1), .val (.int p2), .val (.int (1 : Int32)), .unset, .unset, .unset, .unset, .unset] [(.int (1 : Int32)), (.int p2)])) _
    refine Goes.of (fun t k => XS.iand X0.here hx rfl (hb hby at_14) rfl k) ?_
    show Goes p e below (s₁.setTop (mkF m 15 #[.val (.int p1), .val (.int p2), .val (.int (1 : Int32)), .unset, .unset, .unset, .unset, .unset] [(.int (p2 &&& (1 : Int32)))])) _
    by_cases hc15_727 : (p2 &&& (1 : Int32)) = (0 : Int32)
    · refine Goes.of (fun t k => XS.ifYes X0.here hx rfl (pc0 := 15) (pc' := 22) rfl (hb hby at_15) rfl ((if0 _ _).trans (teq hc15_727).1) (by decide) (by decide) k) ?_
      show Goes p e below (s₁.setTop (mkF m 22 #[.val (.int p1), .val (.int p2), .val (.int (1 : Int32)), .unset, .unset, .unset, .unset, .unset] [])) _
      refine Goes.of (fun t k => XS.iconst X0.here hx rfl (hb hby at_22) k) ?_
      show Goes p e below (s₁.setTop (mkF m 23 #[.val (.int p1), .val (.int p2), .val (.int (1 : Int32)), .unset, .unset, .unset, .unset, .unset] [(.int (0 : Int32))])) _
      refine Goes.of (fun t k => XS.istoreN X0.here hx rfl (hb hby at_23) rfl (l' := #[.val (.int p1), .val (.int p2), .val (.int (1 : Int32)), .val (.int (0 : Int32)), .unset, .unset, .unset, .unset]) rfl k) ?_
      show Goes p e below (s₁.setTop (mkF m 24 #[.val (.int p1), .val (.int p2), .val (.int (1 : Int32)), .val (.int (0 : Int32)), .unset, .unset, .unset, .unset] [])) _
      refine Goes.of (fun t k => XS.iloadN X0.here hx rfl (hb hby at_24) rfl k) ?_
      show Goes p e below (s₁.setTop (mkF m 25 #[.val (.int p1), .val (.int p2), .val (.int (1 : Int32)), .val (.int (0 : Int32)), .unset, .unset, .unset, .unset] [(.int (1 : Int32))])) _
      refine Goes.of (fun t k => XS.ifNo X0.here hx rfl (hb hby at_25) rfl ((if0 _ _).trans (feq (by decide)).1) k) ?_
      obtain ⟨T728, X728, e728, st728⟩ := getS2 X0 hx hZ hown (host := "") (Or.inl (wd hw 106 rfl)) Via.refl e0 (SR.ext O0.2) (g := (mkF m 28 #[.val (.int p1), .val (.int p2), .val (.int (1 : Int32)), .val (.int (0 : Int32)), .unset, .unset, .unset, .unset] [])) rfl (hb hby at_28)
      refine Goes.of st728 ?_
      show Goes p e below (T728.setTop (mkF m 31 #[.val (.int p1), .val (.int p2), .val (.int (1 : Int32)), .val (.int (0 : Int32)), .unset, .unset, .unset, .unset] [(.ref aR)])) _
      refine Goes.of (fun t k => XS.goto X728.here hx rfl (pc0 := 31) (pc' := 37) rfl (hb hby at_31) (by decide) (by decide) k) ?_
      show Goes p e below (T728.setTop (mkF m 37 #[.val (.int p1), .val (.int p2), .val (.int (1 : Int32)), .val (.int (0 : Int32)), .unset, .unset, .unset, .unset] [(.ref aR)])) _
      refine Goes.of (fun t k => XS.astore X728.here hx rfl (hb hby at_37) rfl rfl (l' := #[.val (.int p1), .val (.int p2), .val (.int (1 : Int32)), .val (.int (0 : Int32)), .val (.ref aR), .unset, .unset, .unset]) rfl k) ?_
      show Goes p e below (T728.setTop (mkF m 39 #[.val (.int p1), .val (.int p2), .val (.int (1 : Int32)), .val (.int (0 : Int32)), .val (.ref aR), .unset, .unset, .unset] [])) _
      refine Goes.of (fun t k => XS.aload X728.here hx rfl (hb hby at_39) rfl rfl k) ?_
      show Goes p e below (T728.setTop (mkF m 41 #[.val (.int p1), .val (.int p2), .val (.int (1 : Int32)), .val (.int (0 : Int32)), .val (.ref aR), .unset, .unset, .unset] [(.ref aR)])) _
      refine Goes.of (fun t k => XS.iloadN X728.here hx rfl (hb hby at_41) rfl k) ?_
      obtain ⟨cq729, kq729, q729a, q729b, q729c⟩ := isOf hZ e728 (XhR.ext O0.2)
      obtain ⟨_, _, ⟨T729, L729, k729, n729⟩, -, X729, hS729, kS729, ⟨Lc729, hQ729, l729, y729, z729, cc729⟩, st729⟩ := X728.virtualBackS hx (y := (⟨"com/example/leaklint/leaklint/GrantListHeader", "fields", "(Z)Ljava/util/List;"⟩ : MethodName)) (z := (⟨"com/example/leaklint/leaklint/GrantListHeader", "fields", "(Z)Ljava/util/List;"⟩ : MethodName)) hown (mvT hZ (wd hw 3 rfl)) (mvT hZ (wd hw 4 rfl)) (notFace_of_selects (args := #[]) (mvT hZ (wd hw 6 rfl))) (mvT hZ (wd hw 6 rfl)) (mvT hZ (wd hw 5 rfl)) (by decide) (backOfSH (EL := consts_1) (vm0 := s.vm) (W := 0) (rm1 l Z a0 hw [] aR cR h0 n0 Z0 O0 SA (YR.ext O0.2) (ER.ext O0.2)) hZ (wd hw 7 rfl) (wd hw 1 rfl) (by decide) (by decide) (own_EW hw) C0.1) q729a q729c (g := (mkF m 42 #[.val (.int p1), .val (.int p2), .val (.int (1 : Int32)), .val (.int (0 : Int32)), .val (.ref aR), .unset, .unset, .unset] [(.int (0 : Int32)), (.ref aR)])) rfl (by rw [hml]; rfl) (Steps.refl _) (argsL := [(.int (0 : Int32))]) (rest := []) (lenOf pd_18 rfl) rfl (by show 2 * 0 + _ ≤ _; exact Nat.le_of_eq rfl) (hb hby at_42) (fun _ _ => ⟨rfl, e728, (by decide : 0 + 6 ≤ _), (by decide : 0 + 61 ≤ _)⟩)
      dsimp only [Pt.U, Pt.locs, Pt.cells, Pt.slots] at X729 l729 y729 z729 st729 hQ729 hS729 kS729 cc729
      subst l729 y729 z729
      obtain ⟨X729, hS729, hZ, hown⟩ := rebS hS0 (by rw [e728]; exact kS0) X729 hS729 kS729 hZ hown
      obtain ⟨b729, d729, q729, s0_729, t0_729, u0_729, s1_729, t1_729, u1_729, rfl, N729q, K729, E729, F729, V729, Es0_729, Cs0_729, Fs0_729, Vs0_729, Es1_729, Cs1_729, Fs1_729, Vs1_729⟩ := hQ729
      have N729 := Fr.app N0 N729q
      have C730 := C0.trans cc729
      have z731 := Nat.le_trans Z0 K729.1
      have z732 := Nat.le_trans kS0 K729.1
      have f733 := O0.keep K729 all0
      have kR729 : T729.heap.size ≤ T729.heap.size := Nat.le_refl _
      refine Goes.of (fun t k => st729.trans k) ?_
      show Goes p e below (T729.setTop (mkF m 45 #[.val (.int p1), .val (.int p2), .val (.int (1 : Int32)), .val (.int (0 : Int32)), .val (.ref aR), .unset, .unset, .unset] [(.ref b729)])) _
      refine Goes.of (fun t k => XS.astore X729.here hx rfl (hb hby at_45) rfl rfl (l' := #[.val (.int p1), .val (.int p2), .val (.int (1 : Int32)), .val (.int (0 : Int32)), .val (.ref aR), .val (.ref b729), .unset, .unset]) rfl k) ?_
      show Goes p e below (T729.setTop (mkF m 47 #[.val (.int p1), .val (.int p2), .val (.int (1 : Int32)), .val (.int (0 : Int32)), .val (.ref aR), .val (.ref b729), .unset, .unset] [])) _
      refine Goes.of (fun t k => XS.aload X729.here hx rfl (hb hby at_47) rfl rfl k) ?_
      show Goes p e below (T729.setTop (mkF m 49 #[.val (.int p1), .val (.int p2), .val (.int (1 : Int32)), .val (.int (0 : Int32)), .val (.ref aR), .val (.ref b729), .unset, .unset] [(.ref b729)])) _
      refine Goes.of (fun t k => XS.ifnonnullYes X729.here hx rfl (pc0 := 49) (pc' := 54) rfl (hb hby at_49) rfl (by decide) (by decide) k) ?_
      show Goes p e below (T729.setTop (mkF m 54 #[.val (.int p1), .val (.int p2), .val (.int (1 : Int32)), .val (.int (0 : Int32)), .val (.ref aR), .val (.ref b729), .unset, .unset] [])) _
      refine Goes.of (fun t k => XS.iloadN X729.here hx rfl (hb hby at_54) rfl k) ?_
      show Goes p e below (T729.setTop (mkF m 55 #[.val (.int p1), .val (.int p2), .val (.int (1 : Int32)), .val (.int (0 : Int32)), .val (.ref aR), .val (.ref b729), .unset, .unset] [(.int (0 : Int32))])) _
      refine Goes.of (fun t k => XS.ifYes X729.here hx rfl (pc0 := 55) (pc' := 62) rfl (hb hby at_55) rfl ((if0 _ _).trans (teq (by decide)).1) (by decide) (by decide) k) ?_
      show Goes p e below (T729.setTop (mkF m 62 #[.val (.int p1), .val (.int p2), .val (.int (1 : Int32)), .val (.int (0 : Int32)), .val (.ref aR), .val (.ref b729), .unset, .unset] [])) _
      refine Goes.of (fun t k => XS.iconst X729.here hx rfl (hb hby at_62) k) ?_
      show Goes p e below (T729.setTop (mkF m 63 #[.val (.int p1), .val (.int p2), .val (.int (1 : Int32)), .val (.int (0 : Int32)), .val (.ref aR), .val (.ref b729), .unset, .unset] [(.int (3 : Int32))])) _
      refine Goes.of (fun t k => XS.istore X729.here hx rfl (hb hby at_63) rfl (l' := #[.val (.int p1), .val (.int p2), .val (.int (1 : Int32)), .val (.int (0 : Int32)), .val (.ref aR), .val (.ref b729), .val (.int (3 : Int32)), .unset]) rfl k) ?_
      show Goes p e below (T729.setTop (mkF m 65 #[.val (.int p1), .val (.int p2), .val (.int (1 : Int32)), .val (.int (0 : Int32)), .val (.ref aR), .val (.ref b729), .val (.int (3 : Int32)), .unset] [])) _
      refine Goes.of (fun t k => XS.aload X729.here hx rfl (hb hby at_65) rfl rfl k) ?_
      obtain ⟨cq734, kq734, q734a, q734b, q734c⟩ := isOf hZ rfl E729
      obtain ⟨_, _, ⟨T734, L734, k734, n734⟩, -, X734, ⟨Lc734, hQ734, l734, y734, z734⟩, st734⟩ := X729.interfaceBack hx (xi := (⟨"java/util/List", "size", "()I"⟩ : MethodName)) (y := (⟨"java/util/ImmutableCollections$ListN", "size", "()I"⟩ : MethodName)) hown (mvT hZ (wd hw 68 rfl)) (mvT hZ (wd hw 69 rfl)) (mvT hZ (wd hw 70 rfl)) (mvT hZ (wd hw 71 rfl)) (mvT hZ (wd hw 72 rfl)) (mvT hZ (wd hw 73 rfl)) (mvT hZ (wd hw 74 rfl)) (mvT hZ (wd hw 75 rfl)) (by decide) (backOf (W := 0) (rm10 l Z a0 hw [] b729 d729 q729 cR s0_729 s1_729 T729.heap n0 z731 F729 V729) hZ (wd hw 76 rfl) (wd hw 38 rfl) (by decide) (by decide)) q734a q734b q734c (g := (mkF m 67 #[.val (.int p1), .val (.int p2), .val (.int (1 : Int32)), .val (.int (0 : Int32)), .val (.ref aR), .val (.ref b729), .val (.int (3 : Int32)), .unset] [(.ref b729)])) rfl (by rw [hml]; rfl) (Steps.refl _) (argsL := []) (rest := []) (lenOf pd_19 rfl) rfl (by show 2 * 0 + _ ≤ _; exact Nat.le_of_eq rfl) (hb hby at_67) (fun _ _ => ⟨rfl, rfl, (by decide : 6 + 0 ≤ _), (by decide : 61 + 0 ≤ _)⟩)
      dsimp only [Pt.U, Pt.locs, Pt.cells, Pt.slots] at X734 l734 y734 z734 st734 hQ734
      subst l734 y734 z734
      obtain ⟨rfl, N734q, e734⟩ := hQ734
      have N734 := Fr.app N729 N734q
      refine Goes.of (fun t k => st734.trans k) ?_
      show Goes p e below (T734.setTop (mkF m 72 #[.val (.int p1), .val (.int p2), .val (.int (1 : Int32)), .val (.int (0 : Int32)), .val (.ref aR), .val (.ref b729), .val (.int (3 : Int32)), .unset] [(.int (3 : Int32))])) _
      refine Goes.of (fun t k => XS.iload X734.here hx rfl (hb hby at_72) rfl k) ?_
      show Goes p e below (T734.setTop (mkF m 74 #[.val (.int p1), .val (.int p2), .val (.int (1 : Int32)), .val (.int (0 : Int32)), .val (.ref aR), .val (.ref b729), .val (.int (3 : Int32)), .unset] [(.int (3 : Int32)), (.int (3 : Int32))])) _
      refine Goes.of (fun t k => XS.icmpYes X734.here hx rfl (pc0 := 74) (pc' := 79) rfl (hb hby at_74) rfl (teq (by decide)).1 (by decide) (by decide) k) ?_
      show Goes p e below (T734.setTop (mkF m 79 #[.val (.int p1), .val (.int p2), .val (.int (1 : Int32)), .val (.int (0 : Int32)), .val (.ref aR), .val (.ref b729), .val (.int (3 : Int32)), .unset] [])) _
      refine Goes.of (fun t k => XS.iloadN X734.here hx rfl (hb hby at_79) rfl k) ?_
      show Goes p e below (T734.setTop (mkF m 80 #[.val (.int p1), .val (.int p2), .val (.int (1 : Int32)), .val (.int (0 : Int32)), .val (.ref aR), .val (.ref b729), .val (.int (3 : Int32)), .unset] [(.int (1 : Int32))])) _
      refine Goes.of (fun t k => XS.ifNo X734.here hx rfl (hb hby at_80) rfl ((if0 _ _).trans (feq (by decide)).1) k) ?_
      show Goes p e below (T734.setTop (mkF m 83 #[.val (.int p1), .val (.int p2), .val (.int (1 : Int32)), .val (.int (0 : Int32)), .val (.ref aR), .val (.ref b729), .val (.int (3 : Int32)), .unset] [])) _
      obtain ⟨a735, T735, h735, k735, b735, c735, X735, e735, E735, hS735, kS735, hZ, hown, S735, F735c, F735v, V735, -, -, C735, -, ne735, st735⟩ := ldcCH (EL := consts_1) X734 hx hZ hown (wd hw 108 rfl) (own_wS hw) e734 hS729 kR729 (own_EW hw) (by decide) C730.1 (vs := [(.int (114 : Int32)), (.int (111 : Int32)), (.int (108 : Int32)), (.int (101 : Int32))]) (z := (4 : Int32)) ⟨by decide, by rfl⟩ (by decide) (by decide) (g := (mkF m 83 #[.val (.int p1), .val (.int p2), .val (.int (1 : Int32)), .val (.int (0 : Int32)), .val (.ref aR), .val (.ref b729), .val (.int (3 : Int32)), .unset] [])) rfl (hb hby at_83) (n := 16) (by decide) (by decide) (by decide) (by decide)
      have C736 := C730.trans C735
      have z737 := Nat.le_trans z731 E735.1
      have z738 := Nat.le_trans kR729 E735.1
      have f739 := f733.ext E735
      have f740 := E729.ext E735
      have f741 := F729.ext E735
      have f742 := V729.ext E735
      have f743 := Es0_729.ext E735
      have f744 := Cs0_729.ext E735
      have f745 := Fs0_729.ext E735
      have f746 := Vs0_729.ext E735
      have f747 := Es1_729.ext E735
      have f748 := Cs1_729.ext E735
      have f749 := Fs1_729.ext E735
      have f750 := Vs1_729.ext E735
      refine Goes.of st735 ?_
      show Goes p e below (T735.setTop (mkF m 85 #[.val (.int p1), .val (.int p2), .val (.int (1 : Int32)), .val (.int (0 : Int32)), .val (.ref aR), .val (.ref b729), .val (.int (3 : Int32)), .unset] [(.ref a735)])) _
      refine Goes.of (fun t k => XS.goto X735.here hx rfl (pc0 := 85) (pc' := 90) rfl (hb hby at_85) (by decide) (by decide) k) ?_
      show Goes p e below (T735.setTop (mkF m 90 #[.val (.int p1), .val (.int p2), .val (.int (1 : Int32)), .val (.int (0 : Int32)), .val (.ref aR), .val (.ref b729), .val (.int (3 : Int32)), .unset] [(.ref a735)])) _
      refine Goes.of (fun t k => XS.astore X735.here hx rfl (hb hby at_90) rfl rfl (l' := #[.val (.int p1), .val (.int p2), .val (.int (1 : Int32)), .val (.int (0 : Int32)), .val (.ref aR), .val (.ref b729), .val (.int (3 : Int32)), .val (.ref a735)]) rfl k) ?_
      show Goes p e below (T735.setTop (mkF m 92 #[.val (.int p1), .val (.int p2), .val (.int (1 : Int32)), .val (.int (0 : Int32)), .val (.ref aR), .val (.ref b729), .val (.int (3 : Int32)), .val (.ref a735)] [])) _
      refine Goes.of (fun t k => XS.aload X735.here hx rfl (hb hby at_92) rfl rfl k) ?_
      show Goes p e below (T735.setTop (mkF m 94 #[.val (.int p1), .val (.int p2), .val (.int (1 : Int32)), .val (.int (0 : Int32)), .val (.ref aR), .val (.ref b729), .val (.int (3 : Int32)), .val (.ref a735)] [(.ref a735)])) _
      refine Goes.of (fun t k => XS.aload X735.here hx rfl (hb hby at_94) rfl rfl k) ?_
      show Goes p e below (T735.setTop (mkF m 96 #[.val (.int p1), .val (.int p2), .val (.int (1 : Int32)), .val (.int (0 : Int32)), .val (.ref aR), .val (.ref b729), .val (.int (3 : Int32)), .val (.ref a735)] [(.ref b729), (.ref a735)])) _
      refine Goes.of (fun t k => XS.iconst X735.here hx rfl (hb hby at_96) k) ?_
      obtain ⟨cq751, kq751, q751a, q751b, q751c⟩ := isOf hZ e735 f740
      obtain ⟨_, _, ⟨T751, L751, k751, n751⟩, -, X751, ⟨Lc751, hQ751, l751, y751, z751⟩, st751⟩ := X735.interfaceBack hx (xi := (⟨"java/util/List", "get", "(I)Ljava/lang/Object;"⟩ : MethodName)) (y := (⟨"java/util/ImmutableCollections$ListN", "get", "(I)Ljava/lang/Object;"⟩ : MethodName)) hown (mvT hZ (wd hw 78 rfl)) (mvT hZ (wd hw 79 rfl)) (mvT hZ (wd hw 80 rfl)) (mvT hZ (wd hw 81 rfl)) (mvT hZ (wd hw 82 rfl)) (mvT hZ (wd hw 83 rfl)) (mvT hZ (wd hw 84 rfl)) (mvT hZ (wd hw 75 rfl)) (by decide) (backOf (W := 1) (rm11 l Z a0 hw [] b729 d729 q729 cR s0_729 s1_729 h735 n0 z737 f741 f742) hZ (wd hw 85 rfl) (wd hw 38 rfl) (by decide) (by decide)) q751a q751b q751c (g := (mkF m 97 #[.val (.int p1), .val (.int p2), .val (.int (1 : Int32)), .val (.int (0 : Int32)), .val (.ref aR), .val (.ref b729), .val (.int (3 : Int32)), .val (.ref a735)] [(.int (0 : Int32)), (.ref b729), (.ref a735)])) rfl (by rw [hml]; rfl) (Steps.refl _) (argsL := [(.int (0 : Int32))]) (rest := [(.ref a735)]) (lenOf pd_20 rfl) rfl (by show 2 * 0 + _ ≤ _; exact Nat.le_of_eq rfl) (hb hby at_97) (fun _ _ => ⟨rfl, e735, (by decide : 8 + 0 ≤ _), (by decide : 81 + 0 ≤ _)⟩)
      dsimp only [Pt.U, Pt.locs, Pt.cells, Pt.slots] at X751 l751 y751 z751 st751 hQ751
      subst l751 y751 z751
      obtain ⟨rfl, N751q, e751⟩ := hQ751
      have N751 := Fr.app N734 N751q
      refine Goes.of (fun t k => st751.trans k) ?_
      obtain ⟨cq752, kq752, q752a, q752b, q752c⟩ := isOf hZ e751 S735
      obtain ⟨_, _, ⟨T752, L752, k752, n752⟩, -, X752, ⟨Lc752, hQ752, l752, y752, z752⟩, st752⟩ := X751.virtualBack hx (y := (⟨"java/lang/String", "equals", "(Ljava/lang/Object;)Z"⟩ : MethodName)) (z := (⟨"java/lang/String", "equals", "(Ljava/lang/Object;)Z"⟩ : MethodName)) hown (mvT hZ (wd hw 86 rfl)) (mvT hZ (wd hw 87 rfl)) (notFace_of_selects (args := #[]) (mvT hZ (wd hw 89 rfl))) (mvT hZ (wd hw 89 rfl)) (mvT hZ (wd hw 88 rfl)) (by decide) (backOf (W := 0) (rm12 l Z a0 hw [] a735 cR b735 bR c735 kR cmS (114 : Int32) (111 : Int32) (108 : Int32) (101 : Int32) h735 n0 z737 f739 SC cs0 S735 F735c F735v V735 (ER.ext f739.2) (CR.ext f739.2) (FR.ext f739.2) (VR.ext f739.2)) hZ (wd hw 90 rfl) (wd hw 11 rfl) (by decide) (by decide)) q752a q752c (g := (mkF m 102 #[.val (.int p1), .val (.int p2), .val (.int (1 : Int32)), .val (.int (0 : Int32)), .val (.ref aR), .val (.ref b729), .val (.int (3 : Int32)), .val (.ref a735)] [(.ref cR), (.ref a735)])) rfl (by rw [hml]; rfl) (Steps.refl _) (argsL := [(.ref cR)]) (rest := []) (lenOf pd_21 rfl) rfl (by show 2 * 0 + _ ≤ _; exact Nat.le_of_eq rfl) (hb hby at_102) (fun _ _ => ⟨rfl, e751, (by decide : 8 + 0 ≤ _), (by decide : 81 + 0 ≤ _)⟩)
      dsimp only [Pt.U, Pt.locs, Pt.cells, Pt.slots] at X752 l752 y752 z752 st752 hQ752
      subst l752 y752 z752
      obtain ⟨rfl, N752q, e752⟩ := hQ752
      have N752 := Fr.app N751 N752q
      refine Goes.of (fun t k => st752.trans k) ?_
      show Goes p e below (T752.setTop (mkF m 105 #[.val (.int p1), .val (.int p2), .val (.int (1 : Int32)), .val (.int (0 : Int32)), .val (.ref aR), .val (.ref b729), .val (.int (3 : Int32)), .val (.ref a735)] [(.int (1 : Int32))])) _
      refine Goes.of (fun t k => XS.ifYes X752.here hx rfl (pc0 := 105) (pc' := 110) rfl (hb hby at_105) rfl ((if0 _ _).trans (feq (by decide)).2) (by decide) (by decide) k) ?_
      show Goes p e below (T752.setTop (mkF m 110 #[.val (.int p1), .val (.int p2), .val (.int (1 : Int32)), .val (.int (0 : Int32)), .val (.ref aR), .val (.ref b729), .val (.int (3 : Int32)), .val (.ref a735)] [])) _
      obtain ⟨a753, T753, h753, k753, b753, c753, X753, e753, E753, hS753, kS753, hZ, hown, S753, F753c, F753v, V753, -, -, C753, -, ne753, st753⟩ := ldcCH (EL := consts_1) X752 hx hZ hown (wd hw 100 rfl) (own_wS hw) e752 hS735 kS735 (own_EW hw) (by decide) C736.1 (vs := [(.int (111 : Int32)), (.int (98 : Int32)), (.int (106 : Int32)), (.int (101 : Int32)), (.int (99 : Int32)), (.int (116 : Int32))]) (z := (6 : Int32)) ⟨by decide, by rfl⟩ (by decide) (by decide) (g := (mkF m 110 #[.val (.int p1), .val (.int p2), .val (.int (1 : Int32)), .val (.int (0 : Int32)), .val (.ref aR), .val (.ref b729), .val (.int (3 : Int32)), .val (.ref a735)] [])) rfl (hb hby at_110) (n := 24) (by decide) (by decide) (by decide) (by decide)
      have C754 := C736.trans C753
      have z755 := Nat.le_trans z737 E753.1
      have z756 := Nat.le_trans kS735 E753.1
      have f757 := f739.ext E753
      have f758 := f740.ext E753
      have f759 := f741.ext E753
      have f760 := f742.ext E753
      have f761 := f743.ext E753
      have f762 := f744.ext E753
      have f763 := f745.ext E753
      have f764 := f746.ext E753
      have f765 := f747.ext E753
      have f766 := f748.ext E753
      have f767 := f749.ext E753
      have f768 := f750.ext E753
      have f769 := S735.ext E753
      have f770 := F735c.ext E753
      have f771 := F735v.ext E753
      have f772 := V735.ext E753
      refine Goes.of st753 ?_
      show Goes p e below (T753.setTop (mkF m 112 #[.val (.int p1), .val (.int p2), .val (.int (1 : Int32)), .val (.int (0 : Int32)), .val (.ref aR), .val (.ref b729), .val (.int (3 : Int32)), .val (.ref a735)] [(.ref a753)])) _
      refine Goes.of (fun t k => XS.aload X753.here hx rfl (hb hby at_112) rfl rfl k) ?_
      show Goes p e below (T753.setTop (mkF m 114 #[.val (.int p1), .val (.int p2), .val (.int (1 : Int32)), .val (.int (0 : Int32)), .val (.ref aR), .val (.ref b729), .val (.int (3 : Int32)), .val (.ref a735)] [(.ref b729), (.ref a753)])) _
      refine Goes.of (fun t k => XS.iconst X753.here hx rfl (hb hby at_114) k) ?_
      obtain ⟨cq773, kq773, q773a, q773b, q773c⟩ := isOf hZ e753 f758
      obtain ⟨_, _, ⟨T773, L773, k773, n773⟩, -, X773, ⟨Lc773, hQ773, l773, y773, z773⟩, st773⟩ := X753.interfaceBack hx (xi := (⟨"java/util/List", "get", "(I)Ljava/lang/Object;"⟩ : MethodName)) (y := (⟨"java/util/ImmutableCollections$ListN", "get", "(I)Ljava/lang/Object;"⟩ : MethodName)) hown (mvT hZ (wd hw 78 rfl)) (mvT hZ (wd hw 79 rfl)) (mvT hZ (wd hw 80 rfl)) (mvT hZ (wd hw 81 rfl)) (mvT hZ (wd hw 82 rfl)) (mvT hZ (wd hw 83 rfl)) (mvT hZ (wd hw 84 rfl)) (mvT hZ (wd hw 75 rfl)) (by decide) (backOf (W := 1) (rm11_226 l Z a0 hw [] b729 d729 q729 cR s0_729 s1_729 h753 n0 z755 f759 f760) hZ (wd hw 85 rfl) (wd hw 38 rfl) (by decide) (by decide)) q773a q773b q773c (g := (mkF m 115 #[.val (.int p1), .val (.int p2), .val (.int (1 : Int32)), .val (.int (0 : Int32)), .val (.ref aR), .val (.ref b729), .val (.int (3 : Int32)), .val (.ref a735)] [(.int (1 : Int32)), (.ref b729), (.ref a753)])) rfl (by rw [hml]; rfl) (Steps.refl _) (argsL := [(.int (1 : Int32))]) (rest := [(.ref a753)]) (lenOf pd_20 rfl) rfl (by show 2 * 0 + _ ≤ _; exact Nat.le_of_eq rfl) (hb hby at_115) (fun _ _ => ⟨rfl, e753, (by decide : 10 + 0 ≤ _), (by decide : 109 + 0 ≤ _)⟩)
      dsimp only [Pt.U, Pt.locs, Pt.cells, Pt.slots] at X773 l773 y773 z773 st773 hQ773
      subst l773 y773 z773
      obtain ⟨rfl, N773q, e773⟩ := hQ773
      have N773 := Fr.app N752 N773q
      refine Goes.of (fun t k => st773.trans k) ?_
      obtain ⟨cq774, kq774, q774a, q774b, q774c⟩ := isOf hZ e773 S753
      obtain ⟨_, _, ⟨T774, L774, k774, n774⟩, -, X774, ⟨Lc774, hQ774, l774, y774, z774⟩, st774⟩ := X773.virtualBack hx (y := (⟨"java/lang/String", "equals", "(Ljava/lang/Object;)Z"⟩ : MethodName)) (z := (⟨"java/lang/String", "equals", "(Ljava/lang/Object;)Z"⟩ : MethodName)) hown (mvT hZ (wd hw 86 rfl)) (mvT hZ (wd hw 87 rfl)) (notFace_of_selects (args := #[]) (mvT hZ (wd hw 89 rfl))) (mvT hZ (wd hw 89 rfl)) (mvT hZ (wd hw 88 rfl)) (by decide) (backOf (W := 0) (rm12_356 l Z a0 hw [] a753 s0_729 b753 t0_729 c753 u0_729 cmS (111 : Int32) (98 : Int32) (106 : Int32) (101 : Int32) (99 : Int32) (116 : Int32) h753 n0 z755 f757 SC cs0 S753 F753c F753v V753 f761 f762 f763 f764) hZ (wd hw 90 rfl) (wd hw 11 rfl) (by decide) (by decide)) q774a q774c (g := (mkF m 120 #[.val (.int p1), .val (.int p2), .val (.int (1 : Int32)), .val (.int (0 : Int32)), .val (.ref aR), .val (.ref b729), .val (.int (3 : Int32)), .val (.ref a735)] [(.ref s0_729), (.ref a753)])) rfl (by rw [hml]; rfl) (Steps.refl _) (argsL := [(.ref s0_729)]) (rest := []) (lenOf pd_21 rfl) rfl (by show 2 * 0 + _ ≤ _; exact Nat.le_of_eq rfl) (hb hby at_120) (fun _ _ => ⟨rfl, e773, (by decide : 10 + 0 ≤ _), (by decide : 109 + 0 ≤ _)⟩)
      dsimp only [Pt.U, Pt.locs, Pt.cells, Pt.slots] at X774 l774 y774 z774 st774 hQ774
      subst l774 y774 z774
      obtain ⟨rfl, N774q, e774⟩ := hQ774
      have N774 := Fr.app N773 N774q
      refine Goes.of (fun t k => st774.trans k) ?_
      show Goes p e below (T774.setTop (mkF m 123 #[.val (.int p1), .val (.int p2), .val (.int (1 : Int32)), .val (.int (0 : Int32)), .val (.ref aR), .val (.ref b729), .val (.int (3 : Int32)), .val (.ref a735)] [(.int (1 : Int32))])) _
      refine Goes.of (fun t k => XS.ifYes X774.here hx rfl (pc0 := 123) (pc' := 128) rfl (hb hby at_123) rfl ((if0 _ _).trans (feq (by decide)).2) (by decide) (by decide) k) ?_
      show Goes p e below (T774.setTop (mkF m 128 #[.val (.int p1), .val (.int p2), .val (.int (1 : Int32)), .val (.int (0 : Int32)), .val (.ref aR), .val (.ref b729), .val (.int (3 : Int32)), .val (.ref a735)] [])) _
      obtain ⟨a775, T775, h775, k775, b775, c775, X775, e775, E775, hS775, kS775, hZ, hown, S775, F775c, F775v, V775, -, -, C775, -, ne775, st775⟩ := ldcCH (EL := consts_1) X774 hx hZ hown (wd hw 101 rfl) (own_wS hw) e774 hS753 kS753 (own_EW hw) (by decide) C754.1 (vs := [(.int (97 : Int32)), (.int (99 : Int32)), (.int (99 : Int32)), (.int (101 : Int32)), (.int (115 : Int32)), (.int (115 : Int32))]) (z := (6 : Int32)) ⟨by decide, by rfl⟩ (by decide) (by decide) (g := (mkF m 128 #[.val (.int p1), .val (.int p2), .val (.int (1 : Int32)), .val (.int (0 : Int32)), .val (.ref aR), .val (.ref b729), .val (.int (3 : Int32)), .val (.ref a735)] [])) rfl (hb hby at_128) (n := 24) (by decide) (by decide) (by decide) (by decide)
      have C776 := C754.trans C775
      have z777 := Nat.le_trans z755 E775.1
      have z778 := Nat.le_trans kS753 E775.1
      have f779 := f757.ext E775
      have f780 := f758.ext E775
      have f781 := f759.ext E775
      have f782 := f760.ext E775
      have f783 := f761.ext E775
      have f784 := f762.ext E775
      have f785 := f763.ext E775
      have f786 := f764.ext E775
      have f787 := f765.ext E775
      have f788 := f766.ext E775
      have f789 := f767.ext E775
      have f790 := f768.ext E775
      have f791 := f769.ext E775
      have f792 := f770.ext E775
      have f793 := f771.ext E775
      have f794 := f772.ext E775
      have f795 := S753.ext E775
      have f796 := F753c.ext E775
      have f797 := F753v.ext E775
      have f798 := V753.ext E775
      refine Goes.of st775 ?_
      show Goes p e below (T775.setTop (mkF m 130 #[.val (.int p1), .val (.int p2), .val (.int (1 : Int32)), .val (.int (0 : Int32)), .val (.ref aR), .val (.ref b729), .val (.int (3 : Int32)), .val (.ref a735)] [(.ref a775)])) _
      refine Goes.of (fun t k => XS.aload X775.here hx rfl (hb hby at_130) rfl rfl k) ?_
      show Goes p e below (T775.setTop (mkF m 132 #[.val (.int p1), .val (.int p2), .val (.int (1 : Int32)), .val (.int (0 : Int32)), .val (.ref aR), .val (.ref b729), .val (.int (3 : Int32)), .val (.ref a735)] [(.ref b729), (.ref a775)])) _
      refine Goes.of (fun t k => XS.iconst X775.here hx rfl (hb hby at_132) k) ?_
      obtain ⟨cq799, kq799, q799a, q799b, q799c⟩ := isOf hZ e775 f780
      obtain ⟨_, _, ⟨T799, L799, k799, n799⟩, -, X799, ⟨Lc799, hQ799, l799, y799, z799⟩, st799⟩ := X775.interfaceBack hx (xi := (⟨"java/util/List", "get", "(I)Ljava/lang/Object;"⟩ : MethodName)) (y := (⟨"java/util/ImmutableCollections$ListN", "get", "(I)Ljava/lang/Object;"⟩ : MethodName)) hown (mvT hZ (wd hw 78 rfl)) (mvT hZ (wd hw 79 rfl)) (mvT hZ (wd hw 80 rfl)) (mvT hZ (wd hw 81 rfl)) (mvT hZ (wd hw 82 rfl)) (mvT hZ (wd hw 83 rfl)) (mvT hZ (wd hw 84 rfl)) (mvT hZ (wd hw 75 rfl)) (by decide) (backOf (W := 1) (rm11_231 l Z a0 hw [] b729 d729 q729 cR s0_729 s1_729 h775 n0 z777 f781 f782) hZ (wd hw 85 rfl) (wd hw 38 rfl) (by decide) (by decide)) q799a q799b q799c (g := (mkF m 133 #[.val (.int p1), .val (.int p2), .val (.int (1 : Int32)), .val (.int (0 : Int32)), .val (.ref aR), .val (.ref b729), .val (.int (3 : Int32)), .val (.ref a735)] [(.int (2 : Int32)), (.ref b729), (.ref a775)])) rfl (by rw [hml]; rfl) (Steps.refl _) (argsL := [(.int (2 : Int32))]) (rest := [(.ref a775)]) (lenOf pd_20 rfl) rfl (by show 2 * 0 + _ ≤ _; exact Nat.le_of_eq rfl) (hb hby at_133) (fun _ _ => ⟨rfl, e775, (by decide : 12 + 0 ≤ _), (by decide : 137 + 0 ≤ _)⟩)
      dsimp only [Pt.U, Pt.locs, Pt.cells, Pt.slots] at X799 l799 y799 z799 st799 hQ799
      subst l799 y799 z799
      obtain ⟨rfl, N799q, e799⟩ := hQ799
      have N799 := Fr.app N774 N799q
      refine Goes.of (fun t k => st799.trans k) ?_
      obtain ⟨cq800, kq800, q800a, q800b, q800c⟩ := isOf hZ e799 S775
      obtain ⟨_, _, ⟨T800, L800, k800, n800⟩, -, X800, ⟨Lc800, hQ800, l800, y800, z800⟩, st800⟩ := X799.virtualBack hx (y := (⟨"java/lang/String", "equals", "(Ljava/lang/Object;)Z"⟩ : MethodName)) (z := (⟨"java/lang/String", "equals", "(Ljava/lang/Object;)Z"⟩ : MethodName)) hown (mvT hZ (wd hw 86 rfl)) (mvT hZ (wd hw 87 rfl)) (notFace_of_selects (args := #[]) (mvT hZ (wd hw 89 rfl))) (mvT hZ (wd hw 89 rfl)) (mvT hZ (wd hw 88 rfl)) (by decide) (backOf (W := 0) (rm12_356 l Z a0 hw [] a775 s1_729 b775 t1_729 c775 u1_729 cmS (97 : Int32) (99 : Int32) (99 : Int32) (101 : Int32) (115 : Int32) (115 : Int32) h775 n0 z777 f779 SC cs0 S775 F775c F775v V775 f787 f788 f789 f790) hZ (wd hw 90 rfl) (wd hw 11 rfl) (by decide) (by decide)) q800a q800c (g := (mkF m 138 #[.val (.int p1), .val (.int p2), .val (.int (1 : Int32)), .val (.int (0 : Int32)), .val (.ref aR), .val (.ref b729), .val (.int (3 : Int32)), .val (.ref a735)] [(.ref s1_729), (.ref a775)])) rfl (by rw [hml]; rfl) (Steps.refl _) (argsL := [(.ref s1_729)]) (rest := []) (lenOf pd_21 rfl) rfl (by show 2 * 0 + _ ≤ _; exact Nat.le_of_eq rfl) (hb hby at_138) (fun _ _ => ⟨rfl, e799, (by decide : 12 + 0 ≤ _), (by decide : 137 + 0 ≤ _)⟩)
      dsimp only [Pt.U, Pt.locs, Pt.cells, Pt.slots] at X800 l800 y800 z800 st800 hQ800
      subst l800 y800 z800
      obtain ⟨rfl, N800q, e800⟩ := hQ800
      have N800 := Fr.app N799 N800q
      refine Goes.of (fun t k => st800.trans k) ?_
      show Goes p e below (T800.setTop (mkF m 141 #[.val (.int p1), .val (.int p2), .val (.int (1 : Int32)), .val (.int (0 : Int32)), .val (.ref aR), .val (.ref b729), .val (.int (3 : Int32)), .val (.ref a735)] [(.int (1 : Int32))])) _
      refine Goes.of (fun t k => XS.ifYes X800.here hx rfl (pc0 := 141) (pc' := 146) rfl (hb hby at_141) rfl ((if0 _ _).trans (feq (by decide)).2) (by decide) (by decide) k) ?_
      show Goes p e below (T800.setTop (mkF m 146 #[.val (.int p1), .val (.int p2), .val (.int (1 : Int32)), .val (.int (0 : Int32)), .val (.ref aR), .val (.ref b729), .val (.int (3 : Int32)), .val (.ref a735)] [])) _
      refine Goes.of (fun t k => XS.iloadN X800.here hx rfl (hb hby at_146) rfl k) ?_
      show Goes p e below (T800.setTop (mkF m 147 #[.val (.int p1), .val (.int p2), .val (.int (1 : Int32)), .val (.int (0 : Int32)), .val (.ref aR), .val (.ref b729), .val (.int (3 : Int32)), .val (.ref a735)] [(.int (0 : Int32))])) _
      refine Goes.of (fun t k => XS.ifYes X800.here hx rfl (pc0 := 147) (pc' := 168) rfl (hb hby at_147) rfl ((if0 _ _).trans (teq (by decide)).1) (by decide) (by decide) k) ?_
      show Goes p e below (T800.setTop (mkF m 168 #[.val (.int p1), .val (.int p2), .val (.int (1 : Int32)), .val (.int (0 : Int32)), .val (.ref aR), .val (.ref b729), .val (.int (3 : Int32)), .val (.ref a735)] [])) _
      refine Goes.of (fun t k => XS.iconst X800.here hx rfl (hb hby at_168) k) ?_
      show Goes p e below (T800.setTop (mkF m 169 #[.val (.int p1), .val (.int p2), .val (.int (1 : Int32)), .val (.int (0 : Int32)), .val (.ref aR), .val (.ref b729), .val (.int (3 : Int32)), .val (.ref a735)] [(.int (1 : Int32))])) _
      have eh : T800.heap = h775 := e800
      have hCH : CHr Z consts_1 s.vm s.heap T800.vm T800.heap := by rw [eh, hh]; exact C776.trans (CHv.at X800 hZ (own_EW hw) C776.1)
      exact Goes.retNH (t := .boolean) X800 hS775 (by rw [e800]; exact kS775) hx Bd.returns (by simp) hlocks (hb hby at_169) (⟨rfl, N800⟩) (hCH) (by decide) (by decide)
    · refine Goes.of (fun t k => XS.ifNo X0.here hx rfl (hb hby at_15) rfl ((if0 _ _).trans (feq hc15_727).1) k) ?_
      show Goes p e below (s₁.setTop (mkF m 18 #[.val (.int p1), .val (.int p2), .val (.int (1 : Int32)), .unset, .unset, .unset, .unset, .unset] [])) _
      refine Goes.of (fun t k => XS.iconst X0.here hx rfl (hb hby at_18) k) ?_
      show Goes p e below (s₁.setTop (mkF m 19 #[.val (.int p1), .val (.int p2), .val (.int (1 : Int32)), .unset, .unset, .unset, .unset, .unset] [(.int (1 : Int32))])) _
      refine Goes.of (fun t k => XS.goto X0.here hx rfl (pc0 := 19) (pc' := 23) rfl (hb hby at_19) (by decide) (by decide) k) ?_
      show Goes p e below (s₁.setTop (mkF m 23 #[.val (.int p1), .val (.int p2), .val (.int (1 : Int32)), .unset, .unset, .unset, .unset, .unset] [(.int (1 : Int32))])) _
      refine Goes.of (fun t k => XS.istoreN X0.here hx rfl (hb hby at_23) rfl (l' := #[.val (.int p1), .val (.int p2), .val (.int (1 : Int32)), .val (.int (1 : Int32)), .unset, .unset, .unset, .unset]) rfl k) ?_
      show Goes p e below (s₁.setTop (mkF m 24 #[.val (.int p1), .val (.int p2), .val (.int (1 : Int32)), .val (.int (1 : Int32)), .unset, .unset, .unset, .unset] [])) _
      refine Goes.of (fun t k => XS.iloadN X0.here hx rfl (hb hby at_24) rfl k) ?_
      show Goes p e below (s₁.setTop (mkF m 25 #[.val (.int p1), .val (.int p2), .val (.int (1 : Int32)), .val (.int (1 : Int32)), .unset, .unset, .unset, .unset] [(.int (1 : Int32))])) _
      refine Goes.of (fun t k => XS.ifNo X0.here hx rfl (hb hby at_25) rfl ((if0 _ _).trans (feq (by decide)).1) k) ?_
      obtain ⟨T801, X801, e801, st801⟩ := getS2 X0 hx hZ hown (host := "") (Or.inl (wd hw 106 rfl)) Via.refl e0 (SR.ext O0.2) (g := (mkF m 28 #[.val (.int p1), .val (.int p2), .val (.int (1 : Int32)), .val (.int (1 : Int32)), .unset, .unset, .unset, .unset] [])) rfl (hb hby at_28)
      refine Goes.of st801 ?_
      show Goes p e below (T801.setTop (mkF m 31 #[.val (.int p1), .val (.int p2), .val (.int (1 : Int32)), .val (.int (1 : Int32)), .unset, .unset, .unset, .unset] [(.ref aR)])) _
      refine Goes.of (fun t k => XS.goto X801.here hx rfl (pc0 := 31) (pc' := 37) rfl (hb hby at_31) (by decide) (by decide) k) ?_
      show Goes p e below (T801.setTop (mkF m 37 #[.val (.int p1), .val (.int p2), .val (.int (1 : Int32)), .val (.int (1 : Int32)), .unset, .unset, .unset, .unset] [(.ref aR)])) _
      refine Goes.of (fun t k => XS.astore X801.here hx rfl (hb hby at_37) rfl rfl (l' := #[.val (.int p1), .val (.int p2), .val (.int (1 : Int32)), .val (.int (1 : Int32)), .val (.ref aR), .unset, .unset, .unset]) rfl k) ?_
      show Goes p e below (T801.setTop (mkF m 39 #[.val (.int p1), .val (.int p2), .val (.int (1 : Int32)), .val (.int (1 : Int32)), .val (.ref aR), .unset, .unset, .unset] [])) _
      refine Goes.of (fun t k => XS.aload X801.here hx rfl (hb hby at_39) rfl rfl k) ?_
      show Goes p e below (T801.setTop (mkF m 41 #[.val (.int p1), .val (.int p2), .val (.int (1 : Int32)), .val (.int (1 : Int32)), .val (.ref aR), .unset, .unset, .unset] [(.ref aR)])) _
      refine Goes.of (fun t k => XS.iloadN X801.here hx rfl (hb hby at_41) rfl k) ?_
      obtain ⟨cq802, kq802, q802a, q802b, q802c⟩ := isOf hZ e801 (XhR.ext O0.2)
      obtain ⟨_, _, ⟨T802, L802, k802, n802⟩, -, X802, hS802, kS802, ⟨Lc802, hQ802, l802, y802, z802, cc802⟩, st802⟩ := X801.virtualBackS hx (y := (⟨"com/example/leaklint/leaklint/GrantListHeader", "fields", "(Z)Ljava/util/List;"⟩ : MethodName)) (z := (⟨"com/example/leaklint/leaklint/GrantListHeader", "fields", "(Z)Ljava/util/List;"⟩ : MethodName)) hown (mvT hZ (wd hw 3 rfl)) (mvT hZ (wd hw 4 rfl)) (notFace_of_selects (args := #[]) (mvT hZ (wd hw 6 rfl))) (mvT hZ (wd hw 6 rfl)) (mvT hZ (wd hw 5 rfl)) (by decide) (backOfSH (EL := consts_1) (vm0 := s.vm) (W := 0) (rm1_475 l Z a0 hw [] aR cR h0 n0 Z0 O0 SA (YR.ext O0.2) (ER.ext O0.2)) hZ (wd hw 7 rfl) (wd hw 1 rfl) (by decide) (by decide) (own_EW hw) C0.1) q802a q802c (g := (mkF m 42 #[.val (.int p1), .val (.int p2), .val (.int (1 : Int32)), .val (.int (1 : Int32)), .val (.ref aR), .unset, .unset, .unset] [(.int (1 : Int32)), (.ref aR)])) rfl (by rw [hml]; rfl) (Steps.refl _) (argsL := [(.int (1 : Int32))]) (rest := []) (lenOf pd_18 rfl) rfl (by show 2 * 0 + _ ≤ _; exact Nat.le_of_eq rfl) (hb hby at_42) (fun _ _ => ⟨rfl, e801, (by decide : 0 + 8 ≤ _), (by decide : 0 + 94 ≤ _)⟩)
      dsimp only [Pt.U, Pt.locs, Pt.cells, Pt.slots] at X802 l802 y802 z802 st802 hQ802 hS802 kS802 cc802
      subst l802 y802 z802
      obtain ⟨X802, hS802, hZ, hown⟩ := rebS hS0 (by rw [e801]; exact kS0) X802 hS802 kS802 hZ hown
      obtain ⟨b802, d802, q802, s0_802, t0_802, u0_802, s1_802, t1_802, u1_802, s2_802, t2_802, u2_802, rfl, N802q, K802, E802, F802, V802, Es0_802, Cs0_802, Fs0_802, Vs0_802, Es1_802, Cs1_802, Fs1_802, Vs1_802, Es2_802, Cs2_802, Fs2_802, Vs2_802⟩ := hQ802
      have N802 := Fr.app N0 N802q
      have C803 := C0.trans cc802
      have z804 := Nat.le_trans Z0 K802.1
      have z805 := Nat.le_trans kS0 K802.1
      have f806 := O0.keep K802 all0
      have kR802 : T802.heap.size ≤ T802.heap.size := Nat.le_refl _
      refine Goes.of (fun t k => st802.trans k) ?_
      show Goes p e below (T802.setTop (mkF m 45 #[.val (.int p1), .val (.int p2), .val (.int (1 : Int32)), .val (.int (1 : Int32)), .val (.ref aR), .unset, .unset, .unset] [(.ref b802)])) _
      refine Goes.of (fun t k => XS.astore X802.here hx rfl (hb hby at_45) rfl rfl (l' := #[.val (.int p1), .val (.int p2), .val (.int (1 : Int32)), .val (.int (1 : Int32)), .val (.ref aR), .val (.ref b802), .unset, .unset]) rfl k) ?_
      show Goes p e below (T802.setTop (mkF m 47 #[.val (.int p1), .val (.int p2), .val (.int (1 : Int32)), .val (.int (1 : Int32)), .val (.ref aR), .val (.ref b802), .unset, .unset] [])) _
      refine Goes.of (fun t k => XS.aload X802.here hx rfl (hb hby at_47) rfl rfl k) ?_
      show Goes p e below (T802.setTop (mkF m 49 #[.val (.int p1), .val (.int p2), .val (.int (1 : Int32)), .val (.int (1 : Int32)), .val (.ref aR), .val (.ref b802), .unset, .unset] [(.ref b802)])) _
      refine Goes.of (fun t k => XS.ifnonnullYes X802.here hx rfl (pc0 := 49) (pc' := 54) rfl (hb hby at_49) rfl (by decide) (by decide) k) ?_
      show Goes p e below (T802.setTop (mkF m 54 #[.val (.int p1), .val (.int p2), .val (.int (1 : Int32)), .val (.int (1 : Int32)), .val (.ref aR), .val (.ref b802), .unset, .unset] [])) _
      refine Goes.of (fun t k => XS.iloadN X802.here hx rfl (hb hby at_54) rfl k) ?_
      show Goes p e below (T802.setTop (mkF m 55 #[.val (.int p1), .val (.int p2), .val (.int (1 : Int32)), .val (.int (1 : Int32)), .val (.ref aR), .val (.ref b802), .unset, .unset] [(.int (1 : Int32))])) _
      refine Goes.of (fun t k => XS.ifNo X802.here hx rfl (hb hby at_55) rfl ((if0 _ _).trans (feq (by decide)).1) k) ?_
      show Goes p e below (T802.setTop (mkF m 58 #[.val (.int p1), .val (.int p2), .val (.int (1 : Int32)), .val (.int (1 : Int32)), .val (.ref aR), .val (.ref b802), .unset, .unset] [])) _
      refine Goes.of (fun t k => XS.iconst X802.here hx rfl (hb hby at_58) k) ?_
      show Goes p e below (T802.setTop (mkF m 59 #[.val (.int p1), .val (.int p2), .val (.int (1 : Int32)), .val (.int (1 : Int32)), .val (.ref aR), .val (.ref b802), .unset, .unset] [(.int (4 : Int32))])) _
      refine Goes.of (fun t k => XS.goto X802.here hx rfl (pc0 := 59) (pc' := 63) rfl (hb hby at_59) (by decide) (by decide) k) ?_
      show Goes p e below (T802.setTop (mkF m 63 #[.val (.int p1), .val (.int p2), .val (.int (1 : Int32)), .val (.int (1 : Int32)), .val (.ref aR), .val (.ref b802), .unset, .unset] [(.int (4 : Int32))])) _
      refine Goes.of (fun t k => XS.istore X802.here hx rfl (hb hby at_63) rfl (l' := #[.val (.int p1), .val (.int p2), .val (.int (1 : Int32)), .val (.int (1 : Int32)), .val (.ref aR), .val (.ref b802), .val (.int (4 : Int32)), .unset]) rfl k) ?_
      show Goes p e below (T802.setTop (mkF m 65 #[.val (.int p1), .val (.int p2), .val (.int (1 : Int32)), .val (.int (1 : Int32)), .val (.ref aR), .val (.ref b802), .val (.int (4 : Int32)), .unset] [])) _
      refine Goes.of (fun t k => XS.aload X802.here hx rfl (hb hby at_65) rfl rfl k) ?_
      obtain ⟨cq807, kq807, q807a, q807b, q807c⟩ := isOf hZ rfl E802
      obtain ⟨_, _, ⟨T807, L807, k807, n807⟩, -, X807, ⟨Lc807, hQ807, l807, y807, z807⟩, st807⟩ := X802.interfaceBack hx (xi := (⟨"java/util/List", "size", "()I"⟩ : MethodName)) (y := (⟨"java/util/ImmutableCollections$ListN", "size", "()I"⟩ : MethodName)) hown (mvT hZ (wd hw 68 rfl)) (mvT hZ (wd hw 69 rfl)) (mvT hZ (wd hw 70 rfl)) (mvT hZ (wd hw 71 rfl)) (mvT hZ (wd hw 72 rfl)) (mvT hZ (wd hw 73 rfl)) (mvT hZ (wd hw 74 rfl)) (mvT hZ (wd hw 75 rfl)) (by decide) (backOf (W := 0) (rm10_236 l Z a0 hw [] b802 d802 q802 cR s0_802 s1_802 s2_802 T802.heap n0 z804 F802 V802) hZ (wd hw 76 rfl) (wd hw 38 rfl) (by decide) (by decide)) q807a q807b q807c (g := (mkF m 67 #[.val (.int p1), .val (.int p2), .val (.int (1 : Int32)), .val (.int (1 : Int32)), .val (.ref aR), .val (.ref b802), .val (.int (4 : Int32)), .unset] [(.ref b802)])) rfl (by rw [hml]; rfl) (Steps.refl _) (argsL := []) (rest := []) (lenOf pd_19 rfl) rfl (by show 2 * 0 + _ ≤ _; exact Nat.le_of_eq rfl) (hb hby at_67) (fun _ _ => ⟨rfl, rfl, (by decide : 8 + 0 ≤ _), (by decide : 94 + 0 ≤ _)⟩)
      dsimp only [Pt.U, Pt.locs, Pt.cells, Pt.slots] at X807 l807 y807 z807 st807 hQ807
      subst l807 y807 z807
      obtain ⟨rfl, N807q, e807⟩ := hQ807
      have N807 := Fr.app N802 N807q
      refine Goes.of (fun t k => st807.trans k) ?_
      show Goes p e below (T807.setTop (mkF m 72 #[.val (.int p1), .val (.int p2), .val (.int (1 : Int32)), .val (.int (1 : Int32)), .val (.ref aR), .val (.ref b802), .val (.int (4 : Int32)), .unset] [(.int (4 : Int32))])) _
      refine Goes.of (fun t k => XS.iload X807.here hx rfl (hb hby at_72) rfl k) ?_
      show Goes p e below (T807.setTop (mkF m 74 #[.val (.int p1), .val (.int p2), .val (.int (1 : Int32)), .val (.int (1 : Int32)), .val (.ref aR), .val (.ref b802), .val (.int (4 : Int32)), .unset] [(.int (4 : Int32)), (.int (4 : Int32))])) _
      refine Goes.of (fun t k => XS.icmpYes X807.here hx rfl (pc0 := 74) (pc' := 79) rfl (hb hby at_74) rfl (teq (by decide)).1 (by decide) (by decide) k) ?_
      show Goes p e below (T807.setTop (mkF m 79 #[.val (.int p1), .val (.int p2), .val (.int (1 : Int32)), .val (.int (1 : Int32)), .val (.ref aR), .val (.ref b802), .val (.int (4 : Int32)), .unset] [])) _
      refine Goes.of (fun t k => XS.iloadN X807.here hx rfl (hb hby at_79) rfl k) ?_
      show Goes p e below (T807.setTop (mkF m 80 #[.val (.int p1), .val (.int p2), .val (.int (1 : Int32)), .val (.int (1 : Int32)), .val (.ref aR), .val (.ref b802), .val (.int (4 : Int32)), .unset] [(.int (1 : Int32))])) _
      refine Goes.of (fun t k => XS.ifNo X807.here hx rfl (hb hby at_80) rfl ((if0 _ _).trans (feq (by decide)).1) k) ?_
      show Goes p e below (T807.setTop (mkF m 83 #[.val (.int p1), .val (.int p2), .val (.int (1 : Int32)), .val (.int (1 : Int32)), .val (.ref aR), .val (.ref b802), .val (.int (4 : Int32)), .unset] [])) _
      obtain ⟨a808, T808, h808, k808, b808, c808, X808, e808, E808, hS808, kS808, hZ, hown, S808, F808c, F808v, V808, -, -, C808, -, ne808, st808⟩ := ldcCH (EL := consts_1) X807 hx hZ hown (wd hw 108 rfl) (own_wS hw) e807 hS802 kR802 (own_EW hw) (by decide) C803.1 (vs := [(.int (114 : Int32)), (.int (111 : Int32)), (.int (108 : Int32)), (.int (101 : Int32))]) (z := (4 : Int32)) ⟨by decide, by rfl⟩ (by decide) (by decide) (g := (mkF m 83 #[.val (.int p1), .val (.int p2), .val (.int (1 : Int32)), .val (.int (1 : Int32)), .val (.ref aR), .val (.ref b802), .val (.int (4 : Int32)), .unset] [])) rfl (hb hby at_83) (n := 16) (by decide) (by decide) (by decide) (by decide)
      have C809 := C803.trans C808
      have z810 := Nat.le_trans z804 E808.1
      have z811 := Nat.le_trans kR802 E808.1
      have f812 := f806.ext E808
      have f813 := E802.ext E808
      have f814 := F802.ext E808
      have f815 := V802.ext E808
      have f816 := Es0_802.ext E808
      have f817 := Cs0_802.ext E808
      have f818 := Fs0_802.ext E808
      have f819 := Vs0_802.ext E808
      have f820 := Es1_802.ext E808
      have f821 := Cs1_802.ext E808
      have f822 := Fs1_802.ext E808
      have f823 := Vs1_802.ext E808
      have f824 := Es2_802.ext E808
      have f825 := Cs2_802.ext E808
      have f826 := Fs2_802.ext E808
      have f827 := Vs2_802.ext E808
      refine Goes.of st808 ?_
      show Goes p e below (T808.setTop (mkF m 85 #[.val (.int p1), .val (.int p2), .val (.int (1 : Int32)), .val (.int (1 : Int32)), .val (.ref aR), .val (.ref b802), .val (.int (4 : Int32)), .unset] [(.ref a808)])) _
      refine Goes.of (fun t k => XS.goto X808.here hx rfl (pc0 := 85) (pc' := 90) rfl (hb hby at_85) (by decide) (by decide) k) ?_
      show Goes p e below (T808.setTop (mkF m 90 #[.val (.int p1), .val (.int p2), .val (.int (1 : Int32)), .val (.int (1 : Int32)), .val (.ref aR), .val (.ref b802), .val (.int (4 : Int32)), .unset] [(.ref a808)])) _
      refine Goes.of (fun t k => XS.astore X808.here hx rfl (hb hby at_90) rfl rfl (l' := #[.val (.int p1), .val (.int p2), .val (.int (1 : Int32)), .val (.int (1 : Int32)), .val (.ref aR), .val (.ref b802), .val (.int (4 : Int32)), .val (.ref a808)]) rfl k) ?_
      show Goes p e below (T808.setTop (mkF m 92 #[.val (.int p1), .val (.int p2), .val (.int (1 : Int32)), .val (.int (1 : Int32)), .val (.ref aR), .val (.ref b802), .val (.int (4 : Int32)), .val (.ref a808)] [])) _
      refine Goes.of (fun t k => XS.aload X808.here hx rfl (hb hby at_92) rfl rfl k) ?_
      show Goes p e below (T808.setTop (mkF m 94 #[.val (.int p1), .val (.int p2), .val (.int (1 : Int32)), .val (.int (1 : Int32)), .val (.ref aR), .val (.ref b802), .val (.int (4 : Int32)), .val (.ref a808)] [(.ref a808)])) _
      refine Goes.of (fun t k => XS.aload X808.here hx rfl (hb hby at_94) rfl rfl k) ?_
      show Goes p e below (T808.setTop (mkF m 96 #[.val (.int p1), .val (.int p2), .val (.int (1 : Int32)), .val (.int (1 : Int32)), .val (.ref aR), .val (.ref b802), .val (.int (4 : Int32)), .val (.ref a808)] [(.ref b802), (.ref a808)])) _
      refine Goes.of (fun t k => XS.iconst X808.here hx rfl (hb hby at_96) k) ?_
      obtain ⟨cq828, kq828, q828a, q828b, q828c⟩ := isOf hZ e808 f813
      obtain ⟨_, _, ⟨T828, L828, k828, n828⟩, -, X828, ⟨Lc828, hQ828, l828, y828, z828⟩, st828⟩ := X808.interfaceBack hx (xi := (⟨"java/util/List", "get", "(I)Ljava/lang/Object;"⟩ : MethodName)) (y := (⟨"java/util/ImmutableCollections$ListN", "get", "(I)Ljava/lang/Object;"⟩ : MethodName)) hown (mvT hZ (wd hw 78 rfl)) (mvT hZ (wd hw 79 rfl)) (mvT hZ (wd hw 80 rfl)) (mvT hZ (wd hw 81 rfl)) (mvT hZ (wd hw 82 rfl)) (mvT hZ (wd hw 83 rfl)) (mvT hZ (wd hw 84 rfl)) (mvT hZ (wd hw 75 rfl)) (by decide) (backOf (W := 1) (rm11_239 l Z a0 hw [] b802 d802 q802 cR s0_802 s1_802 s2_802 h808 n0 z810 f814 f815) hZ (wd hw 85 rfl) (wd hw 38 rfl) (by decide) (by decide)) q828a q828b q828c (g := (mkF m 97 #[.val (.int p1), .val (.int p2), .val (.int (1 : Int32)), .val (.int (1 : Int32)), .val (.ref aR), .val (.ref b802), .val (.int (4 : Int32)), .val (.ref a808)] [(.int (0 : Int32)), (.ref b802), (.ref a808)])) rfl (by rw [hml]; rfl) (Steps.refl _) (argsL := [(.int (0 : Int32))]) (rest := [(.ref a808)]) (lenOf pd_20 rfl) rfl (by show 2 * 0 + _ ≤ _; exact Nat.le_of_eq rfl) (hb hby at_97) (fun _ _ => ⟨rfl, e808, (by decide : 10 + 0 ≤ _), (by decide : 114 + 0 ≤ _)⟩)
      dsimp only [Pt.U, Pt.locs, Pt.cells, Pt.slots] at X828 l828 y828 z828 st828 hQ828
      subst l828 y828 z828
      obtain ⟨rfl, N828q, e828⟩ := hQ828
      have N828 := Fr.app N807 N828q
      refine Goes.of (fun t k => st828.trans k) ?_
      obtain ⟨cq829, kq829, q829a, q829b, q829c⟩ := isOf hZ e828 S808
      obtain ⟨_, _, ⟨T829, L829, k829, n829⟩, -, X829, ⟨Lc829, hQ829, l829, y829, z829⟩, st829⟩ := X828.virtualBack hx (y := (⟨"java/lang/String", "equals", "(Ljava/lang/Object;)Z"⟩ : MethodName)) (z := (⟨"java/lang/String", "equals", "(Ljava/lang/Object;)Z"⟩ : MethodName)) hown (mvT hZ (wd hw 86 rfl)) (mvT hZ (wd hw 87 rfl)) (notFace_of_selects (args := #[]) (mvT hZ (wd hw 89 rfl))) (mvT hZ (wd hw 89 rfl)) (mvT hZ (wd hw 88 rfl)) (by decide) (backOf (W := 0) (rm12 l Z a0 hw [] a808 cR b808 bR c808 kR cmS (114 : Int32) (111 : Int32) (108 : Int32) (101 : Int32) h808 n0 z810 f812 SC cs0 S808 F808c F808v V808 (ER.ext f812.2) (CR.ext f812.2) (FR.ext f812.2) (VR.ext f812.2)) hZ (wd hw 90 rfl) (wd hw 11 rfl) (by decide) (by decide)) q829a q829c (g := (mkF m 102 #[.val (.int p1), .val (.int p2), .val (.int (1 : Int32)), .val (.int (1 : Int32)), .val (.ref aR), .val (.ref b802), .val (.int (4 : Int32)), .val (.ref a808)] [(.ref cR), (.ref a808)])) rfl (by rw [hml]; rfl) (Steps.refl _) (argsL := [(.ref cR)]) (rest := []) (lenOf pd_21 rfl) rfl (by show 2 * 0 + _ ≤ _; exact Nat.le_of_eq rfl) (hb hby at_102) (fun _ _ => ⟨rfl, e828, (by decide : 10 + 0 ≤ _), (by decide : 114 + 0 ≤ _)⟩)
      dsimp only [Pt.U, Pt.locs, Pt.cells, Pt.slots] at X829 l829 y829 z829 st829 hQ829
      subst l829 y829 z829
      obtain ⟨rfl, N829q, e829⟩ := hQ829
      have N829 := Fr.app N828 N829q
      refine Goes.of (fun t k => st829.trans k) ?_
      show Goes p e below (T829.setTop (mkF m 105 #[.val (.int p1), .val (.int p2), .val (.int (1 : Int32)), .val (.int (1 : Int32)), .val (.ref aR), .val (.ref b802), .val (.int (4 : Int32)), .val (.ref a808)] [(.int (1 : Int32))])) _
      refine Goes.of (fun t k => XS.ifYes X829.here hx rfl (pc0 := 105) (pc' := 110) rfl (hb hby at_105) rfl ((if0 _ _).trans (feq (by decide)).2) (by decide) (by decide) k) ?_
      show Goes p e below (T829.setTop (mkF m 110 #[.val (.int p1), .val (.int p2), .val (.int (1 : Int32)), .val (.int (1 : Int32)), .val (.ref aR), .val (.ref b802), .val (.int (4 : Int32)), .val (.ref a808)] [])) _
      obtain ⟨a830, T830, h830, k830, b830, c830, X830, e830, E830, hS830, kS830, hZ, hown, S830, F830c, F830v, V830, -, -, C830, -, ne830, st830⟩ := ldcCH (EL := consts_1) X829 hx hZ hown (wd hw 100 rfl) (own_wS hw) e829 hS808 kS808 (own_EW hw) (by decide) C809.1 (vs := [(.int (111 : Int32)), (.int (98 : Int32)), (.int (106 : Int32)), (.int (101 : Int32)), (.int (99 : Int32)), (.int (116 : Int32))]) (z := (6 : Int32)) ⟨by decide, by rfl⟩ (by decide) (by decide) (g := (mkF m 110 #[.val (.int p1), .val (.int p2), .val (.int (1 : Int32)), .val (.int (1 : Int32)), .val (.ref aR), .val (.ref b802), .val (.int (4 : Int32)), .val (.ref a808)] [])) rfl (hb hby at_110) (n := 24) (by decide) (by decide) (by decide) (by decide)
      have C831 := C809.trans C830
      have z832 := Nat.le_trans z810 E830.1
      have z833 := Nat.le_trans kS808 E830.1
      have f834 := f812.ext E830
      have f835 := f813.ext E830
      have f836 := f814.ext E830
      have f837 := f815.ext E830
      have f838 := f816.ext E830
      have f839 := f817.ext E830
      have f840 := f818.ext E830
      have f841 := f819.ext E830
      have f842 := f820.ext E830
      have f843 := f821.ext E830
      have f844 := f822.ext E830
      have f845 := f823.ext E830
      have f846 := f824.ext E830
      have f847 := f825.ext E830
      have f848 := f826.ext E830
      have f849 := f827.ext E830
      have f850 := S808.ext E830
      have f851 := F808c.ext E830
      have f852 := F808v.ext E830
      have f853 := V808.ext E830
      refine Goes.of st830 ?_
      show Goes p e below (T830.setTop (mkF m 112 #[.val (.int p1), .val (.int p2), .val (.int (1 : Int32)), .val (.int (1 : Int32)), .val (.ref aR), .val (.ref b802), .val (.int (4 : Int32)), .val (.ref a808)] [(.ref a830)])) _
      refine Goes.of (fun t k => XS.aload X830.here hx rfl (hb hby at_112) rfl rfl k) ?_
      show Goes p e below (T830.setTop (mkF m 114 #[.val (.int p1), .val (.int p2), .val (.int (1 : Int32)), .val (.int (1 : Int32)), .val (.ref aR), .val (.ref b802), .val (.int (4 : Int32)), .val (.ref a808)] [(.ref b802), (.ref a830)])) _
      refine Goes.of (fun t k => XS.iconst X830.here hx rfl (hb hby at_114) k) ?_
      obtain ⟨cq854, kq854, q854a, q854b, q854c⟩ := isOf hZ e830 f835
      obtain ⟨_, _, ⟨T854, L854, k854, n854⟩, -, X854, ⟨Lc854, hQ854, l854, y854, z854⟩, st854⟩ := X830.interfaceBack hx (xi := (⟨"java/util/List", "get", "(I)Ljava/lang/Object;"⟩ : MethodName)) (y := (⟨"java/util/ImmutableCollections$ListN", "get", "(I)Ljava/lang/Object;"⟩ : MethodName)) hown (mvT hZ (wd hw 78 rfl)) (mvT hZ (wd hw 79 rfl)) (mvT hZ (wd hw 80 rfl)) (mvT hZ (wd hw 81 rfl)) (mvT hZ (wd hw 82 rfl)) (mvT hZ (wd hw 83 rfl)) (mvT hZ (wd hw 84 rfl)) (mvT hZ (wd hw 75 rfl)) (by decide) (backOf (W := 1) (rm11_244 l Z a0 hw [] b802 d802 q802 cR s0_802 s1_802 s2_802 h830 n0 z832 f836 f837) hZ (wd hw 85 rfl) (wd hw 38 rfl) (by decide) (by decide)) q854a q854b q854c (g := (mkF m 115 #[.val (.int p1), .val (.int p2), .val (.int (1 : Int32)), .val (.int (1 : Int32)), .val (.ref aR), .val (.ref b802), .val (.int (4 : Int32)), .val (.ref a808)] [(.int (1 : Int32)), (.ref b802), (.ref a830)])) rfl (by rw [hml]; rfl) (Steps.refl _) (argsL := [(.int (1 : Int32))]) (rest := [(.ref a830)]) (lenOf pd_20 rfl) rfl (by show 2 * 0 + _ ≤ _; exact Nat.le_of_eq rfl) (hb hby at_115) (fun _ _ => ⟨rfl, e830, (by decide : 12 + 0 ≤ _), (by decide : 142 + 0 ≤ _)⟩)
      dsimp only [Pt.U, Pt.locs, Pt.cells, Pt.slots] at X854 l854 y854 z854 st854 hQ854
      subst l854 y854 z854
      obtain ⟨rfl, N854q, e854⟩ := hQ854
      have N854 := Fr.app N829 N854q
      refine Goes.of (fun t k => st854.trans k) ?_
      obtain ⟨cq855, kq855, q855a, q855b, q855c⟩ := isOf hZ e854 S830
      obtain ⟨_, _, ⟨T855, L855, k855, n855⟩, -, X855, ⟨Lc855, hQ855, l855, y855, z855⟩, st855⟩ := X854.virtualBack hx (y := (⟨"java/lang/String", "equals", "(Ljava/lang/Object;)Z"⟩ : MethodName)) (z := (⟨"java/lang/String", "equals", "(Ljava/lang/Object;)Z"⟩ : MethodName)) hown (mvT hZ (wd hw 86 rfl)) (mvT hZ (wd hw 87 rfl)) (notFace_of_selects (args := #[]) (mvT hZ (wd hw 89 rfl))) (mvT hZ (wd hw 89 rfl)) (mvT hZ (wd hw 88 rfl)) (by decide) (backOf (W := 0) (rm12_356 l Z a0 hw [] a830 s0_802 b830 t0_802 c830 u0_802 cmS (111 : Int32) (98 : Int32) (106 : Int32) (101 : Int32) (99 : Int32) (116 : Int32) h830 n0 z832 f834 SC cs0 S830 F830c F830v V830 f838 f839 f840 f841) hZ (wd hw 90 rfl) (wd hw 11 rfl) (by decide) (by decide)) q855a q855c (g := (mkF m 120 #[.val (.int p1), .val (.int p2), .val (.int (1 : Int32)), .val (.int (1 : Int32)), .val (.ref aR), .val (.ref b802), .val (.int (4 : Int32)), .val (.ref a808)] [(.ref s0_802), (.ref a830)])) rfl (by rw [hml]; rfl) (Steps.refl _) (argsL := [(.ref s0_802)]) (rest := []) (lenOf pd_21 rfl) rfl (by show 2 * 0 + _ ≤ _; exact Nat.le_of_eq rfl) (hb hby at_120) (fun _ _ => ⟨rfl, e854, (by decide : 12 + 0 ≤ _), (by decide : 142 + 0 ≤ _)⟩)
      dsimp only [Pt.U, Pt.locs, Pt.cells, Pt.slots] at X855 l855 y855 z855 st855 hQ855
      subst l855 y855 z855
      obtain ⟨rfl, N855q, e855⟩ := hQ855
      have N855 := Fr.app N854 N855q
      refine Goes.of (fun t k => st855.trans k) ?_
      show Goes p e below (T855.setTop (mkF m 123 #[.val (.int p1), .val (.int p2), .val (.int (1 : Int32)), .val (.int (1 : Int32)), .val (.ref aR), .val (.ref b802), .val (.int (4 : Int32)), .val (.ref a808)] [(.int (1 : Int32))])) _
      refine Goes.of (fun t k => XS.ifYes X855.here hx rfl (pc0 := 123) (pc' := 128) rfl (hb hby at_123) rfl ((if0 _ _).trans (feq (by decide)).2) (by decide) (by decide) k) ?_
      show Goes p e below (T855.setTop (mkF m 128 #[.val (.int p1), .val (.int p2), .val (.int (1 : Int32)), .val (.int (1 : Int32)), .val (.ref aR), .val (.ref b802), .val (.int (4 : Int32)), .val (.ref a808)] [])) _
      obtain ⟨a856, T856, h856, k856, b856, c856, X856, e856, E856, hS856, kS856, hZ, hown, S856, F856c, F856v, V856, -, -, C856, -, ne856, st856⟩ := ldcCH (EL := consts_1) X855 hx hZ hown (wd hw 101 rfl) (own_wS hw) e855 hS830 kS830 (own_EW hw) (by decide) C831.1 (vs := [(.int (97 : Int32)), (.int (99 : Int32)), (.int (99 : Int32)), (.int (101 : Int32)), (.int (115 : Int32)), (.int (115 : Int32))]) (z := (6 : Int32)) ⟨by decide, by rfl⟩ (by decide) (by decide) (g := (mkF m 128 #[.val (.int p1), .val (.int p2), .val (.int (1 : Int32)), .val (.int (1 : Int32)), .val (.ref aR), .val (.ref b802), .val (.int (4 : Int32)), .val (.ref a808)] [])) rfl (hb hby at_128) (n := 24) (by decide) (by decide) (by decide) (by decide)
      have C857 := C831.trans C856
      have z858 := Nat.le_trans z832 E856.1
      have z859 := Nat.le_trans kS830 E856.1
      have f860 := f834.ext E856
      have f861 := f835.ext E856
      have f862 := f836.ext E856
      have f863 := f837.ext E856
      have f864 := f838.ext E856
      have f865 := f839.ext E856
      have f866 := f840.ext E856
      have f867 := f841.ext E856
      have f868 := f842.ext E856
      have f869 := f843.ext E856
      have f870 := f844.ext E856
      have f871 := f845.ext E856
      have f872 := f846.ext E856
      have f873 := f847.ext E856
      have f874 := f848.ext E856
      have f875 := f849.ext E856
      have f876 := f850.ext E856
      have f877 := f851.ext E856
      have f878 := f852.ext E856
      have f879 := f853.ext E856
      have f880 := S830.ext E856
      have f881 := F830c.ext E856
      have f882 := F830v.ext E856
      have f883 := V830.ext E856
      refine Goes.of st856 ?_
      show Goes p e below (T856.setTop (mkF m 130 #[.val (.int p1), .val (.int p2), .val (.int (1 : Int32)), .val (.int (1 : Int32)), .val (.ref aR), .val (.ref b802), .val (.int (4 : Int32)), .val (.ref a808)] [(.ref a856)])) _
      refine Goes.of (fun t k => XS.aload X856.here hx rfl (hb hby at_130) rfl rfl k) ?_
      show Goes p e below (T856.setTop (mkF m 132 #[.val (.int p1), .val (.int p2), .val (.int (1 : Int32)), .val (.int (1 : Int32)), .val (.ref aR), .val (.ref b802), .val (.int (4 : Int32)), .val (.ref a808)] [(.ref b802), (.ref a856)])) _
      refine Goes.of (fun t k => XS.iconst X856.here hx rfl (hb hby at_132) k) ?_
      obtain ⟨cq884, kq884, q884a, q884b, q884c⟩ := isOf hZ e856 f861
      obtain ⟨_, _, ⟨T884, L884, k884, n884⟩, -, X884, ⟨Lc884, hQ884, l884, y884, z884⟩, st884⟩ := X856.interfaceBack hx (xi := (⟨"java/util/List", "get", "(I)Ljava/lang/Object;"⟩ : MethodName)) (y := (⟨"java/util/ImmutableCollections$ListN", "get", "(I)Ljava/lang/Object;"⟩ : MethodName)) hown (mvT hZ (wd hw 78 rfl)) (mvT hZ (wd hw 79 rfl)) (mvT hZ (wd hw 80 rfl)) (mvT hZ (wd hw 81 rfl)) (mvT hZ (wd hw 82 rfl)) (mvT hZ (wd hw 83 rfl)) (mvT hZ (wd hw 84 rfl)) (mvT hZ (wd hw 75 rfl)) (by decide) (backOf (W := 1) (rm11_249 l Z a0 hw [] b802 d802 q802 cR s0_802 s1_802 s2_802 h856 n0 z858 f862 f863) hZ (wd hw 85 rfl) (wd hw 38 rfl) (by decide) (by decide)) q884a q884b q884c (g := (mkF m 133 #[.val (.int p1), .val (.int p2), .val (.int (1 : Int32)), .val (.int (1 : Int32)), .val (.ref aR), .val (.ref b802), .val (.int (4 : Int32)), .val (.ref a808)] [(.int (2 : Int32)), (.ref b802), (.ref a856)])) rfl (by rw [hml]; rfl) (Steps.refl _) (argsL := [(.int (2 : Int32))]) (rest := [(.ref a856)]) (lenOf pd_20 rfl) rfl (by show 2 * 0 + _ ≤ _; exact Nat.le_of_eq rfl) (hb hby at_133) (fun _ _ => ⟨rfl, e856, (by decide : 14 + 0 ≤ _), (by decide : 170 + 0 ≤ _)⟩)
      dsimp only [Pt.U, Pt.locs, Pt.cells, Pt.slots] at X884 l884 y884 z884 st884 hQ884
      subst l884 y884 z884
      obtain ⟨rfl, N884q, e884⟩ := hQ884
      have N884 := Fr.app N855 N884q
      refine Goes.of (fun t k => st884.trans k) ?_
      obtain ⟨cq885, kq885, q885a, q885b, q885c⟩ := isOf hZ e884 S856
      obtain ⟨_, _, ⟨T885, L885, k885, n885⟩, -, X885, ⟨Lc885, hQ885, l885, y885, z885⟩, st885⟩ := X884.virtualBack hx (y := (⟨"java/lang/String", "equals", "(Ljava/lang/Object;)Z"⟩ : MethodName)) (z := (⟨"java/lang/String", "equals", "(Ljava/lang/Object;)Z"⟩ : MethodName)) hown (mvT hZ (wd hw 86 rfl)) (mvT hZ (wd hw 87 rfl)) (notFace_of_selects (args := #[]) (mvT hZ (wd hw 89 rfl))) (mvT hZ (wd hw 89 rfl)) (mvT hZ (wd hw 88 rfl)) (by decide) (backOf (W := 0) (rm12_356 l Z a0 hw [] a856 s1_802 b856 t1_802 c856 u1_802 cmS (97 : Int32) (99 : Int32) (99 : Int32) (101 : Int32) (115 : Int32) (115 : Int32) h856 n0 z858 f860 SC cs0 S856 F856c F856v V856 f868 f869 f870 f871) hZ (wd hw 90 rfl) (wd hw 11 rfl) (by decide) (by decide)) q885a q885c (g := (mkF m 138 #[.val (.int p1), .val (.int p2), .val (.int (1 : Int32)), .val (.int (1 : Int32)), .val (.ref aR), .val (.ref b802), .val (.int (4 : Int32)), .val (.ref a808)] [(.ref s1_802), (.ref a856)])) rfl (by rw [hml]; rfl) (Steps.refl _) (argsL := [(.ref s1_802)]) (rest := []) (lenOf pd_21 rfl) rfl (by show 2 * 0 + _ ≤ _; exact Nat.le_of_eq rfl) (hb hby at_138) (fun _ _ => ⟨rfl, e884, (by decide : 14 + 0 ≤ _), (by decide : 170 + 0 ≤ _)⟩)
      dsimp only [Pt.U, Pt.locs, Pt.cells, Pt.slots] at X885 l885 y885 z885 st885 hQ885
      subst l885 y885 z885
      obtain ⟨rfl, N885q, e885⟩ := hQ885
      have N885 := Fr.app N884 N885q
      refine Goes.of (fun t k => st885.trans k) ?_
      show Goes p e below (T885.setTop (mkF m 141 #[.val (.int p1), .val (.int p2), .val (.int (1 : Int32)), .val (.int (1 : Int32)), .val (.ref aR), .val (.ref b802), .val (.int (4 : Int32)), .val (.ref a808)] [(.int (1 : Int32))])) _
      refine Goes.of (fun t k => XS.ifYes X885.here hx rfl (pc0 := 141) (pc' := 146) rfl (hb hby at_141) rfl ((if0 _ _).trans (feq (by decide)).2) (by decide) (by decide) k) ?_
      show Goes p e below (T885.setTop (mkF m 146 #[.val (.int p1), .val (.int p2), .val (.int (1 : Int32)), .val (.int (1 : Int32)), .val (.ref aR), .val (.ref b802), .val (.int (4 : Int32)), .val (.ref a808)] [])) _
      refine Goes.of (fun t k => XS.iloadN X885.here hx rfl (hb hby at_146) rfl k) ?_
      show Goes p e below (T885.setTop (mkF m 147 #[.val (.int p1), .val (.int p2), .val (.int (1 : Int32)), .val (.int (1 : Int32)), .val (.ref aR), .val (.ref b802), .val (.int (4 : Int32)), .val (.ref a808)] [(.int (1 : Int32))])) _
      refine Goes.of (fun t k => XS.ifNo X885.here hx rfl (hb hby at_147) rfl ((if0 _ _).trans (feq (by decide)).1) k) ?_
      show Goes p e below (T885.setTop (mkF m 150 #[.val (.int p1), .val (.int p2), .val (.int (1 : Int32)), .val (.int (1 : Int32)), .val (.ref aR), .val (.ref b802), .val (.int (4 : Int32)), .val (.ref a808)] [])) _
      obtain ⟨a886, T886, h886, k886, b886, c886, X886, e886, E886, hS886, kS886, hZ, hown, S886, F886c, F886v, V886, -, -, C886, -, ne886, st886⟩ := ldcCH (EL := consts_1) X885 hx hZ hown (wd hw 102 rfl) (own_wS hw) e885 hS856 kS856 (own_EW hw) (by decide) C857.1 (vs := [(.int (116 : Int32)), (.int (114 : Int32)), (.int (117 : Int32)), (.int (115 : Int32)), (.int (116 : Int32)), (.int (101 : Int32)), (.int (100 : Int32))]) (z := (7 : Int32)) ⟨by decide, by rfl⟩ (by decide) (by decide) (g := (mkF m 150 #[.val (.int p1), .val (.int p2), .val (.int (1 : Int32)), .val (.int (1 : Int32)), .val (.ref aR), .val (.ref b802), .val (.int (4 : Int32)), .val (.ref a808)] [])) rfl (hb hby at_150) (n := 28) (by decide) (by decide) (by decide) (by decide)
      have C887 := C857.trans C886
      have z888 := Nat.le_trans z858 E886.1
      have z889 := Nat.le_trans kS856 E886.1
      have f890 := f860.ext E886
      have f891 := f861.ext E886
      have f892 := f862.ext E886
      have f893 := f863.ext E886
      have f894 := f864.ext E886
      have f895 := f865.ext E886
      have f896 := f866.ext E886
      have f897 := f867.ext E886
      have f898 := f868.ext E886
      have f899 := f869.ext E886
      have f900 := f870.ext E886
      have f901 := f871.ext E886
      have f902 := f872.ext E886
      have f903 := f873.ext E886
      have f904 := f874.ext E886
      have f905 := f875.ext E886
      have f906 := f876.ext E886
      have f907 := f877.ext E886
      have f908 := f878.ext E886
      have f909 := f879.ext E886
      have f910 := f880.ext E886
      have f911 := f881.ext E886
      have f912 := f882.ext E886
      have f913 := f883.ext E886
      have f914 := S856.ext E886
      have f915 := F856c.ext E886
      have f916 := F856v.ext E886
      have f917 := V856.ext E886
      refine Goes.of st886 ?_
      show Goes p e below (T886.setTop (mkF m 152 #[.val (.int p1), .val (.int p2), .val (.int (1 : Int32)), .val (.int (1 : Int32)), .val (.ref aR), .val (.ref b802), .val (.int (4 : Int32)), .val (.ref a808)] [(.ref a886)])) _
      refine Goes.of (fun t k => XS.aload X886.here hx rfl (hb hby at_152) rfl rfl k) ?_
      show Goes p e below (T886.setTop (mkF m 154 #[.val (.int p1), .val (.int p2), .val (.int (1 : Int32)), .val (.int (1 : Int32)), .val (.ref aR), .val (.ref b802), .val (.int (4 : Int32)), .val (.ref a808)] [(.ref b802), (.ref a886)])) _
      refine Goes.of (fun t k => XS.iconst X886.here hx rfl (hb hby at_154) k) ?_
      obtain ⟨cq918, kq918, q918a, q918b, q918c⟩ := isOf hZ e886 f891
      obtain ⟨_, _, ⟨T918, L918, k918, n918⟩, -, X918, ⟨Lc918, hQ918, l918, y918, z918⟩, st918⟩ := X886.interfaceBack hx (xi := (⟨"java/util/List", "get", "(I)Ljava/lang/Object;"⟩ : MethodName)) (y := (⟨"java/util/ImmutableCollections$ListN", "get", "(I)Ljava/lang/Object;"⟩ : MethodName)) hown (mvT hZ (wd hw 78 rfl)) (mvT hZ (wd hw 79 rfl)) (mvT hZ (wd hw 80 rfl)) (mvT hZ (wd hw 81 rfl)) (mvT hZ (wd hw 82 rfl)) (mvT hZ (wd hw 83 rfl)) (mvT hZ (wd hw 84 rfl)) (mvT hZ (wd hw 75 rfl)) (by decide) (backOf (W := 1) (rm11_254 l Z a0 hw [] b802 d802 q802 cR s0_802 s1_802 s2_802 h886 n0 z888 f892 f893) hZ (wd hw 85 rfl) (wd hw 38 rfl) (by decide) (by decide)) q918a q918b q918c (g := (mkF m 155 #[.val (.int p1), .val (.int p2), .val (.int (1 : Int32)), .val (.int (1 : Int32)), .val (.ref aR), .val (.ref b802), .val (.int (4 : Int32)), .val (.ref a808)] [(.int (3 : Int32)), (.ref b802), (.ref a886)])) rfl (by rw [hml]; rfl) (Steps.refl _) (argsL := [(.int (3 : Int32))]) (rest := [(.ref a886)]) (lenOf pd_20 rfl) rfl (by show 2 * 0 + _ ≤ _; exact Nat.le_of_eq rfl) (hb hby at_155) (fun _ _ => ⟨rfl, e886, (by decide : 16 + 0 ≤ _), (by decide : 202 + 0 ≤ _)⟩)
      dsimp only [Pt.U, Pt.locs, Pt.cells, Pt.slots] at X918 l918 y918 z918 st918 hQ918
      subst l918 y918 z918
      obtain ⟨rfl, N918q, e918⟩ := hQ918
      have N918 := Fr.app N885 N918q
      refine Goes.of (fun t k => st918.trans k) ?_
      obtain ⟨cq919, kq919, q919a, q919b, q919c⟩ := isOf hZ e918 S886
      obtain ⟨_, _, ⟨T919, L919, k919, n919⟩, -, X919, ⟨Lc919, hQ919, l919, y919, z919⟩, st919⟩ := X918.virtualBack hx (y := (⟨"java/lang/String", "equals", "(Ljava/lang/Object;)Z"⟩ : MethodName)) (z := (⟨"java/lang/String", "equals", "(Ljava/lang/Object;)Z"⟩ : MethodName)) hown (mvT hZ (wd hw 86 rfl)) (mvT hZ (wd hw 87 rfl)) (notFace_of_selects (args := #[]) (mvT hZ (wd hw 89 rfl))) (mvT hZ (wd hw 89 rfl)) (mvT hZ (wd hw 88 rfl)) (by decide) (backOf (W := 0) (rm12_427 l Z a0 hw [] a886 s2_802 b886 t2_802 c886 u2_802 cmS (116 : Int32) (114 : Int32) (117 : Int32) (115 : Int32) (116 : Int32) (101 : Int32) (100 : Int32) h886 n0 z888 f890 SC cs0 S886 F886c F886v V886 f902 f903 f904 f905) hZ (wd hw 90 rfl) (wd hw 11 rfl) (by decide) (by decide)) q919a q919c (g := (mkF m 160 #[.val (.int p1), .val (.int p2), .val (.int (1 : Int32)), .val (.int (1 : Int32)), .val (.ref aR), .val (.ref b802), .val (.int (4 : Int32)), .val (.ref a808)] [(.ref s2_802), (.ref a886)])) rfl (by rw [hml]; rfl) (Steps.refl _) (argsL := [(.ref s2_802)]) (rest := []) (lenOf pd_21 rfl) rfl (by show 2 * 0 + _ ≤ _; exact Nat.le_of_eq rfl) (hb hby at_160) (fun _ _ => ⟨rfl, e918, (by decide : 16 + 0 ≤ _), (by decide : 202 + 0 ≤ _)⟩)
      dsimp only [Pt.U, Pt.locs, Pt.cells, Pt.slots] at X919 l919 y919 z919 st919 hQ919
      subst l919 y919 z919
      obtain ⟨rfl, N919q, e919⟩ := hQ919
      have N919 := Fr.app N918 N919q
      refine Goes.of (fun t k => st919.trans k) ?_
      show Goes p e below (T919.setTop (mkF m 163 #[.val (.int p1), .val (.int p2), .val (.int (1 : Int32)), .val (.int (1 : Int32)), .val (.ref aR), .val (.ref b802), .val (.int (4 : Int32)), .val (.ref a808)] [(.int (1 : Int32))])) _
      refine Goes.of (fun t k => XS.ifYes X919.here hx rfl (pc0 := 163) (pc' := 168) rfl (hb hby at_163) rfl ((if0 _ _).trans (feq (by decide)).2) (by decide) (by decide) k) ?_
      show Goes p e below (T919.setTop (mkF m 168 #[.val (.int p1), .val (.int p2), .val (.int (1 : Int32)), .val (.int (1 : Int32)), .val (.ref aR), .val (.ref b802), .val (.int (4 : Int32)), .val (.ref a808)] [])) _
      refine Goes.of (fun t k => XS.iconst X919.here hx rfl (hb hby at_168) k) ?_
      show Goes p e below (T919.setTop (mkF m 169 #[.val (.int p1), .val (.int p2), .val (.int (1 : Int32)), .val (.int (1 : Int32)), .val (.ref aR), .val (.ref b802), .val (.int (4 : Int32)), .val (.ref a808)] [(.int (1 : Int32))])) _
      have eh : T919.heap = h886 := e919
      have hCH : CHr Z consts_1 s.vm s.heap T919.vm T919.heap := by rw [eh, hh]; exact C887.trans (CHv.at X919 hZ (own_EW hw) C887.1)
      exact Goes.retNH (t := .boolean) X919 hS886 (by rw [e919]; exact kS886) hx Bd.returns (by simp) hlocks (hb hby at_169) (⟨rfl, N919⟩) (hCH) (by decide) (by decide)
theorem own_ei {t : Term} {k : Int32} {args : Array Value} {s : State} (h : (Jvm.Cond.eq t (.int k)).value args s none s [] = some true) : t.eval args s none [] s = some (.int k) := by
  obtain ⟨x, y, e1, e2, hk⟩ := cmp_v (Or.inl h)
  have e3 : (Term.int k).eval args s none [] s = some (.int k) := rfl
  rw [e3] at e2; cases e2
  rw [e1]
  simp only [Cond.value, e1, e3] at h
  cases x <;> simp_all
theorem own_len {t : Term} {a : Addr} {cl : Cell} {ty : FieldType} {k : Int32} {args : Array Value} {s : State} (ev : t.eval args s none [] s = some (.ref a)) (A : Arr s s.heap a cl ty) (h : (Jvm.Cond.eq (.length t) (.int k)).value args s none s [] = some true) : cl.slots.size < 2 ^ 31 ∧ cl.slots.size.toInt32 = k := by
  have e := own_ei h
  have ha : s.arrayAt? a = some cl := A.fin (Vm.Alike.refl _)
  by_cases hl : cl.slots.size < 2 ^ 31
  · rw [len_f ev ha hl] at e
    exact ⟨hl, by injection e with e; injection e⟩
  · simp [Term.eval, ev, ha, hl] at e
theorem own_elem {t : Term} {a : Addr} {cl : Cell} {ty : FieldType} {j k : Int32} {i : Nat} {args : Array Value} {s : State} (ev : t.eval args s none [] s = some (.ref a)) (A : Arr s s.heap a cl ty) (hj : j.toNatClampNeg = i) (h : (Jvm.Cond.eq (.elem t (.int j)) (.int k)).value args s none s [] = some true) : cl.slots[i]? = some (.int k) := by
  have e := (elem_in (own_ei h) ev rfl A.1).2
  rw [hj] at e; exact e
set_option maxRecDepth 65536 in
set_option maxHeartbeats 40000000 in
theorem comes_1 {Post : Tables → Env → Array Value → State → Outcome → State → Prop} (hpost : ∀ tb e args s v u, (limb_1_1.after args s (.returned v) u = true ∧ limb_1_2.after args s (.returned v) u = true ∧ True) → Jvm.D.FramedW s (.returned v) u (Jvm.fieldLocs frame_1_writes args s ++ Jvm.arrayLocs frame_1_arrays args s ++ Jvm.staticLocs frame_1_statics s) 32 8320 → Post tb e args s (.returned v) u) :
    ArmFor flags0 classFile x code maxLocals ret World_1 tables_1 room_1 Calls_1 rest_1 Pre_1 Post := by
  intro l hfl _ _ p e ha hc hk s m args below hf hA hF happ hP
  obtain ⟨hcalls, hrest, hpre⟩ := hP
  obtain ⟨-, -, -, hnamed, -, -, -, hat⟩ := (Spec.applies_iff hf).mp happ
  obtain ⟨hg, hn⟩ := and_e (Cond.before_iff.mp (show (Jvm.Cond.and given_1 narrow_1).before args s = true from hpre))
  obtain ⟨g920, g921⟩ := and_e hg
  obtain ⟨g922, g923⟩ := and_e g921
  obtain ⟨w0, w1, rfl⟩ : ∃ w0 w1 : Value, args = #[w0, w1] := by
    have hs : args.size = 2 := by simpa [Cond.value, given_1] using g920
    obtain ⟨L⟩ := args
    match L, hs with
    | [w0, w1], _ => exact ⟨w0, w1, rfl⟩
  have hw := fun d (hd : d ∈ tables_1) => atoms_spec (ws := Jvm.Cond.code x code maxLocals ret :: tables_1) hat d (List.mem_cons_of_mem _ hd)
  have hfit : Fit s := fun {y c} hc i hi => by
    obtain ⟨ha, rfl⟩ := Array.getElem?_eq_some_iff.mp hc
    have q := List.all_eq_true.mp ((Array.all_eq_true_iff_forall_mem.mp hF) _ (Array.getElem_mem ha)) i (List.mem_range.mpr hi)
    simpa [Array.getElem?_eq_getElem hi] using q
  obtain ⟨hsets, hown0⟩ := atoms_of _ (rest_1_c_eq ▸ (show rest_1_c.before _ s = true from hrest))
  have hr0 := Cond.before_iff.mp hown0
  obtain ⟨i0, ei0⟩ := is_v g922
  obtain rfl : w0 = (.int i0) := Option.some.inj ei0
  obtain ⟨i1, ei1⟩ := is_v g923
  obtain rfl : w1 = (.int i1) := Option.some.inj ei1
  have hCHs : CHv s consts_1 s.vm s.heap := CHv.start (own_EW hw) (fun p hp => hcalls.1 p hp) (hsets _ (List.mem_of_getElem? (i := 11) rfl)) (wd hw 13 rfl) (wd hw 12 rfl)
  obtain ⟨nw0, rn0⟩ := and_e hn
  obtain ⟨nw1, rn1⟩ := and_e rn0
  obtain ⟨nw2, rn2⟩ := and_e rn1
  obtain ⟨nw3, rn3⟩ := and_e rn2
  obtain ⟨nw4, rn4⟩ := and_e rn3
  obtain ⟨nw5, rn5⟩ := and_e rn4
  obtain ⟨nw6, rn6⟩ := and_e rn5
  obtain ⟨nw7, rn7⟩ := and_e rn6
  obtain ⟨nw8, rn8⟩ := and_e rn7
  obtain ⟨nw9, rn9⟩ := and_e rn8
  obtain ⟨nw10, rn10⟩ := and_e rn9
  obtain ⟨nw11, rn11⟩ := and_e rn10
  obtain ⟨nw12, rn12⟩ := and_e rn11
  obtain ⟨nw13, rn13⟩ := and_e rn12
  obtain ⟨nw14, rn14⟩ := and_e rn13
  obtain ⟨nw15, rn15⟩ := and_e rn14
  obtain ⟨nw16, rn16⟩ := and_e rn15
  obtain ⟨nw17, rn17⟩ := and_e rn16
  obtain ⟨nw18, rn18⟩ := and_e rn17
  obtain ⟨nw19, rn19⟩ := and_e rn18
  obtain ⟨aS, vS⟩ := exa_v nw0
  have SS := Sta.start vS (Or.inr ⟨(wd hw 1 rfl), (wd hw 2 rfl)⟩)
  have XhS := Exa.start vS nw0
  obtain ⟨cS, uS⟩ := exa_v nw1
  have YS := Fld.start ((fld_at vS).symm.trans uS)
  have ES := Exa.start uS nw1
  have CS := Fld.start ((fld_at uS).symm.trans (own_ei nw2))
  obtain ⟨bS, tS⟩ := arr_v nw3
  have FS := Fld.start ((fld_at uS).symm.trans tS)
  obtain ⟨clS, AS⟩ := Arr.start tS nw3
  have lS := own_len tS AS nw4
  have VS : Arv s s.heap bS clS.cls .byte (7 : Int32) [(.int (115 : Int32)), (.int (117 : Int32)), (.int (98 : Int32)), (.int (106 : Int32)), (.int (101 : Int32)), (.int (99 : Int32)), (.int (116 : Int32))] (.int (0 : Int32)) := Arv.start hfit AS lS.1 lS.2 (by decide) (by decide) ⟨own_elem tS AS (j := (0 : Int32)) (by decide) nw14, own_elem tS AS (j := (1 : Int32)) (by decide) nw15, own_elem tS AS (j := (2 : Int32)) (by decide) nw16, own_elem tS AS (j := (3 : Int32)) (by decide) nw17, own_elem tS AS (j := (4 : Int32)) (by decide) nw18, own_elem tS AS (j := (5 : Int32)) (by decide) nw19, own_elem tS AS (j := (6 : Int32)) (by decide) rn19, trivial⟩
  obtain ⟨aR, vR⟩ := exa_v nw5
  have SR := Sta.start vR (Or.inr ⟨(wd hw 1 rfl), (wd hw 107 rfl)⟩)
  have XhR := Exa.start vR nw5
  obtain ⟨cR, uR⟩ := exa_v nw6
  have YR := Fld.start ((fld_at vR).symm.trans uR)
  have ER := Exa.start uR nw6
  have CR := Fld.start ((fld_at uR).symm.trans (own_ei nw7))
  obtain ⟨bR, tR⟩ := arr_v nw8
  have FR := Fld.start ((fld_at uR).symm.trans tR)
  obtain ⟨clR, AR⟩ := Arr.start tR nw8
  have lR := own_len tR AR nw9
  have VR : Arv s s.heap bR clR.cls .byte (4 : Int32) [(.int (114 : Int32)), (.int (111 : Int32)), (.int (108 : Int32)), (.int (101 : Int32))] (.int (0 : Int32)) := Arv.start hfit AR lR.1 lR.2 (by decide) (by decide) ⟨own_elem tR AR (j := (0 : Int32)) (by decide) nw10, own_elem tR AR (j := (1 : Int32)) (by decide) nw11, own_elem tR AR (j := (2 : Int32)) (by decide) nw12, own_elem tR AR (j := (3 : Int32)) (by decide) nw13, trivial⟩
  have SA := Sta.start (own_ei (Cond.before_iff.mp (hsets _ (List.mem_of_getElem? (i := 5) rfl)))) (Or.inl (hsets _ (List.mem_of_getElem? (i := 4) rfl)))
  obtain ⟨cmS, tC⟩ := is_v (Cond.before_iff.mp (hsets _ (List.mem_of_getElem? (i := 10) rfl)))
  have SC := Sta.start tC (Or.inl (hsets _ (List.mem_of_getElem? (i := 9) rfl)))
  have cs0 : cmS ≠ 0 := fun q => by
    have z := Cond.before_iff.mp (hsets _ (List.mem_of_getElem? (i := 11) rfl))
    have e3 : (Jvm.Term.int (0 : Int32)).eval #[.int i0, .int i1] s none [] s = some (.int 0) := rfl
    subst q; simp [Cond.value, tC, e3] at z
  obtain ⟨n, o, h1, h2, h3, _, L, rfl, ⟨rfl, N⟩, -, hq⟩ := rm0 l s _ hw tables_1 i0 i1 aS cS bS clS.cls aR cR bR clR.cls cmS s.heap s.heap.size (Nat.le_refl _) (Old.start s) SA SC cs0 SS XhS YS ES CS FS VS SR XhR YR ER CR FR VR p e ha hc hk s m _ below hf ((Spec.applies_iff_loose hf).mp happ).1 ⟨rfl, State.Warmed39.refl s, rfl, hCHs⟩ trivial
  refine ⟨n, _, h1, h2, h3, hpost _ _ _ _ _ _ ⟨Cond.after_iff.mpr rfl, Cond.after_iff.mpr (eq_i res_at (Term.int_eval (1)) rfl), trivial⟩ ⟨hq.1, hq.2.1, hq.2.2.1, (hq.2.2.2.sift fun y hy => Or.inr (N y hy)).mono (by decide) (by decide)⟩⟩
theorem main_1_1 : Claimed_1_1 := comes_1 fun _ _ _ _ _ _ h hF => ⟨h.1, hF⟩
theorem main_1_2 : Claimed_1_2 := comes_1 fun _ _ _ _ _ _ h hF => ⟨h.2.1, hF⟩
end Jvm.Pilot.@@N@@
namespace Jvm.Pilot.@@N@@
open Jvm Jvm.ClassFile Sem Op Lib Jvm.Free Jvm.Stand Jvm.Pilot.@@N@@.Jvm.D
/-! MADE BY PROGRAM (witnessworld.py) out of the Statement's table words and the real class files: 30 classes; the members and pool entries that the words name. The judged class is class 1, her method 1. -/
namespace start1
open Jvm.ClassFile
def u (s : String) : CpInfo := .utf8 (stringToUtf16 s)
/-- a pool by its gaps: so many unusable entries, then the entry; so many at the end -/
def gap : Nat → List CpInfo → List CpInfo
  | 0, r => r
  | n + 1, r => .unusable :: gap n r
def poolList (es : List (Nat × CpInfo)) (last : Nat) : List CpInfo := es.foldr (fun e r => gap e.1 (e.2 :: r)) (gap last [])
def pool (es : List (Nat × CpInfo)) (last : Nat) : Array CpInfo := ⟨poolList es last⟩
def fileOf (pool : Array CpInfo) (this : Nat) (attrs : Array Attribute := #[]) (ms : Array MethodInfo := #[]) (fl : Nat := 33) (sup : Nat := 0) (ifs : Array Nat := #[]) (fds : Array FieldInfo := #[]) : ClassFile where
  minorVersion := 0
  majorVersion := 65
  constantPool := pool
  accessFlags := fl
  thisClass := this
  superClass := sup
  interfaces := ifs
  fields := fds
  methods := ms
  attributes := attrs
def plain (name : String) (sup : Option ClassId) : Class where
  name := name
  kind := .ordinary
  loader := none
  accessFlags := 33
  super := sup
  interfaces := #[]
  cf := none
  fields := #[]
  methods := #[]
  instanceTypes := #[]
  staticTypes := #[]
  resolved := #[]
  callSites := []
  init := .initialized
  statics := none
  mirror := none

def pool0 : Array CpInfo := pool [(5, u "<init>"), (0, u "()V"), (1, .class_ 10), (1, u "java/lang/Object")] 113

def k0c0 : Code := { maxStack := 0, maxLocals := 1, code := object_method_1_code, exceptionTable := #[], attributes := #[] }
def k0m0 : Method := { name := "<init>", desc := "()V", sig := { parameters := [], returnType := none }, accessFlags := 1, code := some k0c0 }
/-- java/lang/Object -/
def k0 : Class := { plain "java/lang/Object" none with
  accessFlags := 33
  interfaces := #[]
  cf := some (fileOf pool0 8 #[] #[{ accessFlags := 1, nameIndex := 5, descriptorIndex := 6, attributes := #[] }] 33 0 #[] #[])
  fields := #[]
  methods := #[k0m0]
  instanceTypes := #[]
  staticTypes := #[]
  resolved := Array.replicate 124 none
  statics := none }

def pool1 : Array CpInfo := pool [(2, .class_ 4), (1, u "java/lang/Object"), (0, u "<init>"), (0, u "()V"), (0, .fieldref 8 9), (0, .class_ 10), (0, .nameAndType 11 12), (0, u "com/example/leaklint/leaklint/GrantListHeader"), (0, u "ROLE"), (0, u "Lcom/example/leaklint/leaklint/GrantListHeader;"), (0, .fieldref 8 14), (0, .nameAndType 15 12), (0, u "SUBJECT"), (0, .methodref 8 17), (0, .nameAndType 18 19), (0, u "fields"), (0, u "(Z)Ljava/util/List;"), (0, .interfaceMethodref 21 22), (0, .class_ 23), (0, .nameAndType 24 25), (0, u "java/util/List"), (0, u "size"), (0, u "()I"), (0, .string 27), (0, u "role"), (0, .string 29), (0, u "subject"), (0, .interfaceMethodref 21 31), (0, .nameAndType 32 33), (0, u "get"), (0, u "(I)Ljava/lang/Object;"), (0, .methodref 35 36), (0, .class_ 37), (0, .nameAndType 38 39), (0, u "java/lang/String"), (0, u "equals"), (0, u "(Ljava/lang/Object;)Z"), (0, .string 41), (0, u "object"), (0, .string 43), (0, u "access"), (0, .string 45), (0, u "trusted"), (0, .class_ 47), (0, u "com/example/leaklint/leaklint/GrantListHeaderFieldsPinLaw"), (2, u "law"), (0, u "(II)Z")] 3

def k1m0 : Method := { name := "<init>", desc := "()V", sig := { parameters := [], returnType := none }, accessFlags := 1, code := none }
def k1c1 : Code := { maxStack := 3, maxLocals := 8, code := code, exceptionTable := #[], attributes := #[] }
def k1m1 : Method := { name := "law", desc := "(II)Z", sig := { parameters := [.int, .int], returnType := some .boolean }, accessFlags := 9, code := some k1c1 }
/-- com/example/leaklint/leaklint/GrantListHeaderFieldsPinLaw -/
def k1 : Class := { plain "com/example/leaklint/leaklint/GrantListHeaderFieldsPinLaw" (some 0) with
  accessFlags := 49
  interfaces := #[]
  cf := some (fileOf pool1 46 #[] #[{ accessFlags := 1, nameIndex := 5, descriptorIndex := 6, attributes := #[] }, { accessFlags := 9, nameIndex := 50, descriptorIndex := 51, attributes := #[] }] 49 2 #[] #[])
  fields := #[]
  methods := #[k1m0, k1m1]
  instanceTypes := #[]
  staticTypes := #[]
  resolved := Array.replicate 55 none
  statics := none }

def pool2 : Array CpInfo := pool [(1, .class_ 2), (0, u "java/lang/constant/Constable"), (0, .class_ 4), (0, u "java/lang/Object")] 6

/-- java/lang/constant/Constable -/
def k2 : Class := { plain "java/lang/constant/Constable" (some 0) with
  accessFlags := 1537
  interfaces := #[]
  cf := some (fileOf pool2 1 #[] #[] 1537 3 #[] #[])
  fields := #[]
  methods := #[]
  instanceTypes := #[]
  staticTypes := #[]
  resolved := Array.replicate 11 none
  statics := none }

def pool3 : Array CpInfo := pool [(1, .class_ 2), (0, u "java/lang/Comparable"), (0, .class_ 4), (0, u "java/lang/Object")] 7

/-- java/lang/Comparable -/
def k3 : Class := { plain "java/lang/Comparable" (some 0) with
  accessFlags := 1537
  interfaces := #[]
  cf := some (fileOf pool3 1 #[] #[] 1537 3 #[] #[])
  fields := #[]
  methods := #[]
  instanceTypes := #[]
  staticTypes := #[]
  resolved := Array.replicate 12 none
  statics := none }

def pool4 : Array CpInfo := pool [(1, .class_ 2), (0, u "java/io/Serializable"), (0, .class_ 4), (0, u "java/lang/Object")] 2

/-- java/io/Serializable -/
def k4 : Class := { plain "java/io/Serializable" (some 0) with
  accessFlags := 1537
  interfaces := #[]
  cf := some (fileOf pool4 1 #[] #[] 1537 3 #[] #[])
  fields := #[]
  methods := #[]
  instanceTypes := #[]
  staticTypes := #[]
  resolved := Array.replicate 7 none
  statics := none }

def pool5 : Array CpInfo := pool [(2, .class_ 4), (1, u "java/lang/Enum"), (0, u "name"), (0, u "Ljava/lang/String;"), (2, u "ordinal"), (0, u "I"), (1, .class_ 14), (1, u "java/lang/Object"), (4, u "hash"), (86, .class_ 108), (1, u "java/lang/Enum$EnumDesc"), (2, .class_ 112), (0, u "java/lang/constant/Constable"), (0, .class_ 114), (0, u "java/lang/Comparable"), (0, .class_ 116), (0, u "java/io/Serializable")] 87

/-- java/lang/Enum -/
def k5 : Class := { plain "java/lang/Enum" (some 0) with
  accessFlags := 1057
  interfaces := #[2, 3, 4]
  cf := some (fileOf pool5 2 #[.nestMembers #[106]] #[] 1057 12 #[111, 113, 115] #[{ accessFlags := 18, nameIndex := 5, descriptorIndex := 6, attributes := #[] }, { accessFlags := 18, nameIndex := 9, descriptorIndex := 10, attributes := #[] }, { accessFlags := 2, nameIndex := 19, descriptorIndex := 10, attributes := #[] }])
  fields := #[{ name := "name", type := (.object "java/lang/String"), accessFlags := 18, slot := 0, constantValue := 0 }, { name := "ordinal", type := .int, accessFlags := 18, slot := 1, constantValue := 0 }, { name := "hash", type := .int, accessFlags := 2, slot := 2, constantValue := 0 }]
  methods := #[]
  instanceTypes := #[(.object "java/lang/String"), .int, .int]
  staticTypes := #[]
  resolved := Array.replicate 204 none
  statics := none }

def pool6 : Array CpInfo := pool [(1, .class_ 2), (0, u "com/example/leaklint/leaklint/GrantListHeader"), (2, u "SUBJECT"), (0, u "Lcom/example/leaklint/leaklint/GrantListHeader;"), (2, u "ROLE"), (2, u "$VALUES"), (0, u "[Lcom/example/leaklint/leaklint/GrantListHeader;"), (6, .class_ 22), (1, u "java/lang/Enum"), (6, .fieldref 1 30), (0, .nameAndType 31 32), (0, u "subjectColumn"), (0, u "Ljava/lang/String;"), (0, .string 34), (0, u "object"), (0, .string 36), (0, u "access"), (0, .string 38), (0, u "trusted"), (0, .interfaceMethodref 40 41), (0, .class_ 42), (0, .nameAndType 43 44), (0, u "java/util/List"), (0, u "of"), (0, u "(Ljava/lang/Object;Ljava/lang/Object;Ljava/lang/Object;Ljava/lang/Object;)Ljava/util/List;"), (0, .interfaceMethodref 40 46), (0, .nameAndType 43 47), (0, u "(Ljava/lang/Object;Ljava/lang/Object;Ljava/lang/Object;)Ljava/util/List;"), (4, u "fields"), (0, u "(Z)Ljava/util/List;")] 36

def k6c0 : Code := { maxStack := 4, maxLocals := 2, code := prog_13_method_5_code, exceptionTable := #[], attributes := #[] }
def k6m0 : Method := { name := "fields", desc := "(Z)Ljava/util/List;", sig := { parameters := [.boolean], returnType := some (.object "java/util/List") }, accessFlags := 0, code := some k6c0 }
/-- com/example/leaklint/leaklint/GrantListHeader -/
def k6 : Class := { plain "com/example/leaklint/leaklint/GrantListHeader" (some 5) with
  accessFlags := 16432
  interfaces := #[]
  cf := some (fileOf pool6 1 #[] #[{ accessFlags := 0, nameIndex := 52, descriptorIndex := 53, attributes := #[] }] 16432 20 #[] #[{ accessFlags := 16409, nameIndex := 5, descriptorIndex := 6, attributes := #[] }, { accessFlags := 16409, nameIndex := 9, descriptorIndex := 6, attributes := #[] }, { accessFlags := 18, nameIndex := 31, descriptorIndex := 32, attributes := #[] }, { accessFlags := 4122, nameIndex := 12, descriptorIndex := 13, attributes := #[] }])
  fields := #[{ name := "SUBJECT", type := (.object "com/example/leaklint/leaklint/GrantListHeader"), accessFlags := 16409, slot := 0, constantValue := 0 }, { name := "ROLE", type := (.object "com/example/leaklint/leaklint/GrantListHeader"), accessFlags := 16409, slot := 1, constantValue := 0 }, { name := "subjectColumn", type := (.object "java/lang/String"), accessFlags := 18, slot := 3, constantValue := 0 }, { name := "$VALUES", type := (.array (.object "com/example/leaklint/leaklint/GrantListHeader")), accessFlags := 4122, slot := 2, constantValue := 0 }]
  methods := #[k6m0]
  instanceTypes := #[(.object "java/lang/String"), .int, .int, (.object "java/lang/String")]
  staticTypes := #[(.object "com/example/leaklint/leaklint/GrantListHeader"), (.object "com/example/leaklint/leaklint/GrantListHeader"), (.array (.object "com/example/leaklint/leaklint/GrantListHeader"))]
  resolved := Array.replicate 90 none
  statics := some 0 }

def pool7 : Array CpInfo := pool [(2, .class_ 4), (1, u "java/lang/CharSequence"), (42, .class_ 48), (0, u "java/lang/CharSequence$1CodePointIterator"), (10, .class_ 60), (0, u "java/lang/CharSequence$1CharIterator"), (5, .class_ 67), (0, u "java/lang/Object")] 63

/-- java/lang/CharSequence -/
def k7 : Class := { plain "java/lang/CharSequence" (some 0) with
  accessFlags := 1537
  interfaces := #[]
  cf := some (fileOf pool7 2 #[.nestMembers #[47, 59]] #[] 1537 66 #[] #[])
  fields := #[]
  methods := #[]
  instanceTypes := #[]
  staticTypes := #[]
  resolved := Array.replicate 131 none
  statics := none }

def pool8 : Array CpInfo := pool [(1, .class_ 2), (0, u "java/lang/constant/ConstantDesc"), (0, .class_ 4), (0, u "java/lang/Object")] 32

/-- java/lang/constant/ConstantDesc -/
def k8 : Class := { plain "java/lang/constant/ConstantDesc" (some 0) with
  accessFlags := 1537
  interfaces := #[]
  cf := some (fileOf pool8 1 #[] #[] 1537 3 #[] #[])
  fields := #[]
  methods := #[]
  instanceTypes := #[]
  staticTypes := #[]
  resolved := Array.replicate 37 none
  statics := none }

def pool9 : Array CpInfo := pool [(2, .class_ 4), (1, u "java/lang/Object"), (0, u "<init>"), (0, u "()V"), (2, .fieldref 10 11), (0, .class_ 12), (0, .nameAndType 13 14), (0, u "java/lang/String"), (0, u "value"), (0, u "[B"), (0, .fieldref 10 16), (0, .nameAndType 17 18), (0, u "coder"), (0, u "B"), (2, u "hash"), (0, u "I"), (2, u "hashIsZero"), (0, u "Z"), (11, .fieldref 10 39), (0, .nameAndType 40 26), (0, u "COMPACT_STRINGS"), (66, .class_ 109), (1, u "java/lang/StringLatin1"), (431, .methodref 107 542), (0, .nameAndType 543 544), (0, u "equals"), (0, u "([B[B)Z"), (28, u "(Ljava/lang/Object;)Z"), (1, .class_ 576), (0, u "java/lang/CharSequence"), (22, u "CASE_INSENSITIVE_ORDER"), (0, u "Ljava/util/Comparator;"), (500, u "serialPersistentFields"), (0, u "[Ljava/io/ObjectStreamField;"), (0, .class_ 1104), (0, u "java/lang/String$CaseInsensitiveComparator"), (1, .class_ 1107), (0, u "java/io/Serializable"), (0, .class_ 1109), (0, u "java/lang/Comparable"), (0, .class_ 1111), (0, u "java/lang/constant/Constable"), (0, .class_ 1113), (0, u "java/lang/constant/ConstantDesc"), (2, u "serialVersionUID"), (0, u "J"), (3, u "REPL"), (0, u "C"), (2, u "LATIN1"), (1, u "UTF16")] 323

def k9m0 : Method := { name := "<init>", desc := "()V", sig := { parameters := [], returnType := none }, accessFlags := 1, code := none }
def k9c1 : Code := { maxStack := 2, maxLocals := 3, code := jdk_42_method_66_code, exceptionTable := #[], attributes := #[] }
def k9m1 : Method := { name := "equals", desc := "(Ljava/lang/Object;)Z", sig := { parameters := [(.object "java/lang/Object")], returnType := some .boolean }, accessFlags := 1, code := some k9c1 }
/-- java/lang/String -/
def k9 : Class := { plain "java/lang/String" (some 0) with
  accessFlags := 49
  interfaces := #[4, 3, 7, 2, 8]
  cf := some (fileOf pool9 10 #[.nestMembers #[1103]] #[{ accessFlags := 1, nameIndex := 5, descriptorIndex := 6, attributes := #[] }, { accessFlags := 1, nameIndex := 543, descriptorIndex := 573, attributes := #[] }] 49 2 #[1106, 1108, 575, 1110, 1112] #[{ accessFlags := 18, nameIndex := 13, descriptorIndex := 14, attributes := #[] }, { accessFlags := 18, nameIndex := 17, descriptorIndex := 18, attributes := #[] }, { accessFlags := 2, nameIndex := 21, descriptorIndex := 22, attributes := #[] }, { accessFlags := 2, nameIndex := 25, descriptorIndex := 26, attributes := #[] }, { accessFlags := 26, nameIndex := 1116, descriptorIndex := 1117, attributes := #[] }, { accessFlags := 24, nameIndex := 40, descriptorIndex := 26, attributes := #[] }, { accessFlags := 26, nameIndex := 1101, descriptorIndex := 1102, attributes := #[] }, { accessFlags := 26, nameIndex := 1121, descriptorIndex := 1122, attributes := #[] }, { accessFlags := 25, nameIndex := 599, descriptorIndex := 600, attributes := #[] }, { accessFlags := 24, nameIndex := 1125, descriptorIndex := 18, attributes := #[] }, { accessFlags := 24, nameIndex := 1127, descriptorIndex := 18, attributes := #[] }])
  fields := #[{ name := "value", type := (.array .byte), accessFlags := 18, slot := 0, constantValue := 0 }, { name := "coder", type := .byte, accessFlags := 18, slot := 1, constantValue := 0 }, { name := "hash", type := .int, accessFlags := 2, slot := 2, constantValue := 0 }, { name := "hashIsZero", type := .boolean, accessFlags := 2, slot := 3, constantValue := 0 }, { name := "serialVersionUID", type := .long, accessFlags := 26, slot := 0, constantValue := 0 }, { name := "COMPACT_STRINGS", type := .boolean, accessFlags := 24, slot := 1, constantValue := 0 }, { name := "serialPersistentFields", type := (.array (.object "java/io/ObjectStreamField")), accessFlags := 26, slot := 2, constantValue := 0 }, { name := "REPL", type := .char, accessFlags := 26, slot := 3, constantValue := 0 }, { name := "CASE_INSENSITIVE_ORDER", type := (.object "java/util/Comparator"), accessFlags := 25, slot := 4, constantValue := 0 }, { name := "LATIN1", type := .byte, accessFlags := 24, slot := 5, constantValue := 0 }, { name := "UTF16", type := .byte, accessFlags := 24, slot := 6, constantValue := 0 }]
  methods := #[k9m0, k9m1]
  instanceTypes := #[(.array .byte), .byte, .int, .boolean]
  staticTypes := #[.long, .boolean, (.array (.object "java/io/ObjectStreamField")), .char, (.object "java/util/Comparator"), .byte, .byte]
  resolved := Array.replicate 1451 none
  statics := some 1 }

def pool10 : Array CpInfo := pool [(8, .class_ 10), (1, u "java/lang/Iterable"), (24, .class_ 36), (0, u "java/lang/Object")] 25

/-- java/lang/Iterable -/
def k10 : Class := { plain "java/lang/Iterable" (some 0) with
  accessFlags := 1537
  interfaces := #[]
  cf := some (fileOf pool10 8 #[] #[] 1537 35 #[] #[])
  fields := #[]
  methods := #[]
  instanceTypes := #[]
  staticTypes := #[]
  resolved := Array.replicate 62 none
  statics := none }

def pool11 : Array CpInfo := pool [(10, .class_ 12), (1, u "java/util/Collection"), (47, .class_ 61), (0, u "java/lang/Object"), (0, .class_ 63), (0, u "java/lang/Iterable")] 51

/-- java/util/Collection -/
def k11 : Class := { plain "java/util/Collection" (some 0) with
  accessFlags := 1537
  interfaces := #[10]
  cf := some (fileOf pool11 10 #[] #[] 1537 60 #[62] #[])
  fields := #[]
  methods := #[]
  instanceTypes := #[]
  staticTypes := #[]
  resolved := Array.replicate 115 none
  statics := none }

def pool12 : Array CpInfo := pool [(8, .class_ 10), (1, u "java/util/SequencedCollection"), (15, .class_ 27), (0, u "java/lang/Object"), (0, .class_ 29), (0, u "java/util/Collection")] 27

/-- java/util/SequencedCollection -/
def k12 : Class := { plain "java/util/SequencedCollection" (some 0) with
  accessFlags := 1537
  interfaces := #[11]
  cf := some (fileOf pool12 8 #[] #[] 1537 26 #[28] #[])
  fields := #[]
  methods := #[]
  instanceTypes := #[]
  staticTypes := #[]
  resolved := Array.replicate 57 none
  statics := none }

def pool13 : Array CpInfo := pool [(8, .class_ 10), (1, u "java/util/List"), (64, u "get"), (0, u "(I)Ljava/lang/Object;"), (2, u "size"), (0, u "()I"), (7, u "of"), (2, .class_ 93), (1, u "java/util/ImmutableCollections"), (9, .class_ 104), (0, u "java/lang/Object"), (0, .methodref 91 106), (0, .nameAndType 107 108), (0, u "listFromTrustedArray"), (0, u "([Ljava/lang/Object;)Ljava/util/List;"), (11, .class_ 121), (0, u "java/util/SequencedCollection"), (82, u "(Ljava/lang/Object;Ljava/lang/Object;Ljava/lang/Object;)Ljava/util/List;"), (2, u "(Ljava/lang/Object;Ljava/lang/Object;Ljava/lang/Object;Ljava/lang/Object;)Ljava/util/List;")] 43

def k13m0 : Method := { name := "size", desc := "()I", sig := { parameters := [], returnType := some .int }, accessFlags := 1025, code := none }
def k13m1 : Method := { name := "get", desc := "(I)Ljava/lang/Object;", sig := { parameters := [.int], returnType := some (.object "java/lang/Object") }, accessFlags := 1025, code := none }
def k13c2 : Code := { maxStack := 4, maxLocals := 3, code := jdk_40_method_39_code, exceptionTable := #[], attributes := #[] }
def k13m2 : Method := { name := "of", desc := "(Ljava/lang/Object;Ljava/lang/Object;Ljava/lang/Object;)Ljava/util/List;", sig := { parameters := [(.object "java/lang/Object"), (.object "java/lang/Object"), (.object "java/lang/Object")], returnType := some (.object "java/util/List") }, accessFlags := 9, code := some k13c2 }
def k13c3 : Code := { maxStack := 4, maxLocals := 4, code := jdk_40_method_40_code, exceptionTable := #[], attributes := #[] }
def k13m3 : Method := { name := "of", desc := "(Ljava/lang/Object;Ljava/lang/Object;Ljava/lang/Object;Ljava/lang/Object;)Ljava/util/List;", sig := { parameters := [(.object "java/lang/Object"), (.object "java/lang/Object"), (.object "java/lang/Object"), (.object "java/lang/Object")], returnType := some (.object "java/util/List") }, accessFlags := 9, code := some k13c3 }
/-- java/util/List -/
def k13 : Class := { plain "java/util/List" (some 0) with
  accessFlags := 1537
  interfaces := #[12]
  cf := some (fileOf pool13 8 #[] #[{ accessFlags := 1025, nameIndex := 79, descriptorIndex := 80, attributes := #[] }, { accessFlags := 1025, nameIndex := 75, descriptorIndex := 76, attributes := #[] }, { accessFlags := 9, nameIndex := 88, descriptorIndex := 204, attributes := #[] }, { accessFlags := 9, nameIndex := 88, descriptorIndex := 207, attributes := #[] }] 1537 103 #[120] #[])
  fields := #[]
  methods := #[k13m0, k13m1, k13m2, k13m3]
  instanceTypes := #[]
  staticTypes := #[]
  resolved := Array.replicate 251 none
  statics := none }

def pool14 : Array CpInfo := pool [(2, .class_ 4), (1, u "java/lang/Object"), (0, u "<init>"), (0, u "()V"), (3, .class_ 11), (0, u "java/util/ImmutableCollections$List12"), (0, .class_ 13), (0, u "java/util/ImmutableCollections$ListN"), (3, u "Z"), (18, u "([Ljava/lang/Object;)Ljava/util/List;"), (0, .methodref 38 39), (0, .class_ 40), (0, .nameAndType 41 42), (0, u "java/util/Objects"), (0, u "requireNonNull"), (0, u "(Ljava/lang/Object;)Ljava/lang/Object;"), (0, .methodref 12 44), (0, .nameAndType 5 45), (0, u "([Ljava/lang/Object;Z)V"), (0, .fieldref 47 48), (0, .class_ 49), (0, .nameAndType 50 17), (0, u "java/util/ImmutableCollections"), (0, u "$assertionsDisabled"), (5, u "[Ljava/lang/Object;"), (5, u "EMPTY_LIST"), (0, u "Ljava/util/ImmutableCollections$ListN;"), (8, u "EMPTY_LIST_NULLS"), (22, u "SALT32L"), (0, u "J"), (2, u "REVERSE"), (6, u "archivedObjects"), (2, u "EMPTY"), (0, u "Ljava/lang/Object;"), (0, .class_ 112), (0, u "java/util/ImmutableCollections$SetN"), (5, u "EMPTY_SET"), (0, u "Ljava/util/ImmutableCollections$SetN;"), (0, .class_ 121), (0, u "java/util/ImmutableCollections$MapN"), (3, u "EMPTY_MAP"), (0, u "Ljava/util/ImmutableCollections$MapN;"), (4, u "EXPAND_FACTOR"), (0, u "I"), (26, u "listFromTrustedArray"), (9, .class_ 170), (0, u "java/util/ImmutableCollections$MapN$MapNIterator"), (0, .class_ 172), (0, u "java/util/ImmutableCollections$MapN$1"), (0, .class_ 174), (0, u "java/util/ImmutableCollections$Map1"), (0, .class_ 176), (0, u "java/util/ImmutableCollections$AbstractImmutableMap"), (0, .class_ 178), (0, u "java/util/ImmutableCollections$SetN$SetNIterator"), (0, .class_ 180), (0, u "java/util/ImmutableCollections$Set12"), (0, .class_ 182), (0, u "java/util/ImmutableCollections$Set12$1"), (0, .class_ 184), (0, u "java/util/ImmutableCollections$AbstractImmutableSet"), (0, .class_ 186), (0, u "java/util/ImmutableCollections$SubList"), (0, .class_ 188), (0, u "java/util/ImmutableCollections$ListItr"), (0, .class_ 190), (0, u "java/util/ImmutableCollections$AbstractImmutableList"), (0, .class_ 192), (0, u "java/util/ImmutableCollections$AbstractImmutableCollection"), (0, .class_ 194), (0, u "java/util/ImmutableCollections$Access"), (0, .class_ 196), (0, u "java/util/ImmutableCollections$Access$1")] 16

def k14m0 : Method := { name := "<init>", desc := "()V", sig := { parameters := [], returnType := none }, accessFlags := 2, code := none }
def k14c1 : Code := { maxStack := 5, maxLocals := 5, code := jdk_56_method_5_code, exceptionTable := #[], attributes := #[] }
def k14m1 : Method := { name := "listFromTrustedArray", desc := "([Ljava/lang/Object;)Ljava/util/List;", sig := { parameters := [(.array (.object "java/lang/Object"))], returnType := some (.object "java/util/List") }, accessFlags := 136, code := some k14c1 }
/-- java/util/ImmutableCollections -/
def k14 : Class := { plain "java/util/ImmutableCollections" (some 0) with
  accessFlags := 32
  interfaces := #[]
  cf := some (fileOf pool14 47 #[.nestMembers #[120, 169, 171, 173, 175, 111, 177, 179, 181, 183, 12, 10, 185, 187, 189, 191, 193, 195]] #[{ accessFlags := 2, nameIndex := 5, descriptorIndex := 6, attributes := #[] }, { accessFlags := 136, nameIndex := 159, descriptorIndex := 36, attributes := #[] }] 32 2 #[] #[{ accessFlags := 26, nameIndex := 95, descriptorIndex := 96, attributes := #[] }, { accessFlags := 26, nameIndex := 99, descriptorIndex := 17, attributes := #[] }, { accessFlags := 10, nameIndex := 106, descriptorIndex := 56, attributes := #[] }, { accessFlags := 26, nameIndex := 109, descriptorIndex := 110, attributes := #[] }, { accessFlags := 24, nameIndex := 62, descriptorIndex := 63, attributes := #[] }, { accessFlags := 24, nameIndex := 72, descriptorIndex := 63, attributes := #[] }, { accessFlags := 24, nameIndex := 118, descriptorIndex := 119, attributes := #[] }, { accessFlags := 24, nameIndex := 125, descriptorIndex := 126, attributes := #[] }, { accessFlags := 24, nameIndex := 131, descriptorIndex := 132, attributes := #[] }, { accessFlags := 4120, nameIndex := 50, descriptorIndex := 17, attributes := #[] }])
  fields := #[{ name := "SALT32L", type := .long, accessFlags := 26, slot := 0, constantValue := 0 }, { name := "REVERSE", type := .boolean, accessFlags := 26, slot := 1, constantValue := 0 }, { name := "archivedObjects", type := (.array (.object "java/lang/Object")), accessFlags := 10, slot := 2, constantValue := 0 }, { name := "EMPTY", type := (.object "java/lang/Object"), accessFlags := 26, slot := 3, constantValue := 0 }, { name := "EMPTY_LIST", type := (.object "java/util/ImmutableCollections$ListN"), accessFlags := 24, slot := 4, constantValue := 0 }, { name := "EMPTY_LIST_NULLS", type := (.object "java/util/ImmutableCollections$ListN"), accessFlags := 24, slot := 5, constantValue := 0 }, { name := "EMPTY_SET", type := (.object "java/util/ImmutableCollections$SetN"), accessFlags := 24, slot := 6, constantValue := 0 }, { name := "EMPTY_MAP", type := (.object "java/util/ImmutableCollections$MapN"), accessFlags := 24, slot := 7, constantValue := 0 }, { name := "EXPAND_FACTOR", type := .int, accessFlags := 24, slot := 8, constantValue := 0 }, { name := "$assertionsDisabled", type := .boolean, accessFlags := 4120, slot := 9, constantValue := 0 }]
  methods := #[k14m0, k14m1]
  instanceTypes := #[]
  staticTypes := #[.long, .boolean, (.array (.object "java/lang/Object")), (.object "java/lang/Object"), (.object "java/util/ImmutableCollections$ListN"), (.object "java/util/ImmutableCollections$ListN"), (.object "java/util/ImmutableCollections$SetN"), (.object "java/util/ImmutableCollections$MapN"), .int, .boolean]
  resolved := Array.replicate 213 none
  statics := some 2 }

def pool15 : Array CpInfo := pool [(2, .class_ 4), (1, u "java/lang/Object"), (0, u "<init>"), (0, u "()V"), (35, .class_ 44), (1, u "java/util/Objects"), (0, u "requireNonNull"), (0, u "(Ljava/lang/Object;)Ljava/lang/Object;")] 137

def k15m0 : Method := { name := "<init>", desc := "()V", sig := { parameters := [], returnType := none }, accessFlags := 2, code := none }
def k15c1 : Code := { maxStack := 2, maxLocals := 1, code := jdk_31_method_10_code, exceptionTable := #[], attributes := #[] }
def k15m1 : Method := { name := "requireNonNull", desc := "(Ljava/lang/Object;)Ljava/lang/Object;", sig := { parameters := [(.object "java/lang/Object")], returnType := some (.object "java/lang/Object") }, accessFlags := 9, code := some k15c1 }
/-- java/util/Objects -/
def k15 : Class := { plain "java/util/Objects" (some 0) with
  accessFlags := 49
  interfaces := #[]
  cf := some (fileOf pool15 42 #[] #[{ accessFlags := 2, nameIndex := 5, descriptorIndex := 6, attributes := #[] }, { accessFlags := 9, nameIndex := 45, descriptorIndex := 46, attributes := #[] }] 49 2 #[] #[])
  fields := #[]
  methods := #[k15m0, k15m1]
  instanceTypes := #[]
  staticTypes := #[]
  resolved := Array.replicate 184 none
  statics := none }

def pool16 : Array CpInfo := pool [(1, .methodref 2 3), (0, .class_ 4), (0, .nameAndType 5 6), (0, u "java/lang/Object"), (0, u "<init>"), (0, u "()V"), (1, .class_ 10), (1, u "java/util/AbstractCollection"), (66, .class_ 78), (0, u "java/util/Collection")] 81

def k16c0 : Code := { maxStack := 1, maxLocals := 1, code := jdk_22_method_1_code, exceptionTable := #[], attributes := #[] }
def k16m0 : Method := { name := "<init>", desc := "()V", sig := { parameters := [], returnType := none }, accessFlags := 4, code := some k16c0 }
/-- java/util/AbstractCollection -/
def k16 : Class := { plain "java/util/AbstractCollection" (some 0) with
  accessFlags := 1057
  interfaces := #[11]
  cf := some (fileOf pool16 8 #[] #[{ accessFlags := 4, nameIndex := 5, descriptorIndex := 6, attributes := #[] }] 1057 2 #[77] #[])
  fields := #[]
  methods := #[k16m0]
  instanceTypes := #[]
  staticTypes := #[]
  resolved := Array.replicate 160 none
  statics := none }

def pool17 : Array CpInfo := pool [(1, .methodref 2 3), (0, .class_ 4), (0, .nameAndType 5 6), (0, u "java/util/AbstractCollection"), (0, u "<init>"), (0, u "()V"), (1, .class_ 10), (1, u "java/util/ImmutableCollections"), (2, .class_ 14), (0, u "java/util/ImmutableCollections$AbstractImmutableCollection")] 41

def k17c0 : Code := { maxStack := 1, maxLocals := 1, code := jdk_47_method_1_code, exceptionTable := #[], attributes := #[] }
def k17m0 : Method := { name := "<init>", desc := "()V", sig := { parameters := [], returnType := none }, accessFlags := 0, code := some k17c0 }
/-- java/util/ImmutableCollections$AbstractImmutableCollection -/
def k17 : Class := { plain "java/util/ImmutableCollections$AbstractImmutableCollection" (some 16) with
  accessFlags := 1056
  interfaces := #[]
  cf := some (fileOf pool17 13 #[.nestHost 8] #[{ accessFlags := 0, nameIndex := 5, descriptorIndex := 6, attributes := #[] }] 1056 2 #[] #[])
  fields := #[]
  methods := #[k17m0]
  instanceTypes := #[]
  staticTypes := #[]
  resolved := Array.replicate 56 none
  statics := none }

def pool18 : Array CpInfo := pool [(1, .class_ 2), (0, u "java/util/RandomAccess"), (0, .class_ 4), (0, u "java/lang/Object")] 2

/-- java/util/RandomAccess -/
def k18 : Class := { plain "java/util/RandomAccess" (some 0) with
  accessFlags := 1537
  interfaces := #[]
  cf := some (fileOf pool18 1 #[] #[] 1537 3 #[] #[])
  fields := #[]
  methods := #[]
  instanceTypes := #[]
  staticTypes := #[]
  resolved := Array.replicate 7 none
  statics := none }

def pool19 : Array CpInfo := pool [(1, .methodref 2 3), (0, .class_ 4), (0, .nameAndType 5 6), (0, u "java/util/ImmutableCollections$AbstractImmutableCollection"), (0, u "<init>"), (0, u "()V"), (1, .class_ 10), (1, u "java/util/ImmutableCollections"), (3, .class_ 16), (1, u "java/util/ImmutableCollections$AbstractImmutableList"), (60, .class_ 78), (0, u "java/util/List"), (45, .class_ 125), (0, u "java/util/RandomAccess")] 70

def k19c0 : Code := { maxStack := 1, maxLocals := 1, code := jdk_46_method_1_code, exceptionTable := #[], attributes := #[] }
def k19m0 : Method := { name := "<init>", desc := "()V", sig := { parameters := [], returnType := none }, accessFlags := 0, code := some k19c0 }
/-- java/util/ImmutableCollections$AbstractImmutableList -/
def k19 : Class := { plain "java/util/ImmutableCollections$AbstractImmutableList" (some 17) with
  accessFlags := 1056
  interfaces := #[13, 18]
  cf := some (fileOf pool19 14 #[.nestHost 8] #[{ accessFlags := 0, nameIndex := 5, descriptorIndex := 6, attributes := #[] }] 1056 2 #[77, 124] #[])
  fields := #[]
  methods := #[k19m0]
  instanceTypes := #[]
  staticTypes := #[]
  resolved := Array.replicate 196 none
  statics := none }

def pool20 : Array CpInfo := pool [(1, .methodref 2 3), (0, .class_ 4), (0, .nameAndType 5 6), (0, u "java/util/ImmutableCollections$AbstractImmutableList"), (0, u "<init>"), (0, u "()V"), (0, .fieldref 8 9), (0, .class_ 10), (0, .nameAndType 11 12), (0, u "java/util/ImmutableCollections$ListN"), (0, u "elements"), (0, u "[Ljava/lang/Object;"), (0, .fieldref 8 14), (0, .nameAndType 15 16), (0, u "allowNulls"), (0, u "Z"), (42, .class_ 60), (0, u "java/io/Serializable"), (4, u "([Ljava/lang/Object;Z)V"), (11, u "size"), (0, u "()I"), (0, u "get"), (0, u "(I)Ljava/lang/Object;"), (33, .class_ 115), (0, u "java/util/ImmutableCollections")] 3

def k20c0 : Code := { maxStack := 2, maxLocals := 3, code := jdk_45_method_1_code, exceptionTable := #[], attributes := #[] }
def k20m0 : Method := { name := "<init>", desc := "([Ljava/lang/Object;Z)V", sig := { parameters := [(.array (.object "java/lang/Object")), .boolean], returnType := none }, accessFlags := 2, code := some k20c0 }
def k20c1 : Code := { maxStack := 1, maxLocals := 1, code := jdk_45_method_3_code, exceptionTable := #[], attributes := #[] }
def k20m1 : Method := { name := "size", desc := "()I", sig := { parameters := [], returnType := some .int }, accessFlags := 1, code := some k20c1 }
def k20c2 : Code := { maxStack := 2, maxLocals := 2, code := jdk_45_method_4_code, exceptionTable := #[], attributes := #[] }
def k20m2 : Method := { name := "get", desc := "(I)Ljava/lang/Object;", sig := { parameters := [.int], returnType := some (.object "java/lang/Object") }, accessFlags := 1, code := some k20c2 }
/-- java/util/ImmutableCollections$ListN -/
def k20 : Class := { plain "java/util/ImmutableCollections$ListN" (some 19) with
  accessFlags := 48
  interfaces := #[4]
  cf := some (fileOf pool20 8 #[.nestHost 114] #[{ accessFlags := 2, nameIndex := 5, descriptorIndex := 65, attributes := #[] }, { accessFlags := 1, nameIndex := 77, descriptorIndex := 78, attributes := #[] }, { accessFlags := 1, nameIndex := 79, descriptorIndex := 80, attributes := #[] }] 48 2 #[59] #[{ accessFlags := 18, nameIndex := 11, descriptorIndex := 12, attributes := #[] }, { accessFlags := 18, nameIndex := 15, descriptorIndex := 16, attributes := #[] }])
  fields := #[{ name := "elements", type := (.array (.object "java/lang/Object")), accessFlags := 18, slot := 0, constantValue := 0 }, { name := "allowNulls", type := .boolean, accessFlags := 18, slot := 1, constantValue := 0 }]
  methods := #[k20m0, k20m1, k20m2]
  instanceTypes := #[(.array (.object "java/lang/Object")), .boolean]
  staticTypes := #[]
  resolved := Array.replicate 119 none
  statics := none }

def pool21 : Array CpInfo := pool [(4, .class_ 6), (1, u "java/lang/Object"), (0, u "<init>"), (0, u "()V"), (5, .class_ 16), (1, u "java/lang/StringLatin1"), (104, u "$assertionsDisabled"), (0, u "Z"), (98, .class_ 223), (1, u "java/lang/StringLatin1$LinesSpliterator"), (57, u "equals"), (0, u "([B[B)Z"), (107, .class_ 391), (0, u "java/lang/StringLatin1$CharsSpliterator")] 3

def k21m0 : Method := { name := "<init>", desc := "()V", sig := { parameters := [], returnType := none }, accessFlags := 0, code := none }
def k21c1 : Code := { maxStack := 3, maxLocals := 3, code := jdk_43_method_13_code, exceptionTable := #[], attributes := #[] }
def k21m1 : Method := { name := "equals", desc := "([B[B)Z", sig := { parameters := [(.array .byte), (.array .byte)], returnType := some .boolean }, accessFlags := 9, code := some k21c1 }
/-- java/lang/StringLatin1 -/
def k21 : Class := { plain "java/lang/StringLatin1" (some 0) with
  accessFlags := 48
  interfaces := #[]
  cf := some (fileOf pool21 14 #[.nestMembers #[390, 221]] #[{ accessFlags := 0, nameIndex := 7, descriptorIndex := 8, attributes := #[] }, { accessFlags := 9, nameIndex := 281, descriptorIndex := 282, attributes := #[] }] 48 4 #[] #[{ accessFlags := 4120, nameIndex := 121, descriptorIndex := 122, attributes := #[] }])
  fields := #[{ name := "$assertionsDisabled", type := .boolean, accessFlags := 4120, slot := 0, constantValue := 0 }]
  methods := #[k21m0, k21m1]
  instanceTypes := #[]
  staticTypes := #[.boolean]
  resolved := Array.replicate 395 none
  statics := none }

def pool22 : Array CpInfo := pool [(2, .class_ 4), (1, u "java/lang/Object"), (0, u "<init>"), (0, u "()V"), (17, .class_ 26), (1, u "jdk/internal/util/Preconditions"), (28, .class_ 56), (0, u "jdk/internal/util/Preconditions$4"), (57, .class_ 115), (0, u "jdk/internal/util/Preconditions$1"), (7, u "SIOOBE_FORMATTER"), (0, u "Ljava/util/function/BiFunction;"), (0, .class_ 126), (0, u "jdk/internal/util/Preconditions$2"), (3, u "AIOOBE_FORMATTER"), (0, .class_ 132), (0, u "jdk/internal/util/Preconditions$3"), (3, u "IOOBE_FORMATTER")] 57

def k22m0 : Method := { name := "<init>", desc := "()V", sig := { parameters := [], returnType := none }, accessFlags := 1, code := none }
/-- jdk/internal/util/Preconditions -/
def k22 : Class := { plain "jdk/internal/util/Preconditions" (some 0) with
  accessFlags := 33
  interfaces := #[]
  cf := some (fileOf pool22 24 #[.nestMembers #[55, 131, 125, 114]] #[{ accessFlags := 1, nameIndex := 5, descriptorIndex := 6, attributes := #[] }] 33 2 #[] #[{ accessFlags := 25, nameIndex := 123, descriptorIndex := 124, attributes := #[] }, { accessFlags := 25, nameIndex := 130, descriptorIndex := 124, attributes := #[] }, { accessFlags := 25, nameIndex := 136, descriptorIndex := 124, attributes := #[] }])
  fields := #[{ name := "SIOOBE_FORMATTER", type := (.object "java/util/function/BiFunction"), accessFlags := 25, slot := 0, constantValue := 0 }, { name := "AIOOBE_FORMATTER", type := (.object "java/util/function/BiFunction"), accessFlags := 25, slot := 1, constantValue := 0 }, { name := "IOOBE_FORMATTER", type := (.object "java/util/function/BiFunction"), accessFlags := 25, slot := 2, constantValue := 0 }]
  methods := #[k22m0]
  instanceTypes := #[]
  staticTypes := #[(.object "java/util/function/BiFunction"), (.object "java/util/function/BiFunction"), (.object "java/util/function/BiFunction")]
  resolved := Array.replicate 194 none
  statics := some 3 }

def pool23 : Array CpInfo := pool [(9, u "<init>"), (6, .class_ 18), (1, u "java/lang/Object"), (0, u "()V"), (1, .class_ 23), (1, u "jdk/internal/util/ArraysSupport"), (0, u "LOG2_ARRAY_LONG_INDEX_SCALE"), (0, u "I"), (2, u "U"), (0, u "Ljdk/internal/misc/Unsafe;"), (8, u "BIG_ENDIAN"), (0, u "Z"), (8, u "LOG2_BYTE_BIT_SIZE"), (4, u "LOG2_ARRAY_INT_INDEX_SCALE"), (54, u "JLA"), (0, u "Ljdk/internal/access/JavaLangAccess;"), (11, u "LOG2_ARRAY_BOOLEAN_INDEX_SCALE"), (9, u "LOG2_ARRAY_BYTE_INDEX_SCALE"), (5, u "LOG2_ARRAY_CHAR_INDEX_SCALE"), (5, u "LOG2_ARRAY_SHORT_INDEX_SCALE"), (18, u "LOG2_ARRAY_FLOAT_INDEX_SCALE"), (24, u "LOG2_ARRAY_DOUBLE_INDEX_SCALE"), (89, u "T_BOOLEAN"), (2, u "T_CHAR"), (1, u "T_FLOAT"), (1, u "T_DOUBLE"), (1, u "T_BYTE"), (1, u "T_SHORT"), (1, u "T_INT"), (1, u "T_LONG"), (1, u "SOFT_MAX_ARRAY_LENGTH")] 83

def k23m0 : Method := { name := "<init>", desc := "()V", sig := { parameters := [], returnType := none }, accessFlags := 2, code := none }
/-- jdk/internal/util/ArraysSupport -/
def k23 : Class := { plain "jdk/internal/util/ArraysSupport" (some 0) with
  accessFlags := 33
  interfaces := #[]
  cf := some (fileOf pool23 21 #[] #[{ accessFlags := 2, nameIndex := 9, descriptorIndex := 19, attributes := #[] }] 33 16 #[] #[{ accessFlags := 24, nameIndex := 28, descriptorIndex := 29, attributes := #[] }, { accessFlags := 26, nameIndex := 38, descriptorIndex := 39, attributes := #[] }, { accessFlags := 25, nameIndex := 121, descriptorIndex := 25, attributes := #[] }, { accessFlags := 25, nameIndex := 131, descriptorIndex := 25, attributes := #[] }, { accessFlags := 25, nameIndex := 137, descriptorIndex := 25, attributes := #[] }, { accessFlags := 25, nameIndex := 143, descriptorIndex := 25, attributes := #[] }, { accessFlags := 25, nameIndex := 53, descriptorIndex := 25, attributes := #[] }, { accessFlags := 25, nameIndex := 24, descriptorIndex := 25, attributes := #[] }, { accessFlags := 25, nameIndex := 162, descriptorIndex := 25, attributes := #[] }, { accessFlags := 25, nameIndex := 187, descriptorIndex := 25, attributes := #[] }, { accessFlags := 26, nameIndex := 48, descriptorIndex := 25, attributes := #[] }, { accessFlags := 25, nameIndex := 277, descriptorIndex := 25, attributes := #[] }, { accessFlags := 25, nameIndex := 280, descriptorIndex := 25, attributes := #[] }, { accessFlags := 25, nameIndex := 282, descriptorIndex := 25, attributes := #[] }, { accessFlags := 25, nameIndex := 284, descriptorIndex := 25, attributes := #[] }, { accessFlags := 25, nameIndex := 286, descriptorIndex := 25, attributes := #[] }, { accessFlags := 25, nameIndex := 288, descriptorIndex := 25, attributes := #[] }, { accessFlags := 25, nameIndex := 290, descriptorIndex := 25, attributes := #[] }, { accessFlags := 25, nameIndex := 292, descriptorIndex := 25, attributes := #[] }, { accessFlags := 26, nameIndex := 108, descriptorIndex := 109, attributes := #[] }, { accessFlags := 25, nameIndex := 294, descriptorIndex := 25, attributes := #[] }])
  fields := #[{ name := "U", type := (.object "jdk/internal/misc/Unsafe"), accessFlags := 24, slot := 0, constantValue := 0 }, { name := "BIG_ENDIAN", type := .boolean, accessFlags := 26, slot := 1, constantValue := 0 }, { name := "LOG2_ARRAY_BOOLEAN_INDEX_SCALE", type := .int, accessFlags := 25, slot := 2, constantValue := 0 }, { name := "LOG2_ARRAY_BYTE_INDEX_SCALE", type := .int, accessFlags := 25, slot := 3, constantValue := 0 }, { name := "LOG2_ARRAY_CHAR_INDEX_SCALE", type := .int, accessFlags := 25, slot := 4, constantValue := 0 }, { name := "LOG2_ARRAY_SHORT_INDEX_SCALE", type := .int, accessFlags := 25, slot := 5, constantValue := 0 }, { name := "LOG2_ARRAY_INT_INDEX_SCALE", type := .int, accessFlags := 25, slot := 6, constantValue := 0 }, { name := "LOG2_ARRAY_LONG_INDEX_SCALE", type := .int, accessFlags := 25, slot := 7, constantValue := 0 }, { name := "LOG2_ARRAY_FLOAT_INDEX_SCALE", type := .int, accessFlags := 25, slot := 8, constantValue := 0 }, { name := "LOG2_ARRAY_DOUBLE_INDEX_SCALE", type := .int, accessFlags := 25, slot := 9, constantValue := 0 }, { name := "LOG2_BYTE_BIT_SIZE", type := .int, accessFlags := 26, slot := 10, constantValue := 0 }, { name := "T_BOOLEAN", type := .int, accessFlags := 25, slot := 11, constantValue := 0 }, { name := "T_CHAR", type := .int, accessFlags := 25, slot := 12, constantValue := 0 }, { name := "T_FLOAT", type := .int, accessFlags := 25, slot := 13, constantValue := 0 }, { name := "T_DOUBLE", type := .int, accessFlags := 25, slot := 14, constantValue := 0 }, { name := "T_BYTE", type := .int, accessFlags := 25, slot := 15, constantValue := 0 }, { name := "T_SHORT", type := .int, accessFlags := 25, slot := 16, constantValue := 0 }, { name := "T_INT", type := .int, accessFlags := 25, slot := 17, constantValue := 0 }, { name := "T_LONG", type := .int, accessFlags := 25, slot := 18, constantValue := 0 }, { name := "JLA", type := (.object "jdk/internal/access/JavaLangAccess"), accessFlags := 26, slot := 19, constantValue := 0 }, { name := "SOFT_MAX_ARRAY_LENGTH", type := .int, accessFlags := 25, slot := 20, constantValue := 0 }]
  methods := #[k23m0]
  instanceTypes := #[]
  staticTypes := #[(.object "jdk/internal/misc/Unsafe"), .boolean, .int, .int, .int, .int, .int, .int, .int, .int, .int, .int, .int, .int, .int, .int, .int, .int, .int, (.object "jdk/internal/access/JavaLangAccess"), .int]
  resolved := Array.replicate 378 none
  statics := none }

def pool24 : Array CpInfo := pool [(1, u "java/lang/Cloneable"), (0, .class_ 1), (0, u "java/lang/Object"), (0, .class_ 3)] 3

/-- java/lang/Cloneable -/
def k24 : Class := { plain "java/lang/Cloneable" (some 0) with
  accessFlags := 1537
  interfaces := #[]
  cf := some (fileOf pool24 2 #[] #[] 1537 4 #[] #[])
  fields := #[]
  methods := #[]
  instanceTypes := #[]
  staticTypes := #[]
  resolved := Array.replicate 8 none
  statics := none }

/-- the primitive byte -/
def k25 : Class := { plain "byte" none with kind := .primitive 'B', accessFlags := 0x411 }
/-- [B -/
def k26 : Class := { plain "[B" (some 0) with kind := .array 25 .byte, interfaces := #[24, 4], accessFlags := 1041 }

/-- the primitive int -/
def k27 : Class := { plain "int" none with kind := .primitive 'I', accessFlags := 0x411 }
/-- [I -/
def k28 : Class := { plain "[I" (some 0) with kind := .array 27 .int, interfaces := #[24, 4], accessFlags := 1041 }

/-- [Ljava/lang/Object; -/
def k29 : Class := { plain "[Ljava/lang/Object;" (some 0) with kind := .array 0 (.object "java/lang/Object"), interfaces := #[24, 4], accessFlags := 1041 }

def heap : Heap := #[{ cls := 6, slots := #[.ref 8, .ref 9, .null], vm := .statics 6 },
  { cls := 9, slots := #[.long 0, .int 1, .null, .int 0, .null, .int 0, .int 0], vm := .statics 9 },
  { cls := 14, slots := #[.long 0, .int 0, .null, .ref 10, .ref 11, .null, .null, .null, .int 0, .int 1], vm := .statics 14 },
  { cls := 22, slots := #[.null, .null, .null], vm := .statics 22 },
  { cls := 26, slots := #[.int 115, .int 117, .int 98, .int 106, .int 101, .int 99, .int 116], vm := .none },
  { cls := 26, slots := #[.int 114, .int 111, .int 108, .int 101], vm := .none },
  { cls := 9, slots := #[.ref 4, .int 0, .int 0, .int 0], vm := .none },
  { cls := 9, slots := #[.ref 5, .int 0, .int 0, .int 0], vm := .none },
  { cls := 6, slots := #[.ref 6, .int 0, .int 0, .ref 6], vm := .none },
  { cls := 6, slots := #[.ref 7, .int 1, .int 0, .ref 7], vm := .none },
  { cls := 0, slots := #[], vm := .none },
  { cls := 20, slots := #[.null, .int 0], vm := .none }]
def classes : Array Class := #[k0, k1, k2, k3, k4, k5, k6, k7, k8, k9, k10, k11, k12, k13, k14, k15, k16, k17, k18, k19, k20, k21, k22, k23, k24, k25, k26, k27, k28, k29]
def interned : List (Array UInt16 × Addr) := []
def slotsUsed : Nat := 52
def theMethod : MethodId := ⟨1, 1⟩
def args0 : Array Value := #[.int 1, .int 1]
def aboutOver (below : List Frame) : State where
  vm := { classes := classes, interned := interned.toArray }
  heap := heap
  slotsUsed := slotsUsed
  threads := #[{ frames := .invoking theMethod args0 :: below }]
def below0 : List Frame := [.native { method := ⟨0, 0⟩, args := #[] }]
def about1 : State := aboutOver below0
def p0 : Program := .bare "" "" ""
def e0 : Env := launch0.env 0 0 0
theorem w_frames : about1.frames = Frame.invoking theMethod args0 :: below0 := rfl
set_option maxRecDepth 65536 in
theorem w_args : argsFit about1.vm theMethod args0 = true := by decide +kernel
set_option maxRecDepth 65536 in
theorem w_heap : heapFits about1 = true := by decide +kernel
set_option maxRecDepth 65536 in
theorem w_runnable : about1.curStatus? = some .runnable := by decide +kernel
set_option maxRecDepth 65536 in
theorem w_alone : about1.alone = true := by decide +kernel
set_option maxRecDepth 65536 in
theorem w_named : about1.methodNamed? x = some theMethod := by decide +kernel
set_option maxRecDepth 65536 in
theorem w_hears : about1.hears theMethod below0 = true := by decide +kernel
set_option maxRecDepth 65536 in
theorem w_ripe : about1.ripe theMethod args0 below0 = true := by decide +kernel
theorem w_running : about1.status = .running := rfl
set_option maxRecDepth 65536 in
theorem w_room : about1.hasRoom e0.platform room_1 = true :=
  launch0.hasRoom_least _ room_1 (by decide +kernel) (by decide +kernel) (by decide +kernel) (by decide +kernel) (by decide +kernel) (by decide +kernel)
theorem allAtoms_all (ts : List Jvm.Cond) (a : Array Jvm.Value) (st : Jvm.State) : (allAtoms ts).before a st = ts.all (fun c => c.before a st) := by
  induction ts with
  | nil => rfl
  | cons c t ih =>
    show (Jvm.Cond.and c (allAtoms t)).before a st = _
    rw [Jvm.Cond.before_and, ih, List.all_cons]
def words1 : List Jvm.Cond := Jvm.Cond.code x code maxLocals ret :: tables_1
/-- a 'code' word, met by the world's own term for the bytes: nothing is compared byte by byte -/
theorem code_word {y : MethodName} {bytes : ByteArray} {mx : Nat} {rt : Option FieldType} {a : Array Value} {s : State} {m : MethodId} {meth : Method} {c : Code} (h1 : s.methodNamed? y = some m) (h2 : s.vm.method? m = some meth) (h3 : meth.code = some c) (h4 : c.code = bytes)
    (h5 : (c.maxLocals == mx && c.exceptionTable.isEmpty && decide (c.maxStack ≤ mostOperands) && decide (meth.sig.returnType = rt) && !meth.locks && decide (parseMethodDescriptor y.desc = some meth.sig)) = true) : (Jvm.Cond.code y bytes mx rt).before a s = true := by
  simp only [Bool.and_eq_true, beq_iff_eq, Bool.not_eq_true', decide_eq_true_eq] at h5
  obtain ⟨⟨⟨⟨⟨g1, g2⟩, g3⟩, g4⟩, g5⟩, g6⟩ := h5
  simp [Cond.before, Cond.holds, Cond.value, h1, h2, h3, h4, g1, g2, g3, g4, g5, g6]
def isCode : Jvm.Cond → Bool
  | .code _ _ _ _ => true
  | _ => false
theorem all_split {L : List Jvm.Cond} {P : Jvm.Cond → Bool} (h1 : L.all (fun c => isCode c || P c) = true) (h2 : ∀ c ∈ L.filter isCode, P c = true) : L.all P = true := by
  refine List.all_eq_true.mpr fun c hc => ?_
  have h := List.all_eq_true.mp h1 c hc
  rcases Bool.eq_false_or_eq_true (isCode c) with hi | hi
  · exact h2 c (List.mem_filter.mpr ⟨hc, hi⟩)
  · simpa [hi] using h
set_option maxRecDepth 65536 in
theorem w_c0 : (Jvm.Cond.code x code maxLocals ret).before args0 about1 = true := code_word (m := ⟨1, 1⟩) (meth := k1m1) (c := k1c1) (by decide +kernel) rfl rfl rfl (by decide +kernel)
set_option maxRecDepth 65536 in
theorem w_c1 : (Jvm.Cond.code ({ cls := "com/example/leaklint/leaklint/GrantListHeader", name := "fields", desc := "(Z)Ljava/util/List;" } : Jvm.MethodName) prog_13_method_5_code (2 : Nat) (Option.some (Jvm.ClassFile.FieldType.object "java/util/List"))).before args0 about1 = true := code_word (m := ⟨6, 0⟩) (meth := k6m0) (c := k6c0) (by decide +kernel) rfl rfl rfl (by decide +kernel)
set_option maxRecDepth 65536 in
theorem w_c2 : (Jvm.Cond.code ({ cls := "java/util/List", name := "of", desc := "(Ljava/lang/Object;Ljava/lang/Object;Ljava/lang/Object;Ljava/lang/Object;)Ljava/util/List;" } : Jvm.MethodName) jdk_40_method_40_code (4 : Nat) (Option.some (Jvm.ClassFile.FieldType.object "java/util/List"))).before args0 about1 = true := code_word (m := ⟨13, 3⟩) (meth := k13m3) (c := k13c3) (by decide +kernel) rfl rfl rfl (by decide +kernel)
set_option maxRecDepth 65536 in
theorem w_c3 : (Jvm.Cond.code ({ cls := "java/util/ImmutableCollections", name := "listFromTrustedArray", desc := "([Ljava/lang/Object;)Ljava/util/List;" } : Jvm.MethodName) jdk_56_method_5_code (5 : Nat) (Option.some (Jvm.ClassFile.FieldType.object "java/util/List"))).before args0 about1 = true := code_word (m := ⟨14, 1⟩) (meth := k14m1) (c := k14c1) (by decide +kernel) rfl rfl rfl (by decide +kernel)
set_option maxRecDepth 65536 in
theorem w_c4 : (Jvm.Cond.code ({ cls := "java/util/Objects", name := "requireNonNull", desc := "(Ljava/lang/Object;)Ljava/lang/Object;" } : Jvm.MethodName) jdk_31_method_10_code (1 : Nat) (Option.some (Jvm.ClassFile.FieldType.object "java/lang/Object"))).before args0 about1 = true := code_word (m := ⟨15, 1⟩) (meth := k15m1) (c := k15c1) (by decide +kernel) rfl rfl rfl (by decide +kernel)
set_option maxRecDepth 65536 in
theorem w_c5 : (Jvm.Cond.code ({ cls := "java/util/ImmutableCollections$ListN", name := "<init>", desc := "([Ljava/lang/Object;Z)V" } : Jvm.MethodName) jdk_45_method_1_code (3 : Nat) (Option.none : Option Jvm.ClassFile.FieldType)).before args0 about1 = true := code_word (m := ⟨20, 0⟩) (meth := k20m0) (c := k20c0) (by decide +kernel) rfl rfl rfl (by decide +kernel)
set_option maxRecDepth 65536 in
theorem w_c6 : (Jvm.Cond.code ({ cls := "java/util/ImmutableCollections$AbstractImmutableList", name := "<init>", desc := "()V" } : Jvm.MethodName) jdk_46_method_1_code (1 : Nat) (Option.none : Option Jvm.ClassFile.FieldType)).before args0 about1 = true := code_word (m := ⟨19, 0⟩) (meth := k19m0) (c := k19c0) (by decide +kernel) rfl rfl rfl (by decide +kernel)
set_option maxRecDepth 65536 in
theorem w_c7 : (Jvm.Cond.code ({ cls := "java/util/ImmutableCollections$AbstractImmutableCollection", name := "<init>", desc := "()V" } : Jvm.MethodName) jdk_47_method_1_code (1 : Nat) (Option.none : Option Jvm.ClassFile.FieldType)).before args0 about1 = true := code_word (m := ⟨17, 0⟩) (meth := k17m0) (c := k17c0) (by decide +kernel) rfl rfl rfl (by decide +kernel)
set_option maxRecDepth 65536 in
theorem w_c8 : (Jvm.Cond.code ({ cls := "java/util/AbstractCollection", name := "<init>", desc := "()V" } : Jvm.MethodName) jdk_22_method_1_code (1 : Nat) (Option.none : Option Jvm.ClassFile.FieldType)).before args0 about1 = true := code_word (m := ⟨16, 0⟩) (meth := k16m0) (c := k16c0) (by decide +kernel) rfl rfl rfl (by decide +kernel)
set_option maxRecDepth 65536 in
theorem w_c9 : (Jvm.Cond.code ({ cls := "java/lang/Object", name := "<init>", desc := "()V" } : Jvm.MethodName) object_method_1_code (1 : Nat) (Option.none : Option Jvm.ClassFile.FieldType)).before args0 about1 = true := code_word (m := ⟨0, 0⟩) (meth := k0m0) (c := k0c0) (by decide +kernel) rfl rfl rfl (by decide +kernel)
set_option maxRecDepth 65536 in
theorem w_c10 : (Jvm.Cond.code ({ cls := "java/util/ImmutableCollections$ListN", name := "size", desc := "()I" } : Jvm.MethodName) jdk_45_method_3_code (1 : Nat) (Option.some Jvm.ClassFile.FieldType.int)).before args0 about1 = true := code_word (m := ⟨20, 1⟩) (meth := k20m1) (c := k20c1) (by decide +kernel) rfl rfl rfl (by decide +kernel)
set_option maxRecDepth 65536 in
theorem w_c11 : (Jvm.Cond.code ({ cls := "java/util/ImmutableCollections$ListN", name := "get", desc := "(I)Ljava/lang/Object;" } : Jvm.MethodName) jdk_45_method_4_code (2 : Nat) (Option.some (Jvm.ClassFile.FieldType.object "java/lang/Object"))).before args0 about1 = true := code_word (m := ⟨20, 2⟩) (meth := k20m2) (c := k20c2) (by decide +kernel) rfl rfl rfl (by decide +kernel)
set_option maxRecDepth 65536 in
theorem w_c12 : (Jvm.Cond.code ({ cls := "java/lang/String", name := "equals", desc := "(Ljava/lang/Object;)Z" } : Jvm.MethodName) jdk_42_method_66_code (3 : Nat) (Option.some Jvm.ClassFile.FieldType.boolean)).before args0 about1 = true := code_word (m := ⟨9, 1⟩) (meth := k9m1) (c := k9c1) (by decide +kernel) rfl rfl rfl (by decide +kernel)
set_option maxRecDepth 65536 in
theorem w_c13 : (Jvm.Cond.code ({ cls := "java/lang/StringLatin1", name := "equals", desc := "([B[B)Z" } : Jvm.MethodName) jdk_43_method_13_code (3 : Nat) (Option.some Jvm.ClassFile.FieldType.boolean)).before args0 about1 = true := code_word (m := ⟨21, 1⟩) (meth := k21m1) (c := k21c1) (by decide +kernel) rfl rfl rfl (by decide +kernel)
set_option maxRecDepth 65536 in
theorem w_c14 : (Jvm.Cond.code ({ cls := "java/util/List", name := "of", desc := "(Ljava/lang/Object;Ljava/lang/Object;Ljava/lang/Object;)Ljava/util/List;" } : Jvm.MethodName) jdk_40_method_39_code (3 : Nat) (Option.some (Jvm.ClassFile.FieldType.object "java/util/List"))).before args0 about1 = true := code_word (m := ⟨13, 2⟩) (meth := k13m2) (c := k13c2) (by decide +kernel) rfl rfl rfl (by decide +kernel)
def codes1 : List Jvm.Cond := [Jvm.Cond.code x code maxLocals ret, Jvm.Cond.code ({ cls := "com/example/leaklint/leaklint/GrantListHeader", name := "fields", desc := "(Z)Ljava/util/List;" } : Jvm.MethodName) prog_13_method_5_code (2 : Nat) (Option.some (Jvm.ClassFile.FieldType.object "java/util/List")), Jvm.Cond.code ({ cls := "java/util/List", name := "of", desc := "(Ljava/lang/Object;Ljava/lang/Object;Ljava/lang/Object;Ljava/lang/Object;)Ljava/util/List;" } : Jvm.MethodName) jdk_40_method_40_code (4 : Nat) (Option.some (Jvm.ClassFile.FieldType.object "java/util/List")), Jvm.Cond.code ({ cls := "java/util/ImmutableCollections", name := "listFromTrustedArray", desc := "([Ljava/lang/Object;)Ljava/util/List;" } : Jvm.MethodName) jdk_56_method_5_code (5 : Nat) (Option.some (Jvm.ClassFile.FieldType.object "java/util/List")), Jvm.Cond.code ({ cls := "java/util/Objects", name := "requireNonNull", desc := "(Ljava/lang/Object;)Ljava/lang/Object;" } : Jvm.MethodName) jdk_31_method_10_code (1 : Nat) (Option.some (Jvm.ClassFile.FieldType.object "java/lang/Object")), Jvm.Cond.code ({ cls := "java/util/ImmutableCollections$ListN", name := "<init>", desc := "([Ljava/lang/Object;Z)V" } : Jvm.MethodName) jdk_45_method_1_code (3 : Nat) (Option.none : Option Jvm.ClassFile.FieldType), Jvm.Cond.code ({ cls := "java/util/ImmutableCollections$AbstractImmutableList", name := "<init>", desc := "()V" } : Jvm.MethodName) jdk_46_method_1_code (1 : Nat) (Option.none : Option Jvm.ClassFile.FieldType), Jvm.Cond.code ({ cls := "java/util/ImmutableCollections$AbstractImmutableCollection", name := "<init>", desc := "()V" } : Jvm.MethodName) jdk_47_method_1_code (1 : Nat) (Option.none : Option Jvm.ClassFile.FieldType), Jvm.Cond.code ({ cls := "java/util/AbstractCollection", name := "<init>", desc := "()V" } : Jvm.MethodName) jdk_22_method_1_code (1 : Nat) (Option.none : Option Jvm.ClassFile.FieldType), Jvm.Cond.code ({ cls := "java/lang/Object", name := "<init>", desc := "()V" } : Jvm.MethodName) object_method_1_code (1 : Nat) (Option.none : Option Jvm.ClassFile.FieldType), Jvm.Cond.code ({ cls := "java/util/ImmutableCollections$ListN", name := "size", desc := "()I" } : Jvm.MethodName) jdk_45_method_3_code (1 : Nat) (Option.some Jvm.ClassFile.FieldType.int), Jvm.Cond.code ({ cls := "java/util/ImmutableCollections$ListN", name := "get", desc := "(I)Ljava/lang/Object;" } : Jvm.MethodName) jdk_45_method_4_code (2 : Nat) (Option.some (Jvm.ClassFile.FieldType.object "java/lang/Object")), Jvm.Cond.code ({ cls := "java/lang/String", name := "equals", desc := "(Ljava/lang/Object;)Z" } : Jvm.MethodName) jdk_42_method_66_code (3 : Nat) (Option.some Jvm.ClassFile.FieldType.boolean), Jvm.Cond.code ({ cls := "java/lang/StringLatin1", name := "equals", desc := "([B[B)Z" } : Jvm.MethodName) jdk_43_method_13_code (3 : Nat) (Option.some Jvm.ClassFile.FieldType.boolean), Jvm.Cond.code ({ cls := "java/util/List", name := "of", desc := "(Ljava/lang/Object;Ljava/lang/Object;Ljava/lang/Object;)Ljava/util/List;" } : Jvm.MethodName) jdk_40_method_39_code (3 : Nat) (Option.some (Jvm.ClassFile.FieldType.object "java/util/List"))]
set_option maxRecDepth 65536 in
theorem codes_eq : words1.filter isCode = codes1 := rfl
theorem w_codes : ∀ c ∈ words1.filter isCode, c.before args0 about1 = true := by
  rw [codes_eq]
  intro c hc
  simp only [codes1, List.mem_cons, List.not_mem_nil, or_false] at hc
  rcases hc with rfl | rfl | rfl | rfl | rfl | rfl | rfl | rfl | rfl | rfl | rfl | rfl | rfl | rfl | rfl
  · exact w_c0
  · exact w_c1
  · exact w_c2
  · exact w_c3
  · exact w_c4
  · exact w_c5
  · exact w_c6
  · exact w_c7
  · exact w_c8
  · exact w_c9
  · exact w_c10
  · exact w_c11
  · exact w_c12
  · exact w_c13
  · exact w_c14
set_option maxRecDepth 65536 in
theorem w_t1 : (words1.take 24).all (fun c => isCode c || c.before args0 about1) = true := by decide +kernel
set_option maxRecDepth 65536 in
theorem w_t2 : ((words1.drop 24).take 24).all (fun c => isCode c || c.before args0 about1) = true := by decide +kernel
set_option maxRecDepth 65536 in
theorem w_t3 : (((words1.drop 24).drop 24).take 24).all (fun c => isCode c || c.before args0 about1) = true := by decide +kernel
set_option maxRecDepth 65536 in
theorem w_t4 : ((((words1.drop 24).drop 24).drop 24).take 24).all (fun c => isCode c || c.before args0 about1) = true := by decide +kernel
set_option maxRecDepth 65536 in
theorem w_t5 : ((((words1.drop 24).drop 24).drop 24).drop 24).all (fun c => isCode c || c.before args0 about1) = true := by decide +kernel
theorem w_tables : (allAtoms (Jvm.Cond.code x code maxLocals ret :: tables_1)).before args0 about1 = true := by
  rw [allAtoms_all]
  show words1.all (fun c => c.before args0 about1) = true
  refine all_split ?_ w_codes
  rw [← List.take_append_drop 24 words1, List.all_append, w_t1, ← List.take_append_drop 24 (words1.drop 24), List.all_append, w_t2, ← List.take_append_drop 24 ((words1.drop 24).drop 24), List.all_append, w_t3, ← List.take_append_drop 24 (((words1.drop 24).drop 24).drop 24), List.all_append, w_t4, w_t5]
  rfl
set_option maxRecDepth 65536 in
theorem w_rest : rest_1_c.before args0 about1 = true := by decide +kernel
set_option maxRecDepth 65536 in
theorem w_case : (Jvm.Cond.and given_1 narrow_1).before args0 about1 = true := by decide +kernel
set_option maxRecDepth 65536 in
theorem w_consts : constsHeld consts_1 about1 := Jvm.Lit.constsHeldB_iff.mp (by decide +kernel)
theorem w_applies : (headSpec (Jvm.Cond.code x code maxLocals ret :: tables_1) room_1).applies x e0.platform about1 = true :=
  (Spec.applies_iff w_frames).mpr ⟨w_running, w_runnable, w_alone, w_named, w_hears, w_ripe, w_room, w_tables⟩
theorem atStart : AtStart classFile x code maxLocals ret World_1 tables_1 room_1 Calls_1 rest_1 Pre_1 launch0 p0 e0 about1 theMethod args0 below0 :=
  ⟨lists_1, trivial, launch0.admits_env _ _ _, launch0.least_env, fairChoices_fair.cas, fairChoices_fair.clock, w_frames, w_args, w_heap, w_applies, ⟨w_consts, trivial⟩, w_rest, w_case⟩
end start1
theorem witness_1 : WitnessClaimed_1 := ⟨start1.p0, start1.e0, start1.about1, start1.theMethod, start1.args0, start1.below0, start1.atStart⟩
end Jvm.Pilot.@@N@@
