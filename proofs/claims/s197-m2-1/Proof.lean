import JvmDerived
import JvmDerived.Pilot.@@N@@Statement
import JvmDerived.Pilot.@@N@@Code
set_option linter.unusedVariables false
set_option linter.unusedSimpArgs false
@@BLOCK:NumsL.lean.txt@@
namespace Jvm.OwnN
theorem own_rem32 (x y : Int32) : (x - x / y * y).toInt = x.toInt.tmod y.toInt := by
  have a := (x % y).toInt_lt; have b := (x % y).le_toInt
  rw [Int32.toInt_mod] at a b
  rw [Int32.toInt_sub, Int32.toInt_mul, Int32.toInt_div, Int.bmod_mul_bmod, Int.sub_bmod_bmod, Int.mul_comm, ← Int.tmod_def]
  exact Jvm.Kit.bmod32 b a
theorem own_rem32n {x y : Int32} (hx : 0 ≤ x.toInt) : (x - x / y * y).toInt = x.toInt % y.toInt := by rw [own_rem32, Int.tmod_eq_emod_of_nonneg hx]
end Jvm.OwnN
namespace Jvm.RoadKit
open Sem ClassFile Op Lib Jvm.Stand Jvm.Free Jvm.LawKit
section New
variable {p : Program} {l : Launch} {e : Env} {R : Room} {s : State} {m : MethodId} {args : Array Value} {below : List Frame} {meth : Method} {c : Code} {T : State} {locs : List Loc} {cells slots : Nat}
theorem retI (X : Stand p l e R s m args below meth c T locs cells slots) (hx : p.tables.exec = Jvm.exec) {pc : Nat} {Ls : Array Slot} {z : Int32} {rest : List Value} (hret : meth.sig.returnType = some .int) (hd : decode c.code pc = .ok (.ireturn, 1)) {fs : List Frame}
    (hl : ∀ (f : JFrame) (acts : List Action), f.method = m → f.locked = none → f.entered = [] → (doReturn e (T.setTop f) acts (some (.int z))).1 = T.setFrames fs) : Steps p.tables e below (T.setTop (mkF m pc Ls (.int z :: rest))) (T.setFrames fs) := by
  have hm' : T.vm.method? m = some meth := X.method'
  have hn : narrow .int (.int z) = .int z := rfl
  show Steps p.tables e below (T.setTop { method := m, pc := pc, locals := Ls, stack := _ :: rest, locked := none }) _
  jvm_step X.here [X.here.top, hx, hd, hm', hret, hn]
  first | (intro acts; rw [hl _ acts rfl rfl rfl]) | rw [hl _ _ rfl rfl rfl]
  exact Steps.refl _
/-- the run goes on from S to an end of which P holds -/
def Goes (p : Program) (e : Env) (below : List Frame) (S : State) (P : Outcome → State → Prop) : Prop := ∃ s₂ o, Steps p.tables e below S s₂ ∧ s₂.status = .running ∧ Ended s₂ below o ∧ P o s₂
/-- what every contract here says of the end -/
def Fin (s : State) (Q : Option Value → Heap → List Loc → Prop) (C N : Nat) (o : Outcome) (U : State) : Prop := ∃ v L, o = .returned v ∧ Q v U.heap L ∧ FrameEnd s o U L C N
theorem Goes.of {S S' : State} {P : Outcome → State → Prop} (h : ∀ t, Steps p.tables e below S' t → Steps p.tables e below S t) (g : Goes p e below S' P) : Goes p e below S P := by
  obtain ⟨s₂, o, h1, h2⟩ := g
  exact ⟨s₂, o, h _ h1, h2⟩
theorem Goes.out (X : Stand p l e R s m args below meth c T locs cells slots) {v : Option Value} (hv : meth.sig.returnType = none → v = none) (hlocks : meth.locks = false) {g : JFrame} {Q : Option Value → Heap → List Loc → Prop} {C N : Nat}
    (hst : ∀ fs, (∀ (f : JFrame) (acts : List Action), f.method = m → f.locked = none → f.entered = [] → (doReturn e (T.setTop f) acts v).1 = T.setFrames fs) → Steps p.tables e below (T.setTop g) (T.setFrames fs))
    (hq : Q v T.heap locs) (h1 : cells ≤ C) (h2 : slots ≤ N) : Goes p e below (T.setTop g) (Fin s Q C N) := by
  obtain ⟨fs, hr, hrun, hended, hW, hsame⟩ := X.leave (v := v) hv hlocks
  exact ⟨_, _, hst fs hr, hrun, hended, v, locs, rfl, hq, ⟨_, rfl⟩, hW, hsame.mono h1 h2⟩
theorem Goes.retI (X : Stand p l e R s m args below meth c T locs cells slots) (hx : p.tables.exec = Jvm.exec) (hret : meth.sig.returnType = some .int) (hlocks : meth.locks = false) {pc : Nat} {Ls : Array Slot} {z : Int32} {rest : List Value} (hd : decode c.code pc = .ok (.ireturn, 1)) {Q : Option Value → Heap → List Loc → Prop} {C N : Nat}
    (hq : Q (some (.int z)) T.heap locs) (h1 : cells ≤ C) (h2 : slots ≤ N) : Goes p e below (T.setTop (mkF m pc Ls (.int z :: rest))) (Fin s Q C N) :=
  Goes.out X (v := some (.int z)) (fun h => by rw [hret] at h; cases h) hlocks (fun fs hr => Jvm.RoadKit.retI X hx hret hd hr) hq h1 h2
theorem Goes.retN (X : Stand p l e R s m args below meth c T locs cells slots) (hx : p.tables.exec = Jvm.exec) {t : FieldType} (hret : meth.sig.returnType = some t) (ht : t = .boolean ∨ t = .byte ∨ t = .char ∨ t = .short) (hlocks : meth.locks = false) {pc : Nat} {Ls : Array Slot} {z : Int32} {rest : List Value} (hd : decode c.code pc = .ok (.ireturn, 1)) {Q : Option Value → Heap → List Loc → Prop} {C N : Nat}
    (hq : Q (some (.int (nar t z))) T.heap locs) (h1 : cells ≤ C) (h2 : slots ≤ N) : Goes p e below (T.setTop (mkF m pc Ls (.int z :: rest))) (Fin s Q C N) :=
  Goes.out X (v := some (.int (nar t z))) (fun h => by rw [hret] at h; cases h) hlocks (fun fs hr => Jvm.RoadKit.retN X hx (t := t) hret ht hd hr) hq h1 h2
theorem Goes.retJ (X : Stand p l e R s m args below meth c T locs cells slots) (hx : p.tables.exec = Jvm.exec) (hret : meth.sig.returnType = some .long) (hlocks : meth.locks = false) {pc : Nat} {Ls : Array Slot} {z : Int64} (hd : decode c.code pc = .ok (.lreturn, 1)) {Q : Option Value → Heap → List Loc → Prop} {C N : Nat}
    (hq : Q (some (.long z)) T.heap locs) (h1 : cells ≤ C) (h2 : slots ≤ N) : Goes p e below (T.setTop (mkF m pc Ls [.long z])) (Fin s Q C N) :=
  Goes.out X (v := some (.long z)) (fun h => by rw [hret] at h; cases h) hlocks (fun fs hr => X.lreturnOut hx hret hd hr) hq h1 h2
theorem Goes.retD (X : Stand p l e R s m args below meth c T locs cells slots) (hx : p.tables.exec = Jvm.exec) (hret : meth.sig.returnType = some .double) (hlocks : meth.locks = false) {pc : Nat} {Ls : Array Slot} {z : UInt64} (hd : decode c.code pc = .ok (.dreturn, 1)) {Q : Option Value → Heap → List Loc → Prop} {C N : Nat}
    (hq : Q (some (.double z)) T.heap locs) (h1 : cells ≤ C) (h2 : slots ≤ N) : Goes p e below (T.setTop (mkF m pc Ls [.double z])) (Fin s Q C N) :=
  Goes.out X (v := some (.double z)) (fun h => by rw [hret] at h; cases h) hlocks (fun fs hr => by
    have hm' : T.vm.method? m = some meth := X.method'
    jvm_step X.here [X.here.top, hx, hd, hm', hret, narrow]
    first | (intro acts; rw [hr _ acts rfl rfl rfl]) | rw [hr _ _ rfl rfl rfl]
    exact Steps.refl _) hq h1 h2
theorem Goes.retA (X : Stand p l e R s m args below meth c T locs cells slots) (hx : p.tables.exec = Jvm.exec) {w : Value} {t : FieldType} (hw : w.isRef = true) (hret : meth.sig.returnType = some t) (ht : t.isReference = true) (hlocks : meth.locks = false) {pc : Nat} {Ls : Array Slot} (hd : decode c.code pc = .ok (.areturn, 1)) {Q : Option Value → Heap → List Loc → Prop} {C N : Nat}
    (hq : Q (some w) T.heap locs) (h1 : cells ≤ C) (h2 : slots ≤ N) : Goes p e below (T.setTop (mkF m pc Ls [w])) (Fin s Q C N) :=
  Goes.out X (v := some w) (fun h => by rw [hret] at h; cases h) hlocks (fun fs hr => X.areturnOut hx hw hret ht hd hr) hq h1 h2
theorem Goes.retV (X : Stand p l e R s m args below meth c T locs cells slots) (hx : p.tables.exec = Jvm.exec) (hret : meth.sig.returnType = none) (hlocks : meth.locks = false) {pc : Nat} {Ls : Array Slot} (hd : decode c.code pc = .ok (.return_, 1)) {Q : Option Value → Heap → List Loc → Prop} {C N : Nat}
    (hq : Q none T.heap locs) (h1 : cells ≤ C) (h2 : slots ≤ N) : Goes p e below (T.setTop (mkF m pc Ls [])) (Fin s Q C N) :=
  Goes.out X (v := none) (fun _ => rfl) hlocks (fun fs hr => X.returnOut hx hret hd hr) hq h1 h2
end New
theorem selPriv {s : State} {args : Array Value} {y : MethodName} {n : Nat} (hpriv : s.PrivateAt y) (hinst : (Cond.instanceMethod y).before args s = true) (hi : (Cond.instantiable y.cls n).before args s = true) (hy : y.cls ≠ "java/lang/invoke/MethodHandle" ∧ y.cls ≠ "java/lang/invoke/VarHandle") : (Cond.selects y.cls y y).before args s = true := by
  obtain ⟨c, k, h1, h2, -, h3, -⟩ := Cond.instantiable_spec hi
  exact Jvm.Stand.selects_self_of_private h1 h2 (by cases hk : k.isInterface <;> simp_all) hpriv hinst hy
end Jvm.RoadKit
namespace Jvm.Pilot.@@N@@
open Jvm Jvm.ClassFile Sem Op Lib Jvm.Free Jvm.Stand Jvm.LawKit Jvm.RoadKit Bundle Jvm.OwnN Jvm.Pilot.@@N@@.Jvm.D
theorem d2_0 : decode prog_38_method_2_code 0 = .ok (.aload_n 0, 1) := by decide +kernel
theorem d2_1 : decode prog_38_method_2_code 1 = .ok (.invokespecial 11, 3) := by decide +kernel
theorem d2_4 : decode prog_38_method_2_code 4 = .ok (.aload_n 0, 1) := by decide +kernel
theorem d2_5 : decode prog_38_method_2_code 5 = .ok (.aload_n 1, 1) := by decide +kernel
theorem d2_6 : decode prog_38_method_2_code 6 = .ok (.putfield 16, 3) := by decide +kernel
theorem d2_9 : decode prog_38_method_2_code 9 = .ok (.aload_n 0, 1) := by decide +kernel
theorem d2_10 : decode prog_38_method_2_code 10 = .ok (.iload_n 2, 1) := by decide +kernel
theorem d2_11 : decode prog_38_method_2_code 11 = .ok (.putfield 19, 3) := by decide +kernel
theorem d2_14 : decode prog_38_method_2_code 14 = .ok (.aload_n 0, 1) := by decide +kernel
theorem d2_15 : decode prog_38_method_2_code 15 = .ok (.iload_n 3, 1) := by decide +kernel
theorem d2_16 : decode prog_38_method_2_code 16 = .ok (.putfield 23, 3) := by decide +kernel
theorem d2_19 : decode prog_38_method_2_code 19 = .ok (.return_, 1) := by decide +kernel
theorem pn_0 : plainName "com/example/entries_on_wire/entriesonwire/store/Key" = true := by first | (simp [plainName, overriddenIn]; done) | decide +kernel
theorem d1_0 : decode prog_38_method_1_code 0 = .ok (.aload_n 0, 1) := by decide +kernel
theorem d1_1 : decode prog_38_method_1_code 1 = .ok (.getstatic 1, 3) := by decide +kernel
theorem d1_4 : decode prog_38_method_1_code 4 = .ok (.iconst 0, 1) := by decide +kernel
theorem d1_5 : decode prog_38_method_1_code 5 = .ok (.iconst 0, 1) := by decide +kernel
theorem d1_6 : decode prog_38_method_1_code 6 = .ok (.invokespecial 7, 3) := by decide +kernel
theorem d1_9 : decode prog_38_method_1_code 9 = .ok (.return_, 1) := by decide +kernel
theorem pd_1 : parseMethodDescriptor "([BII)V" = some ⟨[(.array .byte), .int, .int], none⟩ := by decide +kernel
theorem d4_0 : decode prog_38_method_3_code 0 = .ok (.aload_n 0, 1) := by decide +kernel
theorem d4_1 : decode prog_38_method_3_code 1 = .ok (.aload_n 1, 1) := by decide +kernel
theorem d4_2 : decode prog_38_method_3_code 2 = .ok (.putfield 16, 3) := by decide +kernel
theorem d4_5 : decode prog_38_method_3_code 5 = .ok (.aload_n 0, 1) := by decide +kernel
theorem d4_6 : decode prog_38_method_3_code 6 = .ok (.iload_n 2, 1) := by decide +kernel
theorem d4_7 : decode prog_38_method_3_code 7 = .ok (.putfield 19, 3) := by decide +kernel
theorem d4_10 : decode prog_38_method_3_code 10 = .ok (.aload_n 0, 1) := by decide +kernel
theorem d4_11 : decode prog_38_method_3_code 11 = .ok (.iload_n 3, 1) := by decide +kernel
theorem d4_12 : decode prog_38_method_3_code 12 = .ok (.putfield 23, 3) := by decide +kernel
theorem d4_15 : decode prog_38_method_3_code 15 = .ok (.aload_n 0, 1) := by decide +kernel
theorem d4_16 : decode prog_38_method_3_code 16 = .ok (.areturn, 1) := by decide +kernel
theorem d5_0 : decode prog_38_method_7_code 0 = .ok (.iconst 1, 1) := by decide +kernel
theorem d5_1 : decode prog_38_method_7_code 1 = .ok (.istore_n 1, 1) := by decide +kernel
theorem d5_2 : decode prog_38_method_7_code 2 = .ok (.aload_n 0, 1) := by decide +kernel
theorem d5_3 : decode prog_38_method_7_code 3 = .ok (.getfield 19, 3) := by decide +kernel
theorem d5_6 : decode prog_38_method_7_code 6 = .ok (.istore_n 2, 1) := by decide +kernel
theorem d5_7 : decode prog_38_method_7_code 7 = .ok (.iload_n 2, 1) := by decide +kernel
theorem d5_8 : decode prog_38_method_7_code 8 = .ok (.aload_n 0, 1) := by decide +kernel
theorem d5_9 : decode prog_38_method_7_code 9 = .ok (.getfield 23, 3) := by decide +kernel
theorem d5_12 : decode prog_38_method_7_code 12 = .ok (.if_icmp .ge 21, 3) := by decide +kernel
theorem d5_15 : decode prog_38_method_7_code 15 = .ok (.bipush 31, 2) := by decide +kernel
theorem d5_17 : decode prog_38_method_7_code 17 = .ok (.iload_n 1, 1) := by decide +kernel
theorem d5_18 : decode prog_38_method_7_code 18 = .ok (.imul, 1) := by decide +kernel
theorem d5_19 : decode prog_38_method_7_code 19 = .ok (.aload_n 0, 1) := by decide +kernel
theorem d5_20 : decode prog_38_method_7_code 20 = .ok (.getfield 16, 3) := by decide +kernel
theorem d5_23 : decode prog_38_method_7_code 23 = .ok (.iload_n 2, 1) := by decide +kernel
theorem d5_24 : decode prog_38_method_7_code 24 = .ok (.baload, 1) := by decide +kernel
theorem d5_25 : decode prog_38_method_7_code 25 = .ok (.iadd, 1) := by decide +kernel
theorem d5_26 : decode prog_38_method_7_code 26 = .ok (.istore_n 1, 1) := by decide +kernel
theorem d5_27 : decode prog_38_method_7_code 27 = .ok (.iinc 2 1, 3) := by decide +kernel
theorem d5_30 : decode prog_38_method_7_code 30 = .ok (.goto (-23), 3) := by decide +kernel
theorem d5_33 : decode prog_38_method_7_code 33 = .ok (.iload_n 1, 1) := by decide +kernel
theorem d5_34 : decode prog_38_method_7_code 34 = .ok (.ireturn, 1) := by decide +kernel
theorem pn_2 : plainName "com/example/entries_on_wire/entriesonwire/store/KeyHashCodePinLaw" = true := by first | (simp [plainName, overriddenIn]; done) | decide +kernel
theorem pd_3 : parseMethodDescriptor "()V" = some ⟨[], none⟩ := by decide +kernel
theorem pd_4 : parseMethodDescriptor "([BII)Lcom/example/entries_on_wire/entriesonwire/store/Key;" = some ⟨[(.array .byte), .int, .int], some (.object "com/example/entries_on_wire/entriesonwire/store/Key")⟩ := by decide +kernel
theorem pd_5 : parseMethodDescriptor "()I" = some ⟨[], some .int⟩ := by decide +kernel
theorem ef_2 (m : MethodId) (x0 : Addr) (x1 : Addr) (x2 : Int32) (x3 : Int32) : entryFrame m #[(.ref x0), (.ref x1), (.int x2), (.int x3)] 4 = mkF m 0 #[.val (.ref x0), .val (.ref x1), .val (.int x2), .val (.int x3)] [] := by first | (simp [entryFrame, mkF, argsToLocals, Value.category]; done) | rfl
def Q2 (Z : State) (a1 : Addr) (a2 : Addr) (p3 : Int32) (p4 : Int32) (h0 : Heap) (n0 : Nat) (v : Option Value) (h : Heap) (L : List Loc) : Prop := v = none ∧ Fr n0 L ∧ Keep h0 h [a1] ∧ Exa Z h a1 "com/example/entries_on_wire/entriesonwire/store/Key" ∧ Fld Z h a1 "com/example/entries_on_wire/entriesonwire/store/Key" "bytes" "[B" (.ref a2) ∧ Fld Z h a1 "com/example/entries_on_wire/entriesonwire/store/Key" "start" "I" (.int p3) ∧ Fld Z h a1 "com/example/entries_on_wire/entriesonwire/store/Key" "end" "I" (.int p4)
set_option maxRecDepth 65536 in
set_option maxHeartbeats 40000000 in
theorem rm2 (l : Launch) (Z : State) (a0 : Array Value) (hw : ∀ d ∈ tables_1, d.before a0 Z = true) (ws : List Jvm.Cond) (a1 : Addr) (a2 : Addr) (p3 : Int32) (p4 : Int32) (h0 : Heap) (n0 : Nat) (Z0 : n0 ≤ h0.size) (E : Exa Z h0 a1 "com/example/entries_on_wire/entriesonwire/store/Key") (g : n0 ≤ a1) (F_bytes : Fld Z h0 a1 "com/example/entries_on_wire/entriesonwire/store/Key" "bytes" "[B" .null) (F_start : Fld Z h0 a1 "com/example/entries_on_wire/entriesonwire/store/Key" "start" "I" (.int (0 : Int32))) (F_end : Fld Z h0 a1 "com/example/entries_on_wire/entriesonwire/store/Key" "end" "I" (.int (0 : Int32))) :
    MetFree l (⟨"com/example/entries_on_wire/entriesonwire/store/Key", "<init>", "([BII)V"⟩ : MethodName) (head1 (Jvm.Cond.code (⟨"com/example/entries_on_wire/entriesonwire/store/Key", "<init>", "([BII)V"⟩ : MethodName) prog_38_method_2_code 4 none :: ws) ({ frames := 1, cells := 0, slots := 0, locals := 12 } : Room)) (fun a U => a = #[(.ref a1), (.ref a2), (.int p3), (.int p4)] ∧ Z.Warmed39 U.vm ∧ U.heap = h0) (fun _ _ _ _ _ => True) (fun _ U o U' => ∃ v L, o = .returned v ∧ Q2 Z a1 a2 p3 p4 h0 n0 v U'.heap L ∧ FrameEnd U o U' L ({ frames := 1, cells := 0, slots := 0, locals := 12 } : Room).cells ({ frames := 1, cells := 0, slots := 0, locals := 12 } : Room).slots) := by
  refine MetFree.of_bodySF (plainFor_of_name pn_0) hisR ?_
  intro p e s m args below meth c s₁ Bd hml0 hP hK
  obtain ⟨rfl, hZ, hh⟩ := hP
  have hx := Bd.exec
  have hby := Bd.bytes
  have hml : c.maxLocals = 4 := hml0
  have hown : s.vm.findClass "com/example/entries_on_wire/entriesonwire/store/Key" = some m.cls := findClass_of_methodNamed Bd.named
  have hnm := (name_of_methodNamed Bd.named Bd.method).1
  have hlocks : meth.locks = false := BodyLoose.notSynchronized Bd
  have X0 : Stand p l e ({ frames := 1, cells := 0, slots := 0, locals := 12 } : Room) s m #[(.ref a1), (.ref a2), (.int p3), (.int p4)] below meth c s₁ [] 0 0 := Stand.of_body Bd
  have e0 : s₁.heap = h0 := by rw [← hh, Bd.state]; rfl
  have N0 := Fr.nil n0
  show Goes p e below (s₁.setTop (entryFrame m #[(.ref a1), (.ref a2), (.int p3), (.int p4)] 4)) (Fin s (Q2 Z a1 a2 p3 p4 h0 n0) ({ frames := 1, cells := 0, slots := 0, locals := 12 } : Room).cells ({ frames := 1, cells := 0, slots := 0, locals := 12 } : Room).slots)
  refine Goes.of (fun t k => castTop (ef_2 m a1 a2 p3 p4) k) ?_
  have K0 : Keep h0 h0 [a1] := Keep.refl _ _
  show Goes p e below (s₁.setTop (mkF m 0 #[.val (.ref a1), .val (.ref a2), .val (.int p3), .val (.int p4)] [])) _
  refine Goes.of (fun t k => XS.aloadN X0.here hx rfl (hb hby d2_0) rfl rfl k) ?_
  show Goes p e below (s₁.setTop (mkF m 1 #[.val (.ref a1), .val (.ref a2), .val (.int p3), .val (.int p4)] [(.ref a1)])) _
  obtain ⟨T1, X1, e1, st1⟩ := initO X0 hx hZ hown (hw _ (List.mem_of_getElem? (i := 12) rfl)) (hw _ (List.mem_of_getElem? (i := 13) rfl)) (hw _ (List.mem_of_getElem? (i := 14) rfl)) e0 (g := (mkF m 1 #[.val (.ref a1), .val (.ref a2), .val (.int p3), .val (.int p4)] [(.ref a1)])) rfl (by rw [hml]; rfl) rfl (hb hby d2_1) (by decide) (W := 0) (by show 2 * 0 + _ ≤ _; exact Nat.le_of_eq rfl) (by decide)
  refine Goes.of st1 ?_
  show Goes p e below (T1.setTop (mkF m 4 #[.val (.ref a1), .val (.ref a2), .val (.int p3), .val (.int p4)] [])) _
  refine Goes.of (fun t k => XS.aloadN X1.here hx rfl (hb hby d2_4) rfl rfl k) ?_
  show Goes p e below (T1.setTop (mkF m 5 #[.val (.ref a1), .val (.ref a2), .val (.int p3), .val (.int p4)] [(.ref a1)])) _
  refine Goes.of (fun t k => XS.aloadN X1.here hx rfl (hb hby d2_5) rfl rfl k) ?_
  show Goes p e below (T1.setTop (mkF m 6 #[.val (.ref a1), .val (.ref a2), .val (.int p3), .val (.int p4)] [(.ref a2), (.ref a1)])) _
  obtain ⟨T2, h2, X2, e2, W2, st2⟩ := putF X1 hx hZ hown (host := "") (Or.inl (hw _ (List.mem_of_getElem? (i := 15) rfl))) Via.refl e1 F_bytes E (Or.inl (hw _ (List.mem_of_getElem? (i := 16) rfl))) (hw _ (List.mem_of_getElem? (i := 2) rfl)) (ty := (.array .byte)) (by decide) rfl rfl (g := (mkF m 6 #[.val (.ref a1), .val (.ref a2), .val (.int p3), .val (.int p4)] [(.ref a2), (.ref a1)])) rfl rfl (hb hby d2_6)
  have f3 := F_bytes.same W2
  have K4 : Keep h0 h2 [a1] := K0.wr W2 (Or.inl (List.mem_of_getElem? (i := 0) rfl))
  have z5 : n0 ≤ h2.size := Nat.le_trans Z0 (Keep.of_wr W2).1
  have f6 := E.wr W2
  have f8 := F_start.other W2 (Or.inr (slot_ne (Or.inl (hw _ (List.mem_of_getElem? (i := 18) rfl))) (Or.inl (hw _ (List.mem_of_getElem? (i := 16) rfl))) (by decide) (t := .int) (t' := (.array .byte)) (by decide) (by decide)))
  have f9 := F_end.other W2 (Or.inr (slot_ne (Or.inl (hw _ (List.mem_of_getElem? (i := 20) rfl))) (Or.inl (hw _ (List.mem_of_getElem? (i := 16) rfl))) (by decide) (t := .int) (t' := (.array .byte)) (by decide) (by decide)))
  have N2 := Fr.snoc X2 N0 g
  refine Goes.of st2 ?_
  show Goes p e below (T2.setTop (mkF m 9 #[.val (.ref a1), .val (.ref a2), .val (.int p3), .val (.int p4)] [])) _
  refine Goes.of (fun t k => XS.aloadN X2.here hx rfl (hb hby d2_9) rfl rfl k) ?_
  show Goes p e below (T2.setTop (mkF m 10 #[.val (.ref a1), .val (.ref a2), .val (.int p3), .val (.int p4)] [(.ref a1)])) _
  refine Goes.of (fun t k => XS.iloadN X2.here hx rfl (hb hby d2_10) rfl k) ?_
  show Goes p e below (T2.setTop (mkF m 11 #[.val (.ref a1), .val (.ref a2), .val (.int p3), .val (.int p4)] [(.int p3), (.ref a1)])) _
  obtain ⟨T10, h10, X10, e10, W10, st10⟩ := putF X2 hx hZ hown (host := "") (Or.inl (hw _ (List.mem_of_getElem? (i := 17) rfl))) Via.refl e2 f8 f6 (Or.inl (hw _ (List.mem_of_getElem? (i := 18) rfl))) (hw _ (List.mem_of_getElem? (i := 2) rfl)) (ty := .int) (by decide) rfl rfl (g := (mkF m 11 #[.val (.ref a1), .val (.ref a2), .val (.int p3), .val (.int p4)] [(.int p3), (.ref a1)])) rfl rfl (hb hby d2_11)
  have f11 := f8.same W10
  have K12 : Keep h0 h10 [a1] := K4.wr W10 (Or.inl (List.mem_of_getElem? (i := 0) rfl))
  have z13 : n0 ≤ h10.size := Nat.le_trans z5 (Keep.of_wr W10).1
  have f14 := f6.wr W10
  have f15 := f3.other W10 (Or.inr (slot_ne (Or.inl (hw _ (List.mem_of_getElem? (i := 16) rfl))) (Or.inl (hw _ (List.mem_of_getElem? (i := 18) rfl))) (by decide) (t := (.array .byte)) (t' := .int) (by decide) (by decide)))
  have f17 := f9.other W10 (Or.inr (slot_ne (Or.inl (hw _ (List.mem_of_getElem? (i := 20) rfl))) (Or.inl (hw _ (List.mem_of_getElem? (i := 18) rfl))) (by decide) (t := .int) (t' := .int) (by decide) (by decide)))
  have N10 := Fr.snoc X10 N2 g
  refine Goes.of st10 ?_
  show Goes p e below (T10.setTop (mkF m 14 #[.val (.ref a1), .val (.ref a2), .val (.int p3), .val (.int p4)] [])) _
  refine Goes.of (fun t k => XS.aloadN X10.here hx rfl (hb hby d2_14) rfl rfl k) ?_
  show Goes p e below (T10.setTop (mkF m 15 #[.val (.ref a1), .val (.ref a2), .val (.int p3), .val (.int p4)] [(.ref a1)])) _
  refine Goes.of (fun t k => XS.iloadN X10.here hx rfl (hb hby d2_15) rfl k) ?_
  show Goes p e below (T10.setTop (mkF m 16 #[.val (.ref a1), .val (.ref a2), .val (.int p3), .val (.int p4)] [(.int p4), (.ref a1)])) _
  obtain ⟨T18, h18, X18, e18, W18, st18⟩ := putF X10 hx hZ hown (host := "") (Or.inl (hw _ (List.mem_of_getElem? (i := 19) rfl))) Via.refl e10 f17 f14 (Or.inl (hw _ (List.mem_of_getElem? (i := 20) rfl))) (hw _ (List.mem_of_getElem? (i := 2) rfl)) (ty := .int) (by decide) rfl rfl (g := (mkF m 16 #[.val (.ref a1), .val (.ref a2), .val (.int p3), .val (.int p4)] [(.int p4), (.ref a1)])) rfl rfl (hb hby d2_16)
  have f19 := f17.same W18
  have K20 : Keep h0 h18 [a1] := K12.wr W18 (Or.inl (List.mem_of_getElem? (i := 0) rfl))
  have z21 : n0 ≤ h18.size := Nat.le_trans z13 (Keep.of_wr W18).1
  have f22 := f14.wr W18
  have f23 := f15.other W18 (Or.inr (slot_ne (Or.inl (hw _ (List.mem_of_getElem? (i := 16) rfl))) (Or.inl (hw _ (List.mem_of_getElem? (i := 20) rfl))) (by decide) (t := (.array .byte)) (t' := .int) (by decide) (by decide)))
  have f24 := f11.other W18 (Or.inr (slot_ne (Or.inl (hw _ (List.mem_of_getElem? (i := 18) rfl))) (Or.inl (hw _ (List.mem_of_getElem? (i := 20) rfl))) (by decide) (t := .int) (t' := .int) (by decide) (by decide)))
  have N18 := Fr.snoc X18 N10 g
  refine Goes.of st18 ?_
  show Goes p e below (T18.setTop (mkF m 19 #[.val (.ref a1), .val (.ref a2), .val (.int p3), .val (.int p4)] [])) _
  have eh : T18.heap = h18 := e18
  exact Goes.retV X18 hx Bd.returns hlocks (hb hby d2_19) (⟨rfl, N18, by rw [eh]; exact K20, by rw [eh]; exact f22, by rw [eh]; exact f23, by rw [eh]; exact f24, by rw [eh]; exact f19⟩) (by decide) (by decide)
theorem ef_1 (m : MethodId) (x0 : Addr) : entryFrame m #[(.ref x0)] 1 = mkF m 0 #[.val (.ref x0)] [] := by first | (simp [entryFrame, mkF, argsToLocals, Value.category]; done) | rfl
def Q1 (Z : State) (a1 : Addr) (aN : Addr) (h0 : Heap) (n0 : Nat) (v : Option Value) (h : Heap) (L : List Loc) : Prop := v = none ∧ Fr n0 L ∧ Keep h0 h [a1] ∧ Exa Z h a1 "com/example/entries_on_wire/entriesonwire/store/Key" ∧ Fld Z h a1 "com/example/entries_on_wire/entriesonwire/store/Key" "bytes" "[B" (.ref aN) ∧ Fld Z h a1 "com/example/entries_on_wire/entriesonwire/store/Key" "start" "I" (.int (0 : Int32)) ∧ Fld Z h a1 "com/example/entries_on_wire/entriesonwire/store/Key" "end" "I" (.int (0 : Int32))
set_option maxRecDepth 65536 in
set_option maxHeartbeats 40000000 in
theorem rm1 (l : Launch) (Z : State) (a0 : Array Value) (hw : ∀ d ∈ tables_1, d.before a0 Z = true) (ws : List Jvm.Cond) (a1 : Addr) (aN : Addr) (h0 : Heap) (n0 : Nat) (Z0 : n0 ≤ h0.size) (O0 : Old Z n0 h0) (SN : Sta Z Z.heap "com/example/entries_on_wire/entriesonwire/store/Key" "NONE" "[B" (.ref aN)) (E : Exa Z h0 a1 "com/example/entries_on_wire/entriesonwire/store/Key") (g : n0 ≤ a1) (F_bytes : Fld Z h0 a1 "com/example/entries_on_wire/entriesonwire/store/Key" "bytes" "[B" .null) (F_start : Fld Z h0 a1 "com/example/entries_on_wire/entriesonwire/store/Key" "start" "I" (.int (0 : Int32))) (F_end : Fld Z h0 a1 "com/example/entries_on_wire/entriesonwire/store/Key" "end" "I" (.int (0 : Int32))) :
    MetFree l (⟨"com/example/entries_on_wire/entriesonwire/store/Key", "<init>", "()V"⟩ : MethodName) (head1 (Jvm.Cond.code (⟨"com/example/entries_on_wire/entriesonwire/store/Key", "<init>", "()V"⟩ : MethodName) prog_38_method_1_code 1 none :: ws) ({ frames := 2, cells := 0, slots := 0, locals := 27 } : Room)) (fun a U => a = #[(.ref a1)] ∧ Z.Warmed39 U.vm ∧ U.heap = h0) (fun _ _ _ _ _ => True) (fun _ U o U' => ∃ v L, o = .returned v ∧ Q1 Z a1 aN h0 n0 v U'.heap L ∧ FrameEnd U o U' L ({ frames := 2, cells := 0, slots := 0, locals := 27 } : Room).cells ({ frames := 2, cells := 0, slots := 0, locals := 27 } : Room).slots) := by
  refine MetFree.of_bodySF (plainFor_of_name pn_0) hisR ?_
  intro p e s m args below meth c s₁ Bd hml0 hP hK
  obtain ⟨rfl, hZ, hh⟩ := hP
  have hx := Bd.exec
  have hby := Bd.bytes
  have hml : c.maxLocals = 1 := hml0
  have hown : s.vm.findClass "com/example/entries_on_wire/entriesonwire/store/Key" = some m.cls := findClass_of_methodNamed Bd.named
  have hnm := (name_of_methodNamed Bd.named Bd.method).1
  have hlocks : meth.locks = false := BodyLoose.notSynchronized Bd
  have X0 : Stand p l e ({ frames := 2, cells := 0, slots := 0, locals := 27 } : Room) s m #[(.ref a1)] below meth c s₁ [] 0 0 := Stand.of_body Bd
  have e0 : s₁.heap = h0 := by rw [← hh, Bd.state]; rfl
  have N0 := Fr.nil n0
  show Goes p e below (s₁.setTop (entryFrame m #[(.ref a1)] 1)) (Fin s (Q1 Z a1 aN h0 n0) ({ frames := 2, cells := 0, slots := 0, locals := 27 } : Room).cells ({ frames := 2, cells := 0, slots := 0, locals := 27 } : Room).slots)
  refine Goes.of (fun t k => castTop (ef_1 m a1) k) ?_
  have K0 : Keep h0 h0 [a1] := Keep.refl _ _
  show Goes p e below (s₁.setTop (mkF m 0 #[.val (.ref a1)] [])) _
  refine Goes.of (fun t k => XS.aloadN X0.here hx rfl (hb hby d1_0) rfl rfl k) ?_
  show Goes p e below (s₁.setTop (mkF m 1 #[.val (.ref a1)] [(.ref a1)])) _
  obtain ⟨T26, X26, e26, st26⟩ := getS2 X0 hx hZ hown (host := "") (Or.inl (hw _ (List.mem_of_getElem? (i := 7) rfl))) Via.refl e0 (SN.ext O0.2) (g := (mkF m 1 #[.val (.ref a1)] [(.ref a1)])) rfl (hb hby d1_1)
  refine Goes.of st26 ?_
  show Goes p e below (T26.setTop (mkF m 4 #[.val (.ref a1)] [(.ref aN), (.ref a1)])) _
  refine Goes.of (fun t k => XS.iconst X26.here hx rfl (hb hby d1_4) k) ?_
  show Goes p e below (T26.setTop (mkF m 5 #[.val (.ref a1)] [(.int (0 : Int32)), (.ref aN), (.ref a1)])) _
  refine Goes.of (fun t k => XS.iconst X26.here hx rfl (hb hby d1_5) k) ?_
  show Goes p e below (T26.setTop (mkF m 6 #[.val (.ref a1)] [(.int (0 : Int32)), (.int (0 : Int32)), (.ref aN), (.ref a1)])) _
  obtain ⟨_, _, ⟨T27, L27, k27, n27⟩, -, X27, ⟨Lc27, hQ27, l27, y27, z27⟩, st27⟩ := X26.specialBack hx (y := (⟨"com/example/entries_on_wire/entriesonwire/store/Key", "<init>", "([BII)V"⟩ : MethodName)) rfl hown (mvT hZ (hw _ (List.mem_of_getElem? (i := 9) rfl))) (mvT hZ (hw _ (List.mem_of_getElem? (i := 10) rfl))) (mvT hZ (hw _ (List.mem_of_getElem? (i := 11) rfl))) (by decide) (backOf (W := 0) (rm2 l Z a0 hw [] a1 aN (0 : Int32) (0 : Int32)  h0 n0 Z0 E g F_bytes F_start F_end) hZ (hw _ (List.mem_of_getElem? (i := 11) rfl)) (hw _ (List.mem_of_getElem? (i := 3) rfl)) (by decide) (by decide)) (g := (mkF m 6 #[.val (.ref a1)] [(.int (0 : Int32)), (.int (0 : Int32)), (.ref aN), (.ref a1)])) rfl (by rw [hml]; rfl) (Steps.refl _) (a := a1) (argsL := [(.ref aN), (.int (0 : Int32)), (.int (0 : Int32))]) (rest := []) (lenOf pd_1 rfl) rfl (by show 2 * 0 + _ ≤ _; exact Nat.le_of_eq rfl) (hb hby d1_6) (fun _ _ => ⟨rfl, e26, (by decide : 0 + 0 ≤ _), (by decide : 0 + 0 ≤ _)⟩)
  dsimp only [Pt.U, Pt.locs, Pt.cells, Pt.slots] at X27 l27 y27 z27 st27 hQ27
  subst l27 y27 z27
  obtain ⟨rfl, N27q, K27, E27, F27_bytes, F27_start, F27_end⟩ := hQ27
  have N27 := Fr.app N0 N27q
  have K28 : Keep h0 T27.heap [a1] := K0.trans K27 (allS (Or.inl (List.mem_of_getElem? (i := 0) rfl)) all0)
  have z29 : n0 ≤ T27.heap.size := Nat.le_trans Z0 K27.1
  have f30 := E.keep K27
  have f34 := O0.keep K27 (allS g all0)
  refine Goes.of (fun t k => st27.trans k) ?_
  show Goes p e below (T27.setTop (mkF m 9 #[.val (.ref a1)] [])) _
  have eh : T27.heap = T27.heap := rfl
  exact Goes.retV X27 hx Bd.returns hlocks (hb hby d1_9) (⟨rfl, N27, by rw [eh]; exact K28, by rw [eh]; exact f30, by rw [eh]; exact F27_bytes, by rw [eh]; exact F27_start, by rw [eh]; exact F27_end⟩) (by decide) (by decide)
theorem ef_4 (m : MethodId) (x0 : Addr) (x1 : Addr) (x2 : Int32) (x3 : Int32) : entryFrame m #[(.ref x0), (.ref x1), (.int x2), (.int x3)] 4 = mkF m 0 #[.val (.ref x0), .val (.ref x1), .val (.int x2), .val (.int x3)] [] := by first | (simp [entryFrame, mkF, argsToLocals, Value.category]; done) | rfl
def Q4 (Z : State) (a1 : Addr) (a2 : Addr) (p3 : Int32) (p4 : Int32) (u : Addr) (u3 : Int32) (u4 : Int32) (h0 : Heap) (n0 : Nat) (v : Option Value) (h : Heap) (L : List Loc) : Prop := v = some (.ref a1) ∧ Fr n0 L ∧ Keep h0 h [a1] ∧ Exa Z h a1 "com/example/entries_on_wire/entriesonwire/store/Key" ∧ Fld Z h a1 "com/example/entries_on_wire/entriesonwire/store/Key" "bytes" "[B" (.ref a2) ∧ Fld Z h a1 "com/example/entries_on_wire/entriesonwire/store/Key" "start" "I" (.int p3) ∧ Fld Z h a1 "com/example/entries_on_wire/entriesonwire/store/Key" "end" "I" (.int p4)
set_option maxRecDepth 65536 in
set_option maxHeartbeats 40000000 in
theorem rm4 (l : Launch) (Z : State) (a0 : Array Value) (hw : ∀ d ∈ tables_1, d.before a0 Z = true) (ws : List Jvm.Cond) (a1 : Addr) (a2 : Addr) (p3 : Int32) (p4 : Int32) (u : Addr) (u3 : Int32) (u4 : Int32) (h0 : Heap) (n0 : Nat) (Z0 : n0 ≤ h0.size) (E : Exa Z h0 a1 "com/example/entries_on_wire/entriesonwire/store/Key") (g : n0 ≤ a1) (F_bytes : Fld Z h0 a1 "com/example/entries_on_wire/entriesonwire/store/Key" "bytes" "[B" (.ref u)) (F_start : Fld Z h0 a1 "com/example/entries_on_wire/entriesonwire/store/Key" "start" "I" (.int u3)) (F_end : Fld Z h0 a1 "com/example/entries_on_wire/entriesonwire/store/Key" "end" "I" (.int u4)) :
    MetFree l (⟨"com/example/entries_on_wire/entriesonwire/store/Key", "pointAt", "([BII)Lcom/example/entries_on_wire/entriesonwire/store/Key;"⟩ : MethodName) (head1 (Jvm.Cond.code (⟨"com/example/entries_on_wire/entriesonwire/store/Key", "pointAt", "([BII)Lcom/example/entries_on_wire/entriesonwire/store/Key;"⟩ : MethodName) prog_38_method_3_code 4 (some (.object "com/example/entries_on_wire/entriesonwire/store/Key")) :: ws) ({ frames := 0, cells := 0, slots := 0, locals := 0 } : Room)) (fun a U => a = #[(.ref a1), (.ref a2), (.int p3), (.int p4)] ∧ Z.Warmed39 U.vm ∧ U.heap = h0) (fun _ _ _ _ _ => True) (fun _ U o U' => ∃ v L, o = .returned v ∧ Q4 Z a1 a2 p3 p4 u u3 u4 h0 n0 v U'.heap L ∧ FrameEnd U o U' L ({ frames := 0, cells := 0, slots := 0, locals := 0 } : Room).cells ({ frames := 0, cells := 0, slots := 0, locals := 0 } : Room).slots) := by
  refine MetFree.of_bodySF (plainFor_of_name pn_0) hisR ?_
  intro p e s m args below meth c s₁ Bd hml0 hP hK
  obtain ⟨rfl, hZ, hh⟩ := hP
  have hx := Bd.exec
  have hby := Bd.bytes
  have hml : c.maxLocals = 4 := hml0
  have hown : s.vm.findClass "com/example/entries_on_wire/entriesonwire/store/Key" = some m.cls := findClass_of_methodNamed Bd.named
  have hnm := (name_of_methodNamed Bd.named Bd.method).1
  have hlocks : meth.locks = false := BodyLoose.notSynchronized Bd
  have X0 : Stand p l e ({ frames := 0, cells := 0, slots := 0, locals := 0 } : Room) s m #[(.ref a1), (.ref a2), (.int p3), (.int p4)] below meth c s₁ [] 0 0 := Stand.of_body Bd
  have e0 : s₁.heap = h0 := by rw [← hh, Bd.state]; rfl
  have N0 := Fr.nil n0
  show Goes p e below (s₁.setTop (entryFrame m #[(.ref a1), (.ref a2), (.int p3), (.int p4)] 4)) (Fin s (Q4 Z a1 a2 p3 p4 u u3 u4 h0 n0) ({ frames := 0, cells := 0, slots := 0, locals := 0 } : Room).cells ({ frames := 0, cells := 0, slots := 0, locals := 0 } : Room).slots)
  refine Goes.of (fun t k => castTop (ef_4 m a1 a2 p3 p4) k) ?_
  have K0 : Keep h0 h0 [a1] := Keep.refl _ _
  show Goes p e below (s₁.setTop (mkF m 0 #[.val (.ref a1), .val (.ref a2), .val (.int p3), .val (.int p4)] [])) _
  refine Goes.of (fun t k => XS.aloadN X0.here hx rfl (hb hby d4_0) rfl rfl k) ?_
  show Goes p e below (s₁.setTop (mkF m 1 #[.val (.ref a1), .val (.ref a2), .val (.int p3), .val (.int p4)] [(.ref a1)])) _
  refine Goes.of (fun t k => XS.aloadN X0.here hx rfl (hb hby d4_1) rfl rfl k) ?_
  show Goes p e below (s₁.setTop (mkF m 2 #[.val (.ref a1), .val (.ref a2), .val (.int p3), .val (.int p4)] [(.ref a2), (.ref a1)])) _
  obtain ⟨T35, h35, X35, e35, W35, st35⟩ := putF X0 hx hZ hown (host := "") (Or.inl (hw _ (List.mem_of_getElem? (i := 15) rfl))) Via.refl e0 F_bytes E (Or.inl (hw _ (List.mem_of_getElem? (i := 16) rfl))) (hw _ (List.mem_of_getElem? (i := 2) rfl)) (ty := (.array .byte)) (by decide) rfl rfl (g := (mkF m 2 #[.val (.ref a1), .val (.ref a2), .val (.int p3), .val (.int p4)] [(.ref a2), (.ref a1)])) rfl rfl (hb hby d4_2)
  have f36 := F_bytes.same W35
  have K37 : Keep h0 h35 [a1] := K0.wr W35 (Or.inl (List.mem_of_getElem? (i := 0) rfl))
  have z38 : n0 ≤ h35.size := Nat.le_trans Z0 (Keep.of_wr W35).1
  have f39 := E.wr W35
  have f41 := F_start.other W35 (Or.inr (slot_ne (Or.inl (hw _ (List.mem_of_getElem? (i := 18) rfl))) (Or.inl (hw _ (List.mem_of_getElem? (i := 16) rfl))) (by decide) (t := .int) (t' := (.array .byte)) (by decide) (by decide)))
  have f42 := F_end.other W35 (Or.inr (slot_ne (Or.inl (hw _ (List.mem_of_getElem? (i := 20) rfl))) (Or.inl (hw _ (List.mem_of_getElem? (i := 16) rfl))) (by decide) (t := .int) (t' := (.array .byte)) (by decide) (by decide)))
  have N35 := Fr.snoc X35 N0 g
  refine Goes.of st35 ?_
  show Goes p e below (T35.setTop (mkF m 5 #[.val (.ref a1), .val (.ref a2), .val (.int p3), .val (.int p4)] [])) _
  refine Goes.of (fun t k => XS.aloadN X35.here hx rfl (hb hby d4_5) rfl rfl k) ?_
  show Goes p e below (T35.setTop (mkF m 6 #[.val (.ref a1), .val (.ref a2), .val (.int p3), .val (.int p4)] [(.ref a1)])) _
  refine Goes.of (fun t k => XS.iloadN X35.here hx rfl (hb hby d4_6) rfl k) ?_
  show Goes p e below (T35.setTop (mkF m 7 #[.val (.ref a1), .val (.ref a2), .val (.int p3), .val (.int p4)] [(.int p3), (.ref a1)])) _
  obtain ⟨T43, h43, X43, e43, W43, st43⟩ := putF X35 hx hZ hown (host := "") (Or.inl (hw _ (List.mem_of_getElem? (i := 17) rfl))) Via.refl e35 f41 f39 (Or.inl (hw _ (List.mem_of_getElem? (i := 18) rfl))) (hw _ (List.mem_of_getElem? (i := 2) rfl)) (ty := .int) (by decide) rfl rfl (g := (mkF m 7 #[.val (.ref a1), .val (.ref a2), .val (.int p3), .val (.int p4)] [(.int p3), (.ref a1)])) rfl rfl (hb hby d4_7)
  have f44 := f41.same W43
  have K45 : Keep h0 h43 [a1] := K37.wr W43 (Or.inl (List.mem_of_getElem? (i := 0) rfl))
  have z46 : n0 ≤ h43.size := Nat.le_trans z38 (Keep.of_wr W43).1
  have f47 := f39.wr W43
  have f48 := f36.other W43 (Or.inr (slot_ne (Or.inl (hw _ (List.mem_of_getElem? (i := 16) rfl))) (Or.inl (hw _ (List.mem_of_getElem? (i := 18) rfl))) (by decide) (t := (.array .byte)) (t' := .int) (by decide) (by decide)))
  have f50 := f42.other W43 (Or.inr (slot_ne (Or.inl (hw _ (List.mem_of_getElem? (i := 20) rfl))) (Or.inl (hw _ (List.mem_of_getElem? (i := 18) rfl))) (by decide) (t := .int) (t' := .int) (by decide) (by decide)))
  have N43 := Fr.snoc X43 N35 g
  refine Goes.of st43 ?_
  show Goes p e below (T43.setTop (mkF m 10 #[.val (.ref a1), .val (.ref a2), .val (.int p3), .val (.int p4)] [])) _
  refine Goes.of (fun t k => XS.aloadN X43.here hx rfl (hb hby d4_10) rfl rfl k) ?_
  show Goes p e below (T43.setTop (mkF m 11 #[.val (.ref a1), .val (.ref a2), .val (.int p3), .val (.int p4)] [(.ref a1)])) _
  refine Goes.of (fun t k => XS.iloadN X43.here hx rfl (hb hby d4_11) rfl k) ?_
  show Goes p e below (T43.setTop (mkF m 12 #[.val (.ref a1), .val (.ref a2), .val (.int p3), .val (.int p4)] [(.int p4), (.ref a1)])) _
  obtain ⟨T51, h51, X51, e51, W51, st51⟩ := putF X43 hx hZ hown (host := "") (Or.inl (hw _ (List.mem_of_getElem? (i := 19) rfl))) Via.refl e43 f50 f47 (Or.inl (hw _ (List.mem_of_getElem? (i := 20) rfl))) (hw _ (List.mem_of_getElem? (i := 2) rfl)) (ty := .int) (by decide) rfl rfl (g := (mkF m 12 #[.val (.ref a1), .val (.ref a2), .val (.int p3), .val (.int p4)] [(.int p4), (.ref a1)])) rfl rfl (hb hby d4_12)
  have f52 := f50.same W51
  have K53 : Keep h0 h51 [a1] := K45.wr W51 (Or.inl (List.mem_of_getElem? (i := 0) rfl))
  have z54 : n0 ≤ h51.size := Nat.le_trans z46 (Keep.of_wr W51).1
  have f55 := f47.wr W51
  have f56 := f48.other W51 (Or.inr (slot_ne (Or.inl (hw _ (List.mem_of_getElem? (i := 16) rfl))) (Or.inl (hw _ (List.mem_of_getElem? (i := 20) rfl))) (by decide) (t := (.array .byte)) (t' := .int) (by decide) (by decide)))
  have f57 := f44.other W51 (Or.inr (slot_ne (Or.inl (hw _ (List.mem_of_getElem? (i := 18) rfl))) (Or.inl (hw _ (List.mem_of_getElem? (i := 20) rfl))) (by decide) (t := .int) (t' := .int) (by decide) (by decide)))
  have N51 := Fr.snoc X51 N43 g
  refine Goes.of st51 ?_
  show Goes p e below (T51.setTop (mkF m 15 #[.val (.ref a1), .val (.ref a2), .val (.int p3), .val (.int p4)] [])) _
  refine Goes.of (fun t k => XS.aloadN X51.here hx rfl (hb hby d4_15) rfl rfl k) ?_
  show Goes p e below (T51.setTop (mkF m 16 #[.val (.ref a1), .val (.ref a2), .val (.int p3), .val (.int p4)] [(.ref a1)])) _
  have eh : T51.heap = h51 := e51
  exact Goes.retA X51 hx (by rfl) Bd.returns (by rfl) hlocks (hb hby d4_16) (⟨rfl, N51, by rw [eh]; exact K53, by rw [eh]; exact f55, by rw [eh]; exact f56, by rw [eh]; exact f57, by rw [eh]; exact f52⟩) (by decide) (by decide)
def own_hash (f : Nat → Int32) : Nat → Nat → Int32 → Int32
  | _, 0, acc => acc
  | i, n + 1, acc => own_hash f (i + 1) n (31 * acc + f i)
def own_b (a b c d : Int32) (k : Nat) : Int32 := [a, b, c, d].getD k 0
theorem own_getD (L : List Int32) (k : Nat) : (L.map Value.int).getD k (.int 0) = .int (L.getD k 0) := by
  induction L generalizing k with
  | nil => rfl
  | cons a t ih => cases k with
    | zero => rfl
    | succ k => simpa using ih k
theorem own_clamp (i : Int32) : i.toNatClampNeg = i.toInt.toNat := rfl
theorem own_add1 {i : Int32} {k : Int32} {n : Nat} (hk : k.toInt = n) (h0 : 0 ≤ i.toInt) (h1 : i.toInt + n < 2 ^ 31) : (i + k).toNatClampNeg = i.toNatClampNeg + n ∧ (i + k).toInt = i.toInt + n := by
  have e : (i + k).toInt = i.toInt + k.toInt := Jvm.Kit.i32_add (by omega) (by omega)
  rw [own_clamp, own_clamp, e, hk]; omega
theorem own_in4 {i : Int32} (h0 : 0 ≤ i.toInt) (h1 : i.toInt < 4) : ¬ i < 0 ∧ i < 4 := by
  have z0 : (0 : Int32).toInt = 0 := by decide
  have z4 : (4 : Int32).toInt = 4 := by decide
  rw [Int32.lt_iff_toInt_lt, Int32.lt_iff_toInt_lt, z0, z4]; omega
theorem own_lt {i j : Int32} (h : i.toInt < j.toInt) : i < j := Int32.lt_iff_toInt_lt.mpr h
theorem own_nlt {i j : Int32} (h : j.toInt ≤ i.toInt) : ¬ i < j := fun q => by have := Int32.lt_iff_toInt_lt.mp q; omega
theorem own_st (s : Int32) : 0 ≤ (s &&& 3).toInt ∧ (s &&& 3).toInt ≤ 3 := by
  have e1 : (s &&& 3).toInt = s.toInt % 2 ^ 2 := Jvm.Kit.i32_mask s 3 (k := 2) (by decide) (by decide)
  omega
theorem own_5 {st : Int32} (h0 : 0 ≤ st.toInt) (h1 : st.toInt ≤ 3) : (5 - st).toInt = 5 - st.toInt := by
  have z5 : (5 : Int32).toInt = 5 := by decide
  rw [Jvm.Kit.i32_sub (by omega) (by omega), z5]
theorem own_nz {x : Int32} (h : 0 < x.toInt) : x ≠ 0 := fun q => by rw [q] at h; exact absurd h (by decide)
theorem own_ln (s : Int32) {st : Int32} (h0 : 0 ≤ st.toInt) (h1 : st.toInt ≤ 3) : 0 ≤ ((s &&& 7) - (s &&& 7) / (5 - st) * (5 - st)).toInt ∧ ((s &&& 7) - (s &&& 7) / (5 - st) * (5 - st)).toInt ≤ 4 - st.toInt := by
  have e1 : (s &&& 7).toInt = s.toInt % 2 ^ 3 := Jvm.Kit.i32_mask s 7 (k := 3) (by decide) (by decide)
  have e5 := own_5 h0 h1
  rw [own_rem32n (by omega), e5]
  have := Int.emod_nonneg (s &&& 7).toInt (b := 5 - st.toInt) (by omega)
  have := Int.emod_lt_of_pos (s &&& 7).toInt (b := 5 - st.toInt) (by omega)
  omega
theorem own_sum {st ln : Int32} (h0 : 0 ≤ st.toInt) (h1 : 0 ≤ ln.toInt) (h2 : ln.toInt ≤ 4 - st.toInt) : (st + ln).toInt = st.toInt + ln.toInt := Jvm.Kit.i32_add (by omega) (by omega)
theorem ef_5 (m : MethodId) (x0 : Addr) : entryFrame m #[(.ref x0)] 3 = mkF m 0 #[.val (.ref x0), .unset, .unset] [] := by first | (simp [entryFrame, mkF, argsToLocals, Value.category]; done) | rfl
def Q5 (Z : State) (a1 : Addr) (ab : Addr) (st : Int32) (en : Int32) (kA : ClassId) (c0 : Int32) (c1 : Int32) (c2 : Int32) (c3 : Int32) (h0 : Heap) (n0 : Nat) (v : Option Value) (h : Heap) (L : List Loc) : Prop := v = some (.int (own_hash (own_b c0 c1 c2 c3) st.toNatClampNeg (en.toInt - st.toInt).toNat 1)) ∧ Fr n0 L ∧ h = h0
set_option maxRecDepth 65536 in
set_option maxHeartbeats 40000000 in
theorem rm5 (l : Launch) (Z : State) (a0 : Array Value) (hw : ∀ d ∈ tables_1, d.before a0 Z = true) (ws : List Jvm.Cond) (a1 : Addr) (ab : Addr) (st : Int32) (en : Int32) (kA : ClassId) (c0 : Int32) (c1 : Int32) (c2 : Int32) (c3 : Int32) (h0 : Heap) (n0 : Nat) (Z0 : n0 ≤ h0.size) (F_bytes : Fld Z h0 a1 "com/example/entries_on_wire/entriesonwire/store/Key" "bytes" "[B" (.ref ab)) (F_start : Fld Z h0 a1 "com/example/entries_on_wire/entriesonwire/store/Key" "start" "I" (.int st)) (F_end : Fld Z h0 a1 "com/example/entries_on_wire/entriesonwire/store/Key" "end" "I" (.int en)) (VA : Arv Z h0 ab kA .byte (4 : Int32) [.int c0, .int c1, .int c2, .int c3] (.int (0 : Int32))) (h1 : 0 ≤ st.toInt) (h2 : st.toInt ≤ en.toInt) (h3 : en.toInt ≤ 4) :
    MetFree l (⟨"com/example/entries_on_wire/entriesonwire/store/Key", "hashCode", "()I"⟩ : MethodName) (head1 (Jvm.Cond.code (⟨"com/example/entries_on_wire/entriesonwire/store/Key", "hashCode", "()I"⟩ : MethodName) prog_38_method_7_code 3 (some .int) :: ws) ({ frames := 0, cells := 0, slots := 0, locals := 0 } : Room)) (fun a U => a = #[(.ref a1)] ∧ Z.Warmed39 U.vm ∧ U.heap = h0) (fun _ _ _ _ _ => True) (fun _ U o U' => ∃ v L, o = .returned v ∧ Q5 Z a1 ab st en kA c0 c1 c2 c3 h0 n0 v U'.heap L ∧ FrameEnd U o U' L ({ frames := 0, cells := 0, slots := 0, locals := 0 } : Room).cells ({ frames := 0, cells := 0, slots := 0, locals := 0 } : Room).slots) := by
  refine MetFree.of_bodySF (plainFor_of_name pn_0) hisR ?_
  intro p e s m args below meth c s₁ Bd hml0 hP hK
  obtain ⟨rfl, hZ, hh⟩ := hP
  have hx := Bd.exec
  have hby := Bd.bytes
  have hml : c.maxLocals = 3 := hml0
  have hown : s.vm.findClass "com/example/entries_on_wire/entriesonwire/store/Key" = some m.cls := findClass_of_methodNamed Bd.named
  have hnm := (name_of_methodNamed Bd.named Bd.method).1
  have hlocks : meth.locks = false := BodyLoose.notSynchronized Bd
  have X0 : Stand p l e ({ frames := 0, cells := 0, slots := 0, locals := 0 } : Room) s m #[(.ref a1)] below meth c s₁ [] 0 0 := Stand.of_body Bd
  have e0 : s₁.heap = h0 := by rw [← hh, Bd.state]; rfl
  have N0 := Fr.nil n0
  show Goes p e below (s₁.setTop (entryFrame m #[(.ref a1)] 3)) (Fin s (Q5 Z a1 ab st en kA c0 c1 c2 c3 h0 n0) ({ frames := 0, cells := 0, slots := 0, locals := 0 } : Room).cells ({ frames := 0, cells := 0, slots := 0, locals := 0 } : Room).slots)
  refine Goes.of (fun t k => castTop (ef_5 m a1) k) ?_
  show Goes p e below (s₁.setTop (mkF m 0 #[.val (.ref a1), .unset, .unset] [])) _
  refine Goes.of (fun t k => XS.iconst X0.here hx rfl (hb hby d5_0) k) ?_
  show Goes p e below (s₁.setTop (mkF m 1 #[.val (.ref a1), .unset, .unset] [(.int (1 : Int32))])) _
  refine Goes.of (fun t k => XS.istoreN X0.here hx rfl (hb hby d5_1) rfl (l' := #[.val (.ref a1), .val (.int (1 : Int32)), .unset]) rfl k) ?_
  show Goes p e below (s₁.setTop (mkF m 2 #[.val (.ref a1), .val (.int (1 : Int32)), .unset] [])) _
  refine Goes.of (fun t k => XS.aloadN X0.here hx rfl (hb hby d5_2) rfl rfl k) ?_
  show Goes p e below (s₁.setTop (mkF m 3 #[.val (.ref a1), .val (.int (1 : Int32)), .unset] [(.ref a1)])) _
  obtain ⟨T59, X59, e59, st59⟩ := getF X0 hx hZ hown (host := "") (Or.inl (hw _ (List.mem_of_getElem? (i := 17) rfl))) Via.refl e0 F_start (g := (mkF m 3 #[.val (.ref a1), .val (.int (1 : Int32)), .unset] [(.ref a1)])) rfl rfl (hb hby d5_3)
  refine Goes.of st59 ?_
  show Goes p e below (T59.setTop (mkF m 6 #[.val (.ref a1), .val (.int (1 : Int32)), .unset] [(.int st)])) _
  refine Goes.of (fun t k => XS.istoreN X59.here hx rfl (hb hby d5_6) rfl (l' := #[.val (.ref a1), .val (.int (1 : Int32)), .val (.int st)]) rfl k) ?_
  show Goes p e below (T59.setTop (mkF m 7 #[.val (.ref a1), .val (.int (1 : Int32)), .val (.int st)] [])) _
  have loop : ∀ (n : Nat) (T1 : State) (i acc : Int32), Stand p l e ({ frames := 0, cells := 0, slots := 0, locals := 0 } : Room) s m #[(.ref a1)] below meth c T1 [] 0 0 → T1.heap = h0 → 0 ≤ i.toInt → i.toInt + n = en.toInt → Goes p e below (T1.setTop (mkF m 7 #[.val (.ref a1), .val (.int acc), .val (.int i)] [])) (Fin s (fun v h L => v = some (.int (own_hash (own_b c0 c1 c2 c3) i.toNatClampNeg n acc)) ∧ Fr n0 L ∧ h = h0) ({ frames := 0, cells := 0, slots := 0, locals := 0 } : Room).cells ({ frames := 0, cells := 0, slots := 0, locals := 0 } : Room).slots) := by
    intro n
    induction n with
    | zero =>
      intro T1 i acc X1 e1 hi0 hin
      show Goes p e below (T1.setTop (mkF m 7 #[.val (.ref a1), .val (.int acc), .val (.int i)] [])) _
      refine Goes.of (fun t k => XS.iloadN X1.here hx rfl (hb hby d5_7) rfl k) ?_
      show Goes p e below (T1.setTop (mkF m 8 #[.val (.ref a1), .val (.int acc), .val (.int i)] [(.int i)])) _
      refine Goes.of (fun t k => XS.aloadN X1.here hx rfl (hb hby d5_8) rfl rfl k) ?_
      show Goes p e below (T1.setTop (mkF m 9 #[.val (.ref a1), .val (.int acc), .val (.int i)] [(.ref a1), (.int i)])) _
      obtain ⟨T60, X60, e60, st60⟩ := getF X1 hx hZ hown (host := "") (Or.inl (hw _ (List.mem_of_getElem? (i := 19) rfl))) Via.refl e1 F_end (g := (mkF m 9 #[.val (.ref a1), .val (.int acc), .val (.int i)] [(.ref a1), (.int i)])) rfl rfl (hb hby d5_9)
      refine Goes.of st60 ?_
      show Goes p e below (T60.setTop (mkF m 12 #[.val (.ref a1), .val (.int acc), .val (.int i)] [(.int en), (.int i)])) _
      have hd12_61 : ¬ (i < en) := own_nlt (by omega)
      refine Goes.of (fun t k => XS.icmpYes X60.here hx rfl (pc0 := 12) (pc' := 33) rfl (hb hby d5_12) rfl (flt hd12_61).2.1 (by decide) (by decide) k) ?_
      show Goes p e below (T60.setTop (mkF m 33 #[.val (.ref a1), .val (.int acc), .val (.int i)] [])) _
      refine Goes.of (fun t k => XS.iloadN X60.here hx rfl (hb hby d5_33) rfl k) ?_
      show Goes p e below (T60.setTop (mkF m 34 #[.val (.ref a1), .val (.int acc), .val (.int i)] [(.int acc)])) _
      exact Goes.retI X60 hx Bd.returns hlocks (hb hby d5_34) (⟨rfl, N0, e60⟩) (by decide) (by decide)
    | succ n ih =>
      intro T1 i acc X1 e1 hi0 hin
      show Goes p e below (T1.setTop (mkF m 7 #[.val (.ref a1), .val (.int acc), .val (.int i)] [])) _
      refine Goes.of (fun t k => XS.iloadN X1.here hx rfl (hb hby d5_7) rfl k) ?_
      show Goes p e below (T1.setTop (mkF m 8 #[.val (.ref a1), .val (.int acc), .val (.int i)] [(.int i)])) _
      refine Goes.of (fun t k => XS.aloadN X1.here hx rfl (hb hby d5_8) rfl rfl k) ?_
      show Goes p e below (T1.setTop (mkF m 9 #[.val (.ref a1), .val (.int acc), .val (.int i)] [(.ref a1), (.int i)])) _
      obtain ⟨T62, X62, e62, st62⟩ := getF X1 hx hZ hown (host := "") (Or.inl (hw _ (List.mem_of_getElem? (i := 19) rfl))) Via.refl e1 F_end (g := (mkF m 9 #[.val (.ref a1), .val (.int acc), .val (.int i)] [(.ref a1), (.int i)])) rfl rfl (hb hby d5_9)
      refine Goes.of st62 ?_
      show Goes p e below (T62.setTop (mkF m 12 #[.val (.ref a1), .val (.int acc), .val (.int i)] [(.int en), (.int i)])) _
      have hd12_63 : i < en := own_lt (by omega)
      refine Goes.of (fun t k => XS.icmpNo X62.here hx rfl (hb hby d5_12) rfl (tlt hd12_63).2.1 k) ?_
      show Goes p e below (T62.setTop (mkF m 15 #[.val (.ref a1), .val (.int acc), .val (.int i)] [])) _
      refine Goes.of (fun t k => XS.bipush X62.here hx rfl (hb hby d5_15) k) ?_
      show Goes p e below (T62.setTop (mkF m 17 #[.val (.ref a1), .val (.int acc), .val (.int i)] [(.int (31 : Int32))])) _
      refine Goes.of (fun t k => XS.iloadN X62.here hx rfl (hb hby d5_17) rfl k) ?_
      show Goes p e below (T62.setTop (mkF m 18 #[.val (.ref a1), .val (.int acc), .val (.int i)] [(.int acc), (.int (31 : Int32))])) _
      refine Goes.of (fun t k => XS.imul X62.here hx rfl (hb hby d5_18) rfl k) ?_
      show Goes p e below (T62.setTop (mkF m 19 #[.val (.ref a1), .val (.int acc), .val (.int i)] [(.int ((31 : Int32) * acc))])) _
      refine Goes.of (fun t k => XS.aloadN X62.here hx rfl (hb hby d5_19) rfl rfl k) ?_
      show Goes p e below (T62.setTop (mkF m 20 #[.val (.ref a1), .val (.int acc), .val (.int i)] [(.ref a1), (.int ((31 : Int32) * acc))])) _
      obtain ⟨T64, X64, e64, st64⟩ := getF X62 hx hZ hown (host := "") (Or.inl (hw _ (List.mem_of_getElem? (i := 15) rfl))) Via.refl e62 F_bytes (g := (mkF m 20 #[.val (.ref a1), .val (.int acc), .val (.int i)] [(.ref a1), (.int ((31 : Int32) * acc))])) rfl rfl (hb hby d5_20)
      refine Goes.of st64 ?_
      show Goes p e below (T64.setTop (mkF m 23 #[.val (.ref a1), .val (.int acc), .val (.int i)] [(.ref ab), (.int ((31 : Int32) * acc))])) _
      refine Goes.of (fun t k => XS.iloadN X64.here hx rfl (hb hby d5_23) rfl k) ?_
      show Goes p e below (T64.setTop (mkF m 24 #[.val (.ref a1), .val (.int acc), .val (.int i)] [(.int i), (.ref ab), (.int ((31 : Int32) * acc))])) _
      have Vc65 := VA
      obtain ⟨clc65, Arc65, qc65, Sc65, Nc65, Hc65, Gc65⟩ := Vc65
      have hin66 : ¬ (i < 0 ∨ clc65.slots.size ≤ (i).toNatClampNeg) := inb_of Sc65 (own_in4 hi0 (by omega))
      have hat67 : clc65.slots[(i).toNatClampNeg]? = some (.int (own_b c0 c1 c2 c3 i.toNatClampNeg)) := Hc65.at hin66 (own_getD [c0, c1, c2, c3] _)
      refine Goes.of (fun t k => X64.baloadBytes hx (j := i) (v := (.int (own_b c0 c1 c2 c3 i.toNatClampNeg))) (by rw [e64]; exact Arc65.1) (State.isArrayOf_alike hZ.alike Arc65.2.1) Arc65.2.2 hin66 hat67 (g := (mkF m 24 #[.val (.ref a1), .val (.int acc), .val (.int i)] [(.int i), (.ref ab), (.int ((31 : Int32) * acc))])) rfl rfl (hb hby d5_24) _ k) ?_
      show Goes p e below (T64.setTop (mkF m 25 #[.val (.ref a1), .val (.int acc), .val (.int i)] [(.int (own_b c0 c1 c2 c3 i.toNatClampNeg)), (.int ((31 : Int32) * acc))])) _
      refine Goes.of (fun t k => XS.iadd X64.here hx rfl (hb hby d5_25) rfl k) ?_
      show Goes p e below (T64.setTop (mkF m 26 #[.val (.ref a1), .val (.int acc), .val (.int i)] [(.int (((31 : Int32) * acc) + (own_b c0 c1 c2 c3 i.toNatClampNeg)))])) _
      refine Goes.of (fun t k => XS.istoreN X64.here hx rfl (hb hby d5_26) rfl (l' := #[.val (.ref a1), .val (.int (((31 : Int32) * acc) + (own_b c0 c1 c2 c3 i.toNatClampNeg))), .val (.int i)]) rfl k) ?_
      show Goes p e below (T64.setTop (mkF m 27 #[.val (.ref a1), .val (.int (((31 : Int32) * acc) + (own_b c0 c1 c2 c3 i.toNatClampNeg))), .val (.int i)] [])) _
      refine Goes.of (fun t k => XS.iinc X64.here hx rfl (hb hby d5_27) rfl (l' := #[.val (.ref a1), .val (.int (((31 : Int32) * acc) + (own_b c0 c1 c2 c3 i.toNatClampNeg))), .val (.int (i + (1 : Int32)))]) rfl k) ?_
      show Goes p e below (T64.setTop (mkF m 30 #[.val (.ref a1), .val (.int (((31 : Int32) * acc) + (own_b c0 c1 c2 c3 i.toNatClampNeg))), .val (.int (i + (1 : Int32)))] [])) _
      refine Goes.of (fun t k => XS.goto X64.here hx rfl (pc0 := 30) (pc' := 7) rfl (hb hby d5_30) (by decide) (by decide) k) ?_
      show Goes p e below (T64.setTop (mkF m 7 #[.val (.ref a1), .val (.int (((31 : Int32) * acc) + (own_b c0 c1 c2 c3 i.toNatClampNeg))), .val (.int (i + (1 : Int32)))] [])) _
      have hs := own_add1 (i := i) (k := 1) (n := 1) (by decide) hi0 (by omega)
      have := ih T64 (i + 1) (((31 : Int32) * acc) + (own_b c0 c1 c2 c3 i.toNatClampNeg)) X64 e64 (by omega) (by omega)
      rw [hs.1] at this
      exact this
  exact loop _ T59 st 1 X59 e59 h1 (by omega)
theorem ef_0 (m : MethodId) (x0 : Int32) (x1 : Int32) (x2 : Int32) (x3 : Int32) (x4 : Int32) : entryFrame m #[(.int x0), (.int x1), (.int x2), (.int x3), (.int x4)] maxLocals = mkF m 0 #[.val (.int x0), .val (.int x1), .val (.int x2), .val (.int x3), .val (.int x4), .unset, .unset, .unset, .unset, .unset, .unset, .unset] [] := by first | (simp [entryFrame, mkF, argsToLocals, Value.category, maxLocals]; done) | rfl
def Q0 (Z : State) (p1 : Int32) (p2 : Int32) (p3 : Int32) (p4 : Int32) (p5 : Int32) (aN : Addr) (h0 : Heap) (n0 : Nat) (v : Option Value) (h : Heap) (L : List Loc) : Prop := v = some (.int 1) ∧ Fr n0 L
set_option maxRecDepth 65536 in
set_option maxHeartbeats 40000000 in
theorem rm0 (l : Launch) (Z : State) (a0 : Array Value) (hw : ∀ d ∈ tables_1, d.before a0 Z = true) (ws : List Jvm.Cond) (p1 : Int32) (p2 : Int32) (p3 : Int32) (p4 : Int32) (p5 : Int32) (aN : Addr) (h0 : Heap) (n0 : Nat) (Z0 : n0 ≤ h0.size) (O0 : Old Z n0 h0) (SN : Sta Z Z.heap "com/example/entries_on_wire/entriesonwire/store/Key" "NONE" "[B" (.ref aN)) :
    MetFree l x (head1 (Jvm.Cond.code x code maxLocals ret :: ws) room_1) (fun a U => a = #[(.int p1), (.int p2), (.int p3), (.int p4), (.int p5)] ∧ Z.Warmed39 U.vm ∧ U.heap = h0) (fun _ _ _ _ _ => True) (fun _ U o U' => ∃ v L, o = .returned v ∧ Q0 Z p1 p2 p3 p4 p5 aN h0 n0 v U'.heap L ∧ FrameEnd U o U' L room_1.cells room_1.slots) := by
  refine MetFree.of_bodySF (plainFor_of_name pn_2) hisR ?_
  intro p e s m args below meth c s₁ Bd hml0 hP hK
  obtain ⟨rfl, hZ, hh⟩ := hP
  have hx := Bd.exec
  have hby := Bd.bytes
  have hml : c.maxLocals = 12 := hml0
  have hown : s.vm.findClass "com/example/entries_on_wire/entriesonwire/store/KeyHashCodePinLaw" = some m.cls := findClass_of_methodNamed Bd.named
  have hnm := (name_of_methodNamed Bd.named Bd.method).1
  have hlocks : meth.locks = false := BodyLoose.notSynchronized Bd
  have X0 : Stand p l e room_1 s m #[(.int p1), (.int p2), (.int p3), (.int p4), (.int p5)] below meth c s₁ [] 0 0 := Stand.of_body Bd
  have e0 : s₁.heap = h0 := by rw [← hh, Bd.state]; rfl
  have N0 := Fr.nil n0
  show Goes p e below (s₁.setTop (entryFrame m #[(.int p1), (.int p2), (.int p3), (.int p4), (.int p5)] maxLocals)) (Fin s (Q0 Z p1 p2 p3 p4 p5 aN h0 n0) room_1.cells room_1.slots)
  refine Goes.of (fun t k => castTop (ef_0 m p1 p2 p3 p4 p5) k) ?_
  show Goes p e below (s₁.setTop (mkF m 0 #[.val (.int p1), .val (.int p2), .val (.int p3), .val (.int p4), .val (.int p5), .unset, .unset, .unset, .unset, .unset, .unset, .unset] [])) _
  refine Goes.of (fun t k => XS.iconst X0.here hx rfl (hb hby at_0) k) ?_
  show Goes p e below (s₁.setTop (mkF m 1 #[.val (.int p1), .val (.int p2), .val (.int p3), .val (.int p4), .val (.int p5), .unset, .unset, .unset, .unset, .unset, .unset, .unset] [(.int (4 : Int32))])) _
  obtain ⟨T68, h68, k68, X68, e68, E68, A68, st68⟩ := newP X0 hx hZ (hw _ (List.mem_of_getElem? (i := 0) rfl)) e0 (g := (mkF m 1 #[.val (.int p1), .val (.int p2), .val (.int p3), .val (.int p4), .val (.int p5), .unset, .unset, .unset, .unset, .unset, .unset, .unset] [(.int (4 : Int32))])) rfl (hb hby at_1) rfl (by decide) (cap := 4) (by decide) (by decide) (by decide) (by decide)
  obtain ⟨b68, g68⟩ : ∃ z, z = h0.size := ⟨_, rfl⟩
  rw [← g68] at A68 st68
  have g69 : n0 ≤ b68 := Nat.le_trans Z0 (Nat.le_of_eq g68.symm)
  have z70 : n0 ≤ h68.size := Nat.le_trans Z0 E68.1
  have f71 := O0.ext E68
  have V68 : Arv Z h68 b68 k68 .byte (4 : Int32) [(.int (0 : Int32)), (.int (0 : Int32)), (.int (0 : Int32)), (.int (0 : Int32))] (.int (0 : Int32)) := (Arv.new A68 (by decide)).pad (pad_rep [] (.int (0 : Int32)) 4)
  refine Goes.of st68 ?_
  show Goes p e below (T68.setTop (mkF m 3 #[.val (.int p1), .val (.int p2), .val (.int p3), .val (.int p4), .val (.int p5), .unset, .unset, .unset, .unset, .unset, .unset, .unset] [(.ref b68)])) _
  refine Goes.of (fun t k => XS.dup X68.here hx rfl (hb hby at_3) rfl rfl k) ?_
  show Goes p e below (T68.setTop (mkF m 4 #[.val (.int p1), .val (.int p2), .val (.int p3), .val (.int p4), .val (.int p5), .unset, .unset, .unset, .unset, .unset, .unset, .unset] [(.ref b68), (.ref b68)])) _
  refine Goes.of (fun t k => XS.iconst X68.here hx rfl (hb hby at_4) k) ?_
  show Goes p e below (T68.setTop (mkF m 5 #[.val (.int p1), .val (.int p2), .val (.int p3), .val (.int p4), .val (.int p5), .unset, .unset, .unset, .unset, .unset, .unset, .unset] [(.int (0 : Int32)), (.ref b68), (.ref b68)])) _
  refine Goes.of (fun t k => XS.iloadN X68.here hx rfl (hb hby at_5) rfl k) ?_
  show Goes p e below (T68.setTop (mkF m 6 #[.val (.int p1), .val (.int p2), .val (.int p3), .val (.int p4), .val (.int p5), .unset, .unset, .unset, .unset, .unset, .unset, .unset] [(.int p1), (.int (0 : Int32)), (.ref b68), (.ref b68)])) _
  refine Goes.of (fun t k => XS.i2b X68.here hx rfl (hb hby at_6) rfl k) ?_
  show Goes p e below (T68.setTop (mkF m 7 #[.val (.int p1), .val (.int p2), .val (.int p3), .val (.int p4), .val (.int p5), .unset, .unset, .unset, .unset, .unset, .unset, .unset] [(.int (p1.toInt8.toInt32)), (.int (0 : Int32)), (.ref b68), (.ref b68)])) _
  have Vc72 := V68
  obtain ⟨clc72, Arc72, qc72, Sc72, Nc72, Hc72, Gc72⟩ := Vc72
  have hin73 : ¬ ((0 : Int32) < 0 ∨ clc72.slots.size ≤ ((0 : Int32)).toNatClampNeg) := inb_of Sc72 ⟨by decide, by decide⟩
  obtain ⟨T74, h74, X74, e74, W74, st74⟩ := stB X68 hx hZ e68 Arc72 (j := (0 : Int32)) hin73 (g := (mkF m 7 #[.val (.int p1), .val (.int p2), .val (.int p3), .val (.int p4), .val (.int p5), .unset, .unset, .unset, .unset, .unset, .unset, .unset] [(.int (p1.toInt8.toInt32)), (.int (0 : Int32)), (.ref b68), (.ref b68)])) rfl rfl (hb hby at_7)
  have V74 : Arv Z h74 b68 k68 .byte (4 : Int32) [(.int (nar .byte (p1.toInt8.toInt32))), (.int (0 : Int32)), (.int (0 : Int32)), (.int (0 : Int32))] (.int (0 : Int32)) := Arv.set Arc72 qc72 Sc72 Nc72 Hc72 Gc72 (fits_nar_byte _) W74 0 rfl (Nat.le_of_ble_eq_true rfl)
  have z75 : n0 ≤ h74.size := Nat.le_trans z70 (Keep.of_wr W74).1
  have f76 := f71.wr W74 g69
  have N74 := Fr.snoc X74 N0 g69
  refine Goes.of st74 ?_
  show Goes p e below (T74.setTop (mkF m 8 #[.val (.int p1), .val (.int p2), .val (.int p3), .val (.int p4), .val (.int p5), .unset, .unset, .unset, .unset, .unset, .unset, .unset] [(.ref b68)])) _
  refine Goes.of (fun t k => XS.dup X74.here hx rfl (hb hby at_8) rfl rfl k) ?_
  show Goes p e below (T74.setTop (mkF m 9 #[.val (.int p1), .val (.int p2), .val (.int p3), .val (.int p4), .val (.int p5), .unset, .unset, .unset, .unset, .unset, .unset, .unset] [(.ref b68), (.ref b68)])) _
  refine Goes.of (fun t k => XS.iconst X74.here hx rfl (hb hby at_9) k) ?_
  show Goes p e below (T74.setTop (mkF m 10 #[.val (.int p1), .val (.int p2), .val (.int p3), .val (.int p4), .val (.int p5), .unset, .unset, .unset, .unset, .unset, .unset, .unset] [(.int (1 : Int32)), (.ref b68), (.ref b68)])) _
  refine Goes.of (fun t k => XS.iloadN X74.here hx rfl (hb hby at_10) rfl k) ?_
  show Goes p e below (T74.setTop (mkF m 11 #[.val (.int p1), .val (.int p2), .val (.int p3), .val (.int p4), .val (.int p5), .unset, .unset, .unset, .unset, .unset, .unset, .unset] [(.int p2), (.int (1 : Int32)), (.ref b68), (.ref b68)])) _
  refine Goes.of (fun t k => XS.i2b X74.here hx rfl (hb hby at_11) rfl k) ?_
  show Goes p e below (T74.setTop (mkF m 12 #[.val (.int p1), .val (.int p2), .val (.int p3), .val (.int p4), .val (.int p5), .unset, .unset, .unset, .unset, .unset, .unset, .unset] [(.int (p2.toInt8.toInt32)), (.int (1 : Int32)), (.ref b68), (.ref b68)])) _
  have Vc78 := V74
  obtain ⟨clc78, Arc78, qc78, Sc78, Nc78, Hc78, Gc78⟩ := Vc78
  have hin79 : ¬ ((1 : Int32) < 0 ∨ clc78.slots.size ≤ ((1 : Int32)).toNatClampNeg) := inb_of Sc78 ⟨by decide, by decide⟩
  obtain ⟨T80, h80, X80, e80, W80, st80⟩ := stB X74 hx hZ e74 Arc78 (j := (1 : Int32)) hin79 (g := (mkF m 12 #[.val (.int p1), .val (.int p2), .val (.int p3), .val (.int p4), .val (.int p5), .unset, .unset, .unset, .unset, .unset, .unset, .unset] [(.int (p2.toInt8.toInt32)), (.int (1 : Int32)), (.ref b68), (.ref b68)])) rfl rfl (hb hby at_12)
  have V80 : Arv Z h80 b68 k68 .byte (4 : Int32) [(.int (nar .byte (p1.toInt8.toInt32))), (.int (nar .byte (p2.toInt8.toInt32))), (.int (0 : Int32)), (.int (0 : Int32))] (.int (0 : Int32)) := Arv.set Arc78 qc78 Sc78 Nc78 Hc78 Gc78 (fits_nar_byte _) W80 1 rfl (Nat.le_of_ble_eq_true rfl)
  have z81 : n0 ≤ h80.size := Nat.le_trans z75 (Keep.of_wr W80).1
  have f82 := f76.wr W80 g69
  have N80 := Fr.snoc X80 N74 g69
  refine Goes.of st80 ?_
  show Goes p e below (T80.setTop (mkF m 13 #[.val (.int p1), .val (.int p2), .val (.int p3), .val (.int p4), .val (.int p5), .unset, .unset, .unset, .unset, .unset, .unset, .unset] [(.ref b68)])) _
  refine Goes.of (fun t k => XS.dup X80.here hx rfl (hb hby at_13) rfl rfl k) ?_
  show Goes p e below (T80.setTop (mkF m 14 #[.val (.int p1), .val (.int p2), .val (.int p3), .val (.int p4), .val (.int p5), .unset, .unset, .unset, .unset, .unset, .unset, .unset] [(.ref b68), (.ref b68)])) _
  refine Goes.of (fun t k => XS.iconst X80.here hx rfl (hb hby at_14) k) ?_
  show Goes p e below (T80.setTop (mkF m 15 #[.val (.int p1), .val (.int p2), .val (.int p3), .val (.int p4), .val (.int p5), .unset, .unset, .unset, .unset, .unset, .unset, .unset] [(.int (2 : Int32)), (.ref b68), (.ref b68)])) _
  refine Goes.of (fun t k => XS.iloadN X80.here hx rfl (hb hby at_15) rfl k) ?_
  show Goes p e below (T80.setTop (mkF m 16 #[.val (.int p1), .val (.int p2), .val (.int p3), .val (.int p4), .val (.int p5), .unset, .unset, .unset, .unset, .unset, .unset, .unset] [(.int p3), (.int (2 : Int32)), (.ref b68), (.ref b68)])) _
  refine Goes.of (fun t k => XS.i2b X80.here hx rfl (hb hby at_16) rfl k) ?_
  show Goes p e below (T80.setTop (mkF m 17 #[.val (.int p1), .val (.int p2), .val (.int p3), .val (.int p4), .val (.int p5), .unset, .unset, .unset, .unset, .unset, .unset, .unset] [(.int (p3.toInt8.toInt32)), (.int (2 : Int32)), (.ref b68), (.ref b68)])) _
  have Vc84 := V80
  obtain ⟨clc84, Arc84, qc84, Sc84, Nc84, Hc84, Gc84⟩ := Vc84
  have hin85 : ¬ ((2 : Int32) < 0 ∨ clc84.slots.size ≤ ((2 : Int32)).toNatClampNeg) := inb_of Sc84 ⟨by decide, by decide⟩
  obtain ⟨T86, h86, X86, e86, W86, st86⟩ := stB X80 hx hZ e80 Arc84 (j := (2 : Int32)) hin85 (g := (mkF m 17 #[.val (.int p1), .val (.int p2), .val (.int p3), .val (.int p4), .val (.int p5), .unset, .unset, .unset, .unset, .unset, .unset, .unset] [(.int (p3.toInt8.toInt32)), (.int (2 : Int32)), (.ref b68), (.ref b68)])) rfl rfl (hb hby at_17)
  have V86 : Arv Z h86 b68 k68 .byte (4 : Int32) [(.int (nar .byte (p1.toInt8.toInt32))), (.int (nar .byte (p2.toInt8.toInt32))), (.int (nar .byte (p3.toInt8.toInt32))), (.int (0 : Int32))] (.int (0 : Int32)) := Arv.set Arc84 qc84 Sc84 Nc84 Hc84 Gc84 (fits_nar_byte _) W86 2 rfl (Nat.le_of_ble_eq_true rfl)
  have z87 : n0 ≤ h86.size := Nat.le_trans z81 (Keep.of_wr W86).1
  have f88 := f82.wr W86 g69
  have N86 := Fr.snoc X86 N80 g69
  refine Goes.of st86 ?_
  show Goes p e below (T86.setTop (mkF m 18 #[.val (.int p1), .val (.int p2), .val (.int p3), .val (.int p4), .val (.int p5), .unset, .unset, .unset, .unset, .unset, .unset, .unset] [(.ref b68)])) _
  refine Goes.of (fun t k => XS.dup X86.here hx rfl (hb hby at_18) rfl rfl k) ?_
  show Goes p e below (T86.setTop (mkF m 19 #[.val (.int p1), .val (.int p2), .val (.int p3), .val (.int p4), .val (.int p5), .unset, .unset, .unset, .unset, .unset, .unset, .unset] [(.ref b68), (.ref b68)])) _
  refine Goes.of (fun t k => XS.iconst X86.here hx rfl (hb hby at_19) k) ?_
  show Goes p e below (T86.setTop (mkF m 20 #[.val (.int p1), .val (.int p2), .val (.int p3), .val (.int p4), .val (.int p5), .unset, .unset, .unset, .unset, .unset, .unset, .unset] [(.int (3 : Int32)), (.ref b68), (.ref b68)])) _
  refine Goes.of (fun t k => XS.iloadN X86.here hx rfl (hb hby at_20) rfl k) ?_
  show Goes p e below (T86.setTop (mkF m 21 #[.val (.int p1), .val (.int p2), .val (.int p3), .val (.int p4), .val (.int p5), .unset, .unset, .unset, .unset, .unset, .unset, .unset] [(.int p4), (.int (3 : Int32)), (.ref b68), (.ref b68)])) _
  refine Goes.of (fun t k => XS.i2b X86.here hx rfl (hb hby at_21) rfl k) ?_
  show Goes p e below (T86.setTop (mkF m 22 #[.val (.int p1), .val (.int p2), .val (.int p3), .val (.int p4), .val (.int p5), .unset, .unset, .unset, .unset, .unset, .unset, .unset] [(.int (p4.toInt8.toInt32)), (.int (3 : Int32)), (.ref b68), (.ref b68)])) _
  have Vc90 := V86
  obtain ⟨clc90, Arc90, qc90, Sc90, Nc90, Hc90, Gc90⟩ := Vc90
  have hin91 : ¬ ((3 : Int32) < 0 ∨ clc90.slots.size ≤ ((3 : Int32)).toNatClampNeg) := inb_of Sc90 ⟨by decide, by decide⟩
  obtain ⟨T92, h92, X92, e92, W92, st92⟩ := stB X86 hx hZ e86 Arc90 (j := (3 : Int32)) hin91 (g := (mkF m 22 #[.val (.int p1), .val (.int p2), .val (.int p3), .val (.int p4), .val (.int p5), .unset, .unset, .unset, .unset, .unset, .unset, .unset] [(.int (p4.toInt8.toInt32)), (.int (3 : Int32)), (.ref b68), (.ref b68)])) rfl rfl (hb hby at_22)
  have V92 : Arv Z h92 b68 k68 .byte (4 : Int32) [(.int (nar .byte (p1.toInt8.toInt32))), (.int (nar .byte (p2.toInt8.toInt32))), (.int (nar .byte (p3.toInt8.toInt32))), (.int (nar .byte (p4.toInt8.toInt32)))] (.int (0 : Int32)) := Arv.set Arc90 qc90 Sc90 Nc90 Hc90 Gc90 (fits_nar_byte _) W92 3 rfl (Nat.le_of_ble_eq_true rfl)
  have z93 : n0 ≤ h92.size := Nat.le_trans z87 (Keep.of_wr W92).1
  have f94 := f88.wr W92 g69
  have N92 := Fr.snoc X92 N86 g69
  refine Goes.of st92 ?_
  show Goes p e below (T92.setTop (mkF m 23 #[.val (.int p1), .val (.int p2), .val (.int p3), .val (.int p4), .val (.int p5), .unset, .unset, .unset, .unset, .unset, .unset, .unset] [(.ref b68)])) _
  refine Goes.of (fun t k => XS.astore X92.here hx rfl (hb hby at_23) rfl rfl (l' := #[.val (.int p1), .val (.int p2), .val (.int p3), .val (.int p4), .val (.int p5), .val (.ref b68), .unset, .unset, .unset, .unset, .unset, .unset]) rfl k) ?_
  show Goes p e below (T92.setTop (mkF m 25 #[.val (.int p1), .val (.int p2), .val (.int p3), .val (.int p4), .val (.int p5), .val (.ref b68), .unset, .unset, .unset, .unset, .unset, .unset] [])) _
  refine Goes.of (fun t k => XS.iload X92.here hx rfl (hb hby at_25) rfl k) ?_
  show Goes p e below (T92.setTop (mkF m 27 #[.val (.int p1), .val (.int p2), .val (.int p3), .val (.int p4), .val (.int p5), .val (.ref b68), .unset, .unset, .unset, .unset, .unset, .unset] [(.int p5)])) _
  refine Goes.of (fun t k => XS.iconst X92.here hx rfl (hb hby at_27) k) ?_
  show Goes p e below (T92.setTop (mkF m 28 #[.val (.int p1), .val (.int p2), .val (.int p3), .val (.int p4), .val (.int p5), .val (.ref b68), .unset, .unset, .unset, .unset, .unset, .unset] [(.int (3 : Int32)), (.int p5)])) _
  refine Goes.of (fun t k => XS.iand X92.here hx rfl (hb hby at_28) rfl k) ?_
  show Goes p e below (T92.setTop (mkF m 29 #[.val (.int p1), .val (.int p2), .val (.int p3), .val (.int p4), .val (.int p5), .val (.ref b68), .unset, .unset, .unset, .unset, .unset, .unset] [(.int (p5 &&& (3 : Int32)))])) _
  refine Goes.of (fun t k => XS.istore X92.here hx rfl (hb hby at_29) rfl (l' := #[.val (.int p1), .val (.int p2), .val (.int p3), .val (.int p4), .val (.int p5), .val (.ref b68), .val (.int (p5 &&& (3 : Int32))), .unset, .unset, .unset, .unset, .unset]) rfl k) ?_
  show Goes p e below (T92.setTop (mkF m 31 #[.val (.int p1), .val (.int p2), .val (.int p3), .val (.int p4), .val (.int p5), .val (.ref b68), .val (.int (p5 &&& (3 : Int32))), .unset, .unset, .unset, .unset, .unset] [])) _
  obtain ⟨st, est⟩ : ∃ z : Int32, z = (p5 &&& (3 : Int32)) := ⟨_, rfl⟩
  have bs : 0 ≤ st.toInt ∧ st.toInt ≤ 3 := by rw [est]; exact own_st p5
  rw [← est]
  show Goes p e below (T92.setTop (mkF m 31 #[.val (.int p1), .val (.int p2), .val (.int p3), .val (.int p4), .val (.int p5), .val (.ref b68), .val (.int st), .unset, .unset, .unset, .unset, .unset] [])) _
  refine Goes.of (fun t k => XS.iload X92.here hx rfl (hb hby at_31) rfl k) ?_
  show Goes p e below (T92.setTop (mkF m 33 #[.val (.int p1), .val (.int p2), .val (.int p3), .val (.int p4), .val (.int p5), .val (.ref b68), .val (.int st), .unset, .unset, .unset, .unset, .unset] [(.int p5)])) _
  refine Goes.of (fun t k => XS.iconst X92.here hx rfl (hb hby at_33) k) ?_
  show Goes p e below (T92.setTop (mkF m 34 #[.val (.int p1), .val (.int p2), .val (.int p3), .val (.int p4), .val (.int p5), .val (.ref b68), .val (.int st), .unset, .unset, .unset, .unset, .unset] [(.int (2 : Int32)), (.int p5)])) _
  refine Goes.of (fun t k => XS.iushr X92.here hx rfl (hb hby at_34) rfl k) ?_
  show Goes p e below (T92.setTop (mkF m 35 #[.val (.int p1), .val (.int p2), .val (.int p3), .val (.int p4), .val (.int p5), .val (.ref b68), .val (.int st), .unset, .unset, .unset, .unset, .unset] [(.int ((p5.toUInt32 >>> ((2 : Int32) &&& 31).toUInt32).toInt32))])) _
  refine Goes.of (fun t k => XS.bipush X92.here hx rfl (hb hby at_35) k) ?_
  show Goes p e below (T92.setTop (mkF m 37 #[.val (.int p1), .val (.int p2), .val (.int p3), .val (.int p4), .val (.int p5), .val (.ref b68), .val (.int st), .unset, .unset, .unset, .unset, .unset] [(.int (7 : Int32)), (.int ((p5.toUInt32 >>> ((2 : Int32) &&& 31).toUInt32).toInt32))])) _
  refine Goes.of (fun t k => XS.iand X92.here hx rfl (hb hby at_37) rfl k) ?_
  show Goes p e below (T92.setTop (mkF m 38 #[.val (.int p1), .val (.int p2), .val (.int p3), .val (.int p4), .val (.int p5), .val (.ref b68), .val (.int st), .unset, .unset, .unset, .unset, .unset] [(.int (((p5.toUInt32 >>> ((2 : Int32) &&& 31).toUInt32).toInt32) &&& (7 : Int32)))])) _
  refine Goes.of (fun t k => XS.iconst X92.here hx rfl (hb hby at_38) k) ?_
  show Goes p e below (T92.setTop (mkF m 39 #[.val (.int p1), .val (.int p2), .val (.int p3), .val (.int p4), .val (.int p5), .val (.ref b68), .val (.int st), .unset, .unset, .unset, .unset, .unset] [(.int (5 : Int32)), (.int (((p5.toUInt32 >>> ((2 : Int32) &&& 31).toUInt32).toInt32) &&& (7 : Int32)))])) _
  refine Goes.of (fun t k => XS.iload X92.here hx rfl (hb hby at_39) rfl k) ?_
  show Goes p e below (T92.setTop (mkF m 41 #[.val (.int p1), .val (.int p2), .val (.int p3), .val (.int p4), .val (.int p5), .val (.ref b68), .val (.int st), .unset, .unset, .unset, .unset, .unset] [(.int st), (.int (5 : Int32)), (.int (((p5.toUInt32 >>> ((2 : Int32) &&& 31).toUInt32).toInt32) &&& (7 : Int32)))])) _
  refine Goes.of (fun t k => XS.isub X92.here hx rfl (hb hby at_41) rfl k) ?_
  show Goes p e below (T92.setTop (mkF m 42 #[.val (.int p1), .val (.int p2), .val (.int p3), .val (.int p4), .val (.int p5), .val (.ref b68), .val (.int st), .unset, .unset, .unset, .unset, .unset] [(.int ((5 : Int32) - st)), (.int (((p5.toUInt32 >>> ((2 : Int32) &&& 31).toUInt32).toInt32) &&& (7 : Int32)))])) _
  refine Goes.of (fun t k => XS.irem X92.here hx rfl (hb hby at_42) rfl (own_nz (by rw [own_5 bs.1 bs.2]; omega)) k) ?_
  show Goes p e below (T92.setTop (mkF m 43 #[.val (.int p1), .val (.int p2), .val (.int p3), .val (.int p4), .val (.int p5), .val (.ref b68), .val (.int st), .unset, .unset, .unset, .unset, .unset] [(.int ((((p5.toUInt32 >>> ((2 : Int32) &&& 31).toUInt32).toInt32) &&& (7 : Int32)) - (((p5.toUInt32 >>> ((2 : Int32) &&& 31).toUInt32).toInt32) &&& (7 : Int32)) / ((5 : Int32) - st) * ((5 : Int32) - st)))])) _
  refine Goes.of (fun t k => XS.istore X92.here hx rfl (hb hby at_43) rfl (l' := #[.val (.int p1), .val (.int p2), .val (.int p3), .val (.int p4), .val (.int p5), .val (.ref b68), .val (.int st), .val (.int ((((p5.toUInt32 >>> ((2 : Int32) &&& 31).toUInt32).toInt32) &&& (7 : Int32)) - (((p5.toUInt32 >>> ((2 : Int32) &&& 31).toUInt32).toInt32) &&& (7 : Int32)) / ((5 : Int32) - st) * ((5 : Int32) - st))), .unset, .unset, .unset, .unset]) rfl k) ?_
  show Goes p e below (T92.setTop (mkF m 45 #[.val (.int p1), .val (.int p2), .val (.int p3), .val (.int p4), .val (.int p5), .val (.ref b68), .val (.int st), .val (.int ((((p5.toUInt32 >>> ((2 : Int32) &&& 31).toUInt32).toInt32) &&& (7 : Int32)) - (((p5.toUInt32 >>> ((2 : Int32) &&& 31).toUInt32).toInt32) &&& (7 : Int32)) / ((5 : Int32) - st) * ((5 : Int32) - st))), .unset, .unset, .unset, .unset] [])) _
  obtain ⟨ln, eln⟩ : ∃ z : Int32, z = ((((p5.toUInt32 >>> ((2 : Int32) &&& 31).toUInt32).toInt32) &&& (7 : Int32)) - (((p5.toUInt32 >>> ((2 : Int32) &&& 31).toUInt32).toInt32) &&& (7 : Int32)) / ((5 : Int32) - st) * ((5 : Int32) - st)) := ⟨_, rfl⟩
  have bl : 0 ≤ ln.toInt ∧ ln.toInt ≤ 4 - st.toInt := by rw [eln]; exact own_ln _ bs.1 bs.2
  rw [← eln]
  show Goes p e below (T92.setTop (mkF m 45 #[.val (.int p1), .val (.int p2), .val (.int p3), .val (.int p4), .val (.int p5), .val (.ref b68), .val (.int st), .val (.int ln), .unset, .unset, .unset, .unset] [])) _
  have hsum := own_sum bs.1 bl.1 bl.2
  refine Goes.of (fun t k => XS.iload X92.here hx rfl (hb hby at_45) rfl k) ?_
  show Goes p e below (T92.setTop (mkF m 47 #[.val (.int p1), .val (.int p2), .val (.int p3), .val (.int p4), .val (.int p5), .val (.ref b68), .val (.int st), .val (.int ln), .unset, .unset, .unset, .unset] [(.int st)])) _
  refine Goes.of (fun t k => XS.iload X92.here hx rfl (hb hby at_47) rfl k) ?_
  show Goes p e below (T92.setTop (mkF m 49 #[.val (.int p1), .val (.int p2), .val (.int p3), .val (.int p4), .val (.int p5), .val (.ref b68), .val (.int st), .val (.int ln), .unset, .unset, .unset, .unset] [(.int ln), (.int st)])) _
  refine Goes.of (fun t k => XS.iadd X92.here hx rfl (hb hby at_49) rfl k) ?_
  show Goes p e below (T92.setTop (mkF m 50 #[.val (.int p1), .val (.int p2), .val (.int p3), .val (.int p4), .val (.int p5), .val (.ref b68), .val (.int st), .val (.int ln), .unset, .unset, .unset, .unset] [(.int (st + ln))])) _
  refine Goes.of (fun t k => XS.istore X92.here hx rfl (hb hby at_50) rfl (l' := #[.val (.int p1), .val (.int p2), .val (.int p3), .val (.int p4), .val (.int p5), .val (.ref b68), .val (.int st), .val (.int ln), .val (.int (st + ln)), .unset, .unset, .unset]) rfl k) ?_
  show Goes p e below (T92.setTop (mkF m 52 #[.val (.int p1), .val (.int p2), .val (.int p3), .val (.int p4), .val (.int p5), .val (.ref b68), .val (.int st), .val (.int ln), .val (.int (st + ln)), .unset, .unset, .unset] [])) _
  obtain ⟨T96, h96, X96, e96, E96, A96, D96, -, st96⟩ := newO X92 hx hZ hown (hw _ (List.mem_of_getElem? (i := 1) rfl)) (hw _ (List.mem_of_getElem? (i := 2) rfl)) (hw _ (List.mem_of_getElem? (i := 3) rfl)) e92 (g := (mkF m 52 #[.val (.int p1), .val (.int p2), .val (.int p3), .val (.int p4), .val (.int p5), .val (.ref b68), .val (.int st), .val (.int ln), .val (.int (st + ln)), .unset, .unset, .unset] [])) rfl (hb hby at_52) (by decide) (by decide)
  obtain ⟨b96, g96⟩ : ∃ z, z = h92.size := ⟨_, rfl⟩
  rw [← g96] at A96 D96 st96
  have g97 : n0 ≤ b96 := Nat.le_trans z93 (Nat.le_of_eq g96.symm)
  have z98 : n0 ≤ h96.size := Nat.le_trans z93 E96.1
  have q99 : b68 ≠ b96 := Nat.ne_of_lt (Nat.lt_of_lt_of_le V92.lt (Nat.le_of_eq g96.symm))
  have f100 := f94.ext E96
  have f101 := V92.ext E96
  have f102 : Fld Z h96 b96 "com/example/entries_on_wire/entriesonwire/store/Key" "bytes" "[B" .null := D96 (Or.inl (hw _ (List.mem_of_getElem? (i := 16) rfl))) (ty := (.array .byte)) (by decide)
  have f103 : Fld Z h96 b96 "com/example/entries_on_wire/entriesonwire/store/Key" "start" "I" (.int (0 : Int32)) := D96 (Or.inl (hw _ (List.mem_of_getElem? (i := 18) rfl))) (ty := .int) (by decide)
  have f104 : Fld Z h96 b96 "com/example/entries_on_wire/entriesonwire/store/Key" "end" "I" (.int (0 : Int32)) := D96 (Or.inl (hw _ (List.mem_of_getElem? (i := 20) rfl))) (ty := .int) (by decide)
  refine Goes.of st96 ?_
  show Goes p e below (T96.setTop (mkF m 55 #[.val (.int p1), .val (.int p2), .val (.int p3), .val (.int p4), .val (.int p5), .val (.ref b68), .val (.int st), .val (.int ln), .val (.int (st + ln)), .unset, .unset, .unset] [(.ref b96)])) _
  refine Goes.of (fun t k => XS.dup X96.here hx rfl (hb hby at_55) rfl rfl k) ?_
  show Goes p e below (T96.setTop (mkF m 56 #[.val (.int p1), .val (.int p2), .val (.int p3), .val (.int p4), .val (.int p5), .val (.ref b68), .val (.int st), .val (.int ln), .val (.int (st + ln)), .unset, .unset, .unset] [(.ref b96), (.ref b96)])) _
  obtain ⟨_, _, ⟨T105, L105, k105, n105⟩, -, X105, ⟨Lc105, hQ105, l105, y105, z105⟩, st105⟩ := X96.specialBack hx (y := (⟨"com/example/entries_on_wire/entriesonwire/store/Key", "<init>", "()V"⟩ : MethodName)) rfl hown (mvT hZ (hw _ (List.mem_of_getElem? (i := 4) rfl))) (mvT hZ (hw _ (List.mem_of_getElem? (i := 5) rfl))) (mvT hZ (hw _ (List.mem_of_getElem? (i := 6) rfl))) (by decide) (backOf (W := 1) (rm1 l Z a0 hw [] b96 aN h96 n0 z98 f100 SN A96 g97 f102 f103 f104) hZ (hw _ (List.mem_of_getElem? (i := 6) rfl)) (hw _ (List.mem_of_getElem? (i := 3) rfl)) (by decide) (by decide)) (g := (mkF m 56 #[.val (.int p1), .val (.int p2), .val (.int p3), .val (.int p4), .val (.int p5), .val (.ref b68), .val (.int st), .val (.int ln), .val (.int (st + ln)), .unset, .unset, .unset] [(.ref b96), (.ref b96)])) rfl (by rw [hml]; rfl) (Steps.refl _) (a := b96) (argsL := []) (rest := [(.ref b96)]) (lenOf pd_3 rfl) rfl (by show 2 * 0 + _ ≤ _; exact Nat.le_of_eq rfl) (hb hby at_56) (fun _ _ => ⟨rfl, e96, (by decide : 2 + 0 ≤ _), (by decide : 7 + 0 ≤ _)⟩)
  dsimp only [Pt.U, Pt.locs, Pt.cells, Pt.slots] at X105 l105 y105 z105 st105 hQ105
  subst l105 y105 z105
  obtain ⟨rfl, N105q, K105, E105, F105_bytes, F105_start, F105_end⟩ := hQ105
  have N105 := Fr.app N92 N105q
  have z106 : n0 ≤ T105.heap.size := Nat.le_trans z98 K105.1
  have f107 := f100.keep K105 (allS g97 all0)
  have f108 := f101.keep K105 (ninS q99 nin0)
  have f109 := A96.keep K105
  refine Goes.of (fun t k => st105.trans k) ?_
  show Goes p e below (T105.setTop (mkF m 59 #[.val (.int p1), .val (.int p2), .val (.int p3), .val (.int p4), .val (.int p5), .val (.ref b68), .val (.int st), .val (.int ln), .val (.int (st + ln)), .unset, .unset, .unset] [(.ref b96)])) _
  refine Goes.of (fun t k => XS.aload X105.here hx rfl (hb hby at_59) rfl rfl k) ?_
  show Goes p e below (T105.setTop (mkF m 61 #[.val (.int p1), .val (.int p2), .val (.int p3), .val (.int p4), .val (.int p5), .val (.ref b68), .val (.int st), .val (.int ln), .val (.int (st + ln)), .unset, .unset, .unset] [(.ref b68), (.ref b96)])) _
  refine Goes.of (fun t k => XS.iload X105.here hx rfl (hb hby at_61) rfl k) ?_
  show Goes p e below (T105.setTop (mkF m 63 #[.val (.int p1), .val (.int p2), .val (.int p3), .val (.int p4), .val (.int p5), .val (.ref b68), .val (.int st), .val (.int ln), .val (.int (st + ln)), .unset, .unset, .unset] [(.int st), (.ref b68), (.ref b96)])) _
  refine Goes.of (fun t k => XS.iload X105.here hx rfl (hb hby at_63) rfl k) ?_
  show Goes p e below (T105.setTop (mkF m 65 #[.val (.int p1), .val (.int p2), .val (.int p3), .val (.int p4), .val (.int p5), .val (.ref b68), .val (.int st), .val (.int ln), .val (.int (st + ln)), .unset, .unset, .unset] [(.int (st + ln)), (.int st), (.ref b68), (.ref b96)])) _
  obtain ⟨cq113, kq113, q113a, q113b, q113c⟩ := isOf hZ rfl f109
  obtain ⟨_, _, ⟨T113, L113, k113, n113⟩, -, X113, ⟨Lc113, hQ113, l113, y113, z113⟩, st113⟩ := X105.virtualBack hx (y := (⟨"com/example/entries_on_wire/entriesonwire/store/Key", "pointAt", "([BII)Lcom/example/entries_on_wire/entriesonwire/store/Key;"⟩ : MethodName)) (z := (⟨"com/example/entries_on_wire/entriesonwire/store/Key", "pointAt", "([BII)Lcom/example/entries_on_wire/entriesonwire/store/Key;"⟩ : MethodName)) hown (mvT hZ (hw _ (List.mem_of_getElem? (i := 21) rfl))) (mvT hZ (hw _ (List.mem_of_getElem? (i := 22) rfl))) (notFace_of_selects (args := #[]) (mvT hZ (hw _ (List.mem_of_getElem? (i := 24) rfl)))) (mvT hZ (hw _ (List.mem_of_getElem? (i := 24) rfl))) (mvT hZ (hw _ (List.mem_of_getElem? (i := 23) rfl))) (by decide) (backOf (W := 0) (rm4 l Z a0 hw [] b96 b68 st (st + ln) _ _ _ T105.heap n0 z106 f109 g97 F105_bytes F105_start F105_end) hZ (hw _ (List.mem_of_getElem? (i := 25) rfl)) (hw _ (List.mem_of_getElem? (i := 3) rfl)) (by decide) (by decide)) q113a q113c (g := (mkF m 65 #[.val (.int p1), .val (.int p2), .val (.int p3), .val (.int p4), .val (.int p5), .val (.ref b68), .val (.int st), .val (.int ln), .val (.int (st + ln)), .unset, .unset, .unset] [(.int (st + ln)), (.int st), (.ref b68), (.ref b96)])) rfl (by rw [hml]; rfl) (Steps.refl _) (argsL := [(.ref b68), (.int st), (.int (st + ln))]) (rest := []) (lenOf pd_4 rfl) rfl (by show 2 * 0 + _ ≤ _; exact Nat.le_of_eq rfl) (hb hby at_65) (fun _ _ => ⟨rfl, rfl, (by decide : 2 + 0 ≤ _), (by decide : 7 + 0 ≤ _)⟩)
  dsimp only [Pt.U, Pt.locs, Pt.cells, Pt.slots] at X113 l113 y113 z113 st113 hQ113
  subst l113 y113 z113
  obtain ⟨rfl, N113q, K113, E113, F113_bytes, F113_start, F113_end⟩ := hQ113
  have N113 := Fr.app N105 N113q
  have z114 : n0 ≤ T113.heap.size := Nat.le_trans z106 K113.1
  have f115 := f107.keep K113 (allS g97 all0)
  have f116 := f108.keep K113 (ninS q99 nin0)
  have f117 := f109.keep K113
  refine Goes.of (fun t k => st113.trans k) ?_
  show Goes p e below (T113.setTop (mkF m 68 #[.val (.int p1), .val (.int p2), .val (.int p3), .val (.int p4), .val (.int p5), .val (.ref b68), .val (.int st), .val (.int ln), .val (.int (st + ln)), .unset, .unset, .unset] [(.ref b96)])) _
  refine Goes.of (fun t k => XS.astore X113.here hx rfl (hb hby at_68) rfl rfl (l' := #[.val (.int p1), .val (.int p2), .val (.int p3), .val (.int p4), .val (.int p5), .val (.ref b68), .val (.int st), .val (.int ln), .val (.int (st + ln)), .val (.ref b96), .unset, .unset]) rfl k) ?_
  show Goes p e below (T113.setTop (mkF m 70 #[.val (.int p1), .val (.int p2), .val (.int p3), .val (.int p4), .val (.int p5), .val (.ref b68), .val (.int st), .val (.int ln), .val (.int (st + ln)), .val (.ref b96), .unset, .unset] [])) _
  refine Goes.of (fun t k => XS.aload X113.here hx rfl (hb hby at_70) rfl rfl k) ?_
  show Goes p e below (T113.setTop (mkF m 72 #[.val (.int p1), .val (.int p2), .val (.int p3), .val (.int p4), .val (.int p5), .val (.ref b68), .val (.int st), .val (.int ln), .val (.int (st + ln)), .val (.ref b96), .unset, .unset] [(.ref b96)])) _
  obtain ⟨c0, ec0⟩ : ∃ z : Int32, z = (nar .byte (p1.toInt8.toInt32)) := ⟨_, rfl⟩
  obtain ⟨c1, ec1⟩ : ∃ z : Int32, z = (nar .byte (p2.toInt8.toInt32)) := ⟨_, rfl⟩
  obtain ⟨c2, ec2⟩ : ∃ z : Int32, z = (nar .byte (p3.toInt8.toInt32)) := ⟨_, rfl⟩
  obtain ⟨c3, ec3⟩ : ∃ z : Int32, z = (nar .byte (p4.toInt8.toInt32)) := ⟨_, rfl⟩
  rw [← ec0, ← ec1, ← ec2, ← ec3] at f116
  obtain ⟨cq121, kq121, q121a, q121b, q121c⟩ := isOf hZ rfl f117
  obtain ⟨_, _, ⟨T121, L121, k121, n121⟩, -, X121, ⟨Lc121, hQ121, l121, y121, z121⟩, st121⟩ := X113.virtualBack hx (y := (⟨"com/example/entries_on_wire/entriesonwire/store/Key", "hashCode", "()I"⟩ : MethodName)) (z := (⟨"com/example/entries_on_wire/entriesonwire/store/Key", "hashCode", "()I"⟩ : MethodName)) hown (mvT hZ (hw _ (List.mem_of_getElem? (i := 26) rfl))) (mvT hZ (hw _ (List.mem_of_getElem? (i := 27) rfl))) (notFace_of_selects (args := #[]) (mvT hZ (hw _ (List.mem_of_getElem? (i := 29) rfl)))) (mvT hZ (hw _ (List.mem_of_getElem? (i := 29) rfl))) (mvT hZ (hw _ (List.mem_of_getElem? (i := 28) rfl))) (by decide) (backOf (W := 0) (rm5 l Z a0 hw [] b96 b68 _ _ _ c0 c1 c2 c3 T113.heap n0 z114 F113_bytes F113_start F113_end f116 bs.1 (by omega) (by omega)) hZ (hw _ (List.mem_of_getElem? (i := 30) rfl)) (hw _ (List.mem_of_getElem? (i := 3) rfl)) (by decide) (by decide)) q121a q121c (g := (mkF m 72 #[.val (.int p1), .val (.int p2), .val (.int p3), .val (.int p4), .val (.int p5), .val (.ref b68), .val (.int st), .val (.int ln), .val (.int (st + ln)), .val (.ref b96), .unset, .unset] [(.ref b96)])) rfl (by rw [hml]; rfl) (Steps.refl _) (argsL := []) (rest := []) (lenOf pd_5 rfl) rfl (by show 2 * 0 + _ ≤ _; exact Nat.le_of_eq rfl) (hb hby at_72) (fun _ _ => ⟨rfl, rfl, (by decide : 2 + 0 ≤ _), (by decide : 7 + 0 ≤ _)⟩)
  dsimp only [Pt.U, Pt.locs, Pt.cells, Pt.slots] at X121 l121 y121 z121 st121 hQ121
  subst l121 y121 z121
  obtain ⟨rfl, N121q, e121⟩ := hQ121
  have N121 := Fr.app N113 N121q
  refine Goes.of (fun t k => st121.trans k) ?_
  show Goes p e below (T121.setTop (mkF m 75 #[.val (.int p1), .val (.int p2), .val (.int p3), .val (.int p4), .val (.int p5), .val (.ref b68), .val (.int st), .val (.int ln), .val (.int (st + ln)), .val (.ref b96), .unset, .unset] [(.int (own_hash (own_b c0 c1 c2 c3) st.toNatClampNeg ((st + ln).toInt - st.toInt).toNat 1))])) _
  refine Goes.of (fun t k => XS.istore X121.here hx rfl (hb hby at_75) rfl (l' := #[.val (.int p1), .val (.int p2), .val (.int p3), .val (.int p4), .val (.int p5), .val (.ref b68), .val (.int st), .val (.int ln), .val (.int (st + ln)), .val (.ref b96), .val (.int (own_hash (own_b c0 c1 c2 c3) st.toNatClampNeg ((st + ln).toInt - st.toInt).toNat 1)), .unset]) rfl k) ?_
  show Goes p e below (T121.setTop (mkF m 77 #[.val (.int p1), .val (.int p2), .val (.int p3), .val (.int p4), .val (.int p5), .val (.ref b68), .val (.int st), .val (.int ln), .val (.int (st + ln)), .val (.ref b96), .val (.int (own_hash (own_b c0 c1 c2 c3) st.toNatClampNeg ((st + ln).toInt - st.toInt).toNat 1)), .unset] [])) _
  refine Goes.of (fun t k => XS.iload X121.here hx rfl (hb hby at_77) rfl k) ?_
  show Goes p e below (T121.setTop (mkF m 79 #[.val (.int p1), .val (.int p2), .val (.int p3), .val (.int p4), .val (.int p5), .val (.ref b68), .val (.int st), .val (.int ln), .val (.int (st + ln)), .val (.ref b96), .val (.int (own_hash (own_b c0 c1 c2 c3) st.toNatClampNeg ((st + ln).toInt - st.toInt).toNat 1)), .unset] [(.int ln)])) _
  obtain ⟨f, ef⟩ : ∃ z : Nat → Int32, z = own_b c0 c1 c2 c3 := ⟨_, rfl⟩
  by_cases hc79_122 : ln = (0 : Int32)
  · refine Goes.of (fun t k => XS.ifNo X121.here hx rfl (hb hby at_79) rfl ((if0 _ _).trans (teq hc79_122).2) k) ?_
    show Goes p e below (T121.setTop (mkF m 82 #[.val (.int p1), .val (.int p2), .val (.int p3), .val (.int p4), .val (.int p5), .val (.ref b68), .val (.int st), .val (.int ln), .val (.int (st + ln)), .val (.ref b96), .val (.int (own_hash (own_b c0 c1 c2 c3) st.toNatClampNeg ((st + ln).toInt - st.toInt).toNat 1)), .unset] [])) _
    have kl0 : ln.toInt = 0 := by rw [hc79_122]; decide
    refine Goes.of (fun t k => XS.iconst X121.here hx rfl (hb hby at_82) k) ?_
    show Goes p e below (T121.setTop (mkF m 83 #[.val (.int p1), .val (.int p2), .val (.int p3), .val (.int p4), .val (.int p5), .val (.ref b68), .val (.int st), .val (.int ln), .val (.int (st + ln)), .val (.ref b96), .val (.int (own_hash (own_b c0 c1 c2 c3) st.toNatClampNeg ((st + ln).toInt - st.toInt).toNat 1)), .unset] [(.int (1 : Int32))])) _
    refine Goes.of (fun t k => XS.istore X121.here hx rfl (hb hby at_83) rfl (l' := #[.val (.int p1), .val (.int p2), .val (.int p3), .val (.int p4), .val (.int p5), .val (.ref b68), .val (.int st), .val (.int ln), .val (.int (st + ln)), .val (.ref b96), .val (.int (own_hash (own_b c0 c1 c2 c3) st.toNatClampNeg ((st + ln).toInt - st.toInt).toNat 1)), .val (.int (1 : Int32))]) rfl k) ?_
    show Goes p e below (T121.setTop (mkF m 85 #[.val (.int p1), .val (.int p2), .val (.int p3), .val (.int p4), .val (.int p5), .val (.ref b68), .val (.int st), .val (.int ln), .val (.int (st + ln)), .val (.ref b96), .val (.int (own_hash (own_b c0 c1 c2 c3) st.toNatClampNeg ((st + ln).toInt - st.toInt).toNat 1)), .val (.int (1 : Int32))] [])) _
    refine Goes.of (fun t k => XS.goto X121.here hx rfl (pc0 := 85) (pc' := 226) rfl (hb hby at_85) (by decide) (by decide) k) ?_
    show Goes p e below (T121.setTop (mkF m 226 #[.val (.int p1), .val (.int p2), .val (.int p3), .val (.int p4), .val (.int p5), .val (.ref b68), .val (.int st), .val (.int ln), .val (.int (st + ln)), .val (.ref b96), .val (.int (own_hash (own_b c0 c1 c2 c3) st.toNatClampNeg ((st + ln).toInt - st.toInt).toNat 1)), .val (.int (1 : Int32))] [])) _
    refine Goes.of (fun t k => XS.iload X121.here hx rfl (hb hby at_226) rfl k) ?_
    show Goes p e below (T121.setTop (mkF m 228 #[.val (.int p1), .val (.int p2), .val (.int p3), .val (.int p4), .val (.int p5), .val (.ref b68), .val (.int st), .val (.int ln), .val (.int (st + ln)), .val (.ref b96), .val (.int (own_hash (own_b c0 c1 c2 c3) st.toNatClampNeg ((st + ln).toInt - st.toInt).toNat 1)), .val (.int (1 : Int32))] [(.int (own_hash (own_b c0 c1 c2 c3) st.toNatClampNeg ((st + ln).toInt - st.toInt).toNat 1))])) _
    refine Goes.of (fun t k => XS.iload X121.here hx rfl (hb hby at_228) rfl k) ?_
    show Goes p e below (T121.setTop (mkF m 230 #[.val (.int p1), .val (.int p2), .val (.int p3), .val (.int p4), .val (.int p5), .val (.ref b68), .val (.int st), .val (.int ln), .val (.int (st + ln)), .val (.ref b96), .val (.int (own_hash (own_b c0 c1 c2 c3) st.toNatClampNeg ((st + ln).toInt - st.toInt).toNat 1)), .val (.int (1 : Int32))] [(.int (1 : Int32)), (.int (own_hash (own_b c0 c1 c2 c3) st.toNatClampNeg ((st + ln).toInt - st.toInt).toNat 1))])) _
    have hd230_123 : (own_hash (own_b c0 c1 c2 c3) st.toNatClampNeg ((st + ln).toInt - st.toInt).toNat 1) = (1 : Int32) := by
      have en : ((st + ln).toInt - st.toInt).toNat = 0 := by omega
      rw [en]; simp only [own_hash]
    refine Goes.of (fun t k => XS.icmpNo X121.here hx rfl (hb hby at_230) rfl (teq hd230_123).2 k) ?_
    show Goes p e below (T121.setTop (mkF m 233 #[.val (.int p1), .val (.int p2), .val (.int p3), .val (.int p4), .val (.int p5), .val (.ref b68), .val (.int st), .val (.int ln), .val (.int (st + ln)), .val (.ref b96), .val (.int (own_hash (own_b c0 c1 c2 c3) st.toNatClampNeg ((st + ln).toInt - st.toInt).toNat 1)), .val (.int (1 : Int32))] [])) _
    refine Goes.of (fun t k => XS.iconst X121.here hx rfl (hb hby at_233) k) ?_
    show Goes p e below (T121.setTop (mkF m 234 #[.val (.int p1), .val (.int p2), .val (.int p3), .val (.int p4), .val (.int p5), .val (.ref b68), .val (.int st), .val (.int ln), .val (.int (st + ln)), .val (.ref b96), .val (.int (own_hash (own_b c0 c1 c2 c3) st.toNatClampNeg ((st + ln).toInt - st.toInt).toNat 1)), .val (.int (1 : Int32))] [(.int (1 : Int32))])) _
    refine Goes.of (fun t k => XS.goto X121.here hx rfl (pc0 := 234) (pc' := 238) rfl (hb hby at_234) (by decide) (by decide) k) ?_
    show Goes p e below (T121.setTop (mkF m 238 #[.val (.int p1), .val (.int p2), .val (.int p3), .val (.int p4), .val (.int p5), .val (.ref b68), .val (.int st), .val (.int ln), .val (.int (st + ln)), .val (.ref b96), .val (.int (own_hash (own_b c0 c1 c2 c3) st.toNatClampNeg ((st + ln).toInt - st.toInt).toNat 1)), .val (.int (1 : Int32))] [(.int (1 : Int32))])) _
    exact Goes.retN (t := .boolean) X121 hx Bd.returns (by simp) hlocks (hb hby at_238) (⟨rfl, N121⟩) (by decide) (by decide)
  · refine Goes.of (fun t k => XS.ifYes X121.here hx rfl (pc0 := 79) (pc' := 88) rfl (hb hby at_79) rfl ((if0 _ _).trans (feq hc79_122).2) (by decide) (by decide) k) ?_
    show Goes p e below (T121.setTop (mkF m 88 #[.val (.int p1), .val (.int p2), .val (.int p3), .val (.int p4), .val (.int p5), .val (.ref b68), .val (.int st), .val (.int ln), .val (.int (st + ln)), .val (.ref b96), .val (.int (own_hash (own_b c0 c1 c2 c3) st.toNatClampNeg ((st + ln).toInt - st.toInt).toNat 1)), .unset] [])) _
    have nl0 : ln.toInt ≠ 0 := fun q => hc79_122 (Int32.toInt_inj.mp (by rw [q]; decide))
    refine Goes.of (fun t k => XS.iload X121.here hx rfl (hb hby at_88) rfl k) ?_
    show Goes p e below (T121.setTop (mkF m 90 #[.val (.int p1), .val (.int p2), .val (.int p3), .val (.int p4), .val (.int p5), .val (.ref b68), .val (.int st), .val (.int ln), .val (.int (st + ln)), .val (.ref b96), .val (.int (own_hash (own_b c0 c1 c2 c3) st.toNatClampNeg ((st + ln).toInt - st.toInt).toNat 1)), .unset] [(.int ln)])) _
    refine Goes.of (fun t k => XS.iconst X121.here hx rfl (hb hby at_90) k) ?_
    show Goes p e below (T121.setTop (mkF m 91 #[.val (.int p1), .val (.int p2), .val (.int p3), .val (.int p4), .val (.int p5), .val (.ref b68), .val (.int st), .val (.int ln), .val (.int (st + ln)), .val (.ref b96), .val (.int (own_hash (own_b c0 c1 c2 c3) st.toNatClampNeg ((st + ln).toInt - st.toInt).toNat 1)), .unset] [(.int (1 : Int32)), (.int ln)])) _
    by_cases hc91_124 : ln = (1 : Int32)
    · refine Goes.of (fun t k => XS.icmpNo X121.here hx rfl (hb hby at_91) rfl (teq hc91_124).2 k) ?_
      show Goes p e below (T121.setTop (mkF m 94 #[.val (.int p1), .val (.int p2), .val (.int p3), .val (.int p4), .val (.int p5), .val (.ref b68), .val (.int st), .val (.int ln), .val (.int (st + ln)), .val (.ref b96), .val (.int (own_hash (own_b c0 c1 c2 c3) st.toNatClampNeg ((st + ln).toInt - st.toInt).toNat 1)), .unset] [])) _
      have kl1 : ln.toInt = 1 := by rw [hc91_124]; decide
      refine Goes.of (fun t k => XS.bipush X121.here hx rfl (hb hby at_94) k) ?_
      show Goes p e below (T121.setTop (mkF m 96 #[.val (.int p1), .val (.int p2), .val (.int p3), .val (.int p4), .val (.int p5), .val (.ref b68), .val (.int st), .val (.int ln), .val (.int (st + ln)), .val (.ref b96), .val (.int (own_hash (own_b c0 c1 c2 c3) st.toNatClampNeg ((st + ln).toInt - st.toInt).toNat 1)), .unset] [(.int (31 : Int32))])) _
      refine Goes.of (fun t k => XS.aload X121.here hx rfl (hb hby at_96) rfl rfl k) ?_
      show Goes p e below (T121.setTop (mkF m 98 #[.val (.int p1), .val (.int p2), .val (.int p3), .val (.int p4), .val (.int p5), .val (.ref b68), .val (.int st), .val (.int ln), .val (.int (st + ln)), .val (.ref b96), .val (.int (own_hash (own_b c0 c1 c2 c3) st.toNatClampNeg ((st + ln).toInt - st.toInt).toNat 1)), .unset] [(.ref b68), (.int (31 : Int32))])) _
      refine Goes.of (fun t k => XS.iload X121.here hx rfl (hb hby at_98) rfl k) ?_
      show Goes p e below (T121.setTop (mkF m 100 #[.val (.int p1), .val (.int p2), .val (.int p3), .val (.int p4), .val (.int p5), .val (.ref b68), .val (.int st), .val (.int ln), .val (.int (st + ln)), .val (.ref b96), .val (.int (own_hash (own_b c0 c1 c2 c3) st.toNatClampNeg ((st + ln).toInt - st.toInt).toNat 1)), .unset] [(.int st), (.ref b68), (.int (31 : Int32))])) _
      have Vc125 := f116
      obtain ⟨clc125, Arc125, qc125, Sc125, Nc125, Hc125, Gc125⟩ := Vc125
      have hin126 : ¬ (st < 0 ∨ clc125.slots.size ≤ (st).toNatClampNeg) := inb_of Sc125 (own_in4 (by omega) (by omega))
      have hat127 : clc125.slots[(st).toNatClampNeg]? = some (.int (own_b c0 c1 c2 c3 (st).toNatClampNeg)) := Hc125.at hin126 (own_getD [c0, c1, c2, c3] _)
      refine Goes.of (fun t k => X121.baloadBytes hx (j := st) (v := (.int (own_b c0 c1 c2 c3 (st).toNatClampNeg))) (by rw [e121]; exact Arc125.1) (State.isArrayOf_alike hZ.alike Arc125.2.1) Arc125.2.2 hin126 hat127 (g := (mkF m 100 #[.val (.int p1), .val (.int p2), .val (.int p3), .val (.int p4), .val (.int p5), .val (.ref b68), .val (.int st), .val (.int ln), .val (.int (st + ln)), .val (.ref b96), .val (.int (own_hash (own_b c0 c1 c2 c3) st.toNatClampNeg ((st + ln).toInt - st.toInt).toNat 1)), .unset] [(.int st), (.ref b68), (.int (31 : Int32))])) rfl rfl (hb hby at_100) _ k) ?_
      show Goes p e below (T121.setTop (mkF m 101 #[.val (.int p1), .val (.int p2), .val (.int p3), .val (.int p4), .val (.int p5), .val (.ref b68), .val (.int st), .val (.int ln), .val (.int (st + ln)), .val (.ref b96), .val (.int (own_hash (own_b c0 c1 c2 c3) st.toNatClampNeg ((st + ln).toInt - st.toInt).toNat 1)), .unset] [(.int (own_b c0 c1 c2 c3 (st).toNatClampNeg)), (.int (31 : Int32))])) _
      refine Goes.of (fun t k => XS.iadd X121.here hx rfl (hb hby at_101) rfl k) ?_
      show Goes p e below (T121.setTop (mkF m 102 #[.val (.int p1), .val (.int p2), .val (.int p3), .val (.int p4), .val (.int p5), .val (.ref b68), .val (.int st), .val (.int ln), .val (.int (st + ln)), .val (.ref b96), .val (.int (own_hash (own_b c0 c1 c2 c3) st.toNatClampNeg ((st + ln).toInt - st.toInt).toNat 1)), .unset] [(.int ((31 : Int32) + (own_b c0 c1 c2 c3 (st).toNatClampNeg)))])) _
      refine Goes.of (fun t k => XS.istore X121.here hx rfl (hb hby at_102) rfl (l' := #[.val (.int p1), .val (.int p2), .val (.int p3), .val (.int p4), .val (.int p5), .val (.ref b68), .val (.int st), .val (.int ln), .val (.int (st + ln)), .val (.ref b96), .val (.int (own_hash (own_b c0 c1 c2 c3) st.toNatClampNeg ((st + ln).toInt - st.toInt).toNat 1)), .val (.int ((31 : Int32) + (own_b c0 c1 c2 c3 (st).toNatClampNeg)))]) rfl k) ?_
      show Goes p e below (T121.setTop (mkF m 104 #[.val (.int p1), .val (.int p2), .val (.int p3), .val (.int p4), .val (.int p5), .val (.ref b68), .val (.int st), .val (.int ln), .val (.int (st + ln)), .val (.ref b96), .val (.int (own_hash (own_b c0 c1 c2 c3) st.toNatClampNeg ((st + ln).toInt - st.toInt).toNat 1)), .val (.int ((31 : Int32) + (own_b c0 c1 c2 c3 (st).toNatClampNeg)))] [])) _
      refine Goes.of (fun t k => XS.goto X121.here hx rfl (pc0 := 104) (pc' := 226) rfl (hb hby at_104) (by decide) (by decide) k) ?_
      show Goes p e below (T121.setTop (mkF m 226 #[.val (.int p1), .val (.int p2), .val (.int p3), .val (.int p4), .val (.int p5), .val (.ref b68), .val (.int st), .val (.int ln), .val (.int (st + ln)), .val (.ref b96), .val (.int (own_hash (own_b c0 c1 c2 c3) st.toNatClampNeg ((st + ln).toInt - st.toInt).toNat 1)), .val (.int ((31 : Int32) + (own_b c0 c1 c2 c3 (st).toNatClampNeg)))] [])) _
      refine Goes.of (fun t k => XS.iload X121.here hx rfl (hb hby at_226) rfl k) ?_
      show Goes p e below (T121.setTop (mkF m 228 #[.val (.int p1), .val (.int p2), .val (.int p3), .val (.int p4), .val (.int p5), .val (.ref b68), .val (.int st), .val (.int ln), .val (.int (st + ln)), .val (.ref b96), .val (.int (own_hash (own_b c0 c1 c2 c3) st.toNatClampNeg ((st + ln).toInt - st.toInt).toNat 1)), .val (.int ((31 : Int32) + (own_b c0 c1 c2 c3 (st).toNatClampNeg)))] [(.int (own_hash (own_b c0 c1 c2 c3) st.toNatClampNeg ((st + ln).toInt - st.toInt).toNat 1))])) _
      refine Goes.of (fun t k => XS.iload X121.here hx rfl (hb hby at_228) rfl k) ?_
      show Goes p e below (T121.setTop (mkF m 230 #[.val (.int p1), .val (.int p2), .val (.int p3), .val (.int p4), .val (.int p5), .val (.ref b68), .val (.int st), .val (.int ln), .val (.int (st + ln)), .val (.ref b96), .val (.int (own_hash (own_b c0 c1 c2 c3) st.toNatClampNeg ((st + ln).toInt - st.toInt).toNat 1)), .val (.int ((31 : Int32) + (own_b c0 c1 c2 c3 (st).toNatClampNeg)))] [(.int ((31 : Int32) + (own_b c0 c1 c2 c3 (st).toNatClampNeg))), (.int (own_hash (own_b c0 c1 c2 c3) st.toNatClampNeg ((st + ln).toInt - st.toInt).toNat 1))])) _
      have hd230_128 : (own_hash (own_b c0 c1 c2 c3) st.toNatClampNeg ((st + ln).toInt - st.toInt).toNat 1) = ((31 : Int32) + (own_b c0 c1 c2 c3 (st).toNatClampNeg)) := by
        have en : ((st + ln).toInt - st.toInt).toNat = 1 := by omega
        rw [en]; simp only [own_hash]; grind
      refine Goes.of (fun t k => XS.icmpNo X121.here hx rfl (hb hby at_230) rfl (teq hd230_128).2 k) ?_
      show Goes p e below (T121.setTop (mkF m 233 #[.val (.int p1), .val (.int p2), .val (.int p3), .val (.int p4), .val (.int p5), .val (.ref b68), .val (.int st), .val (.int ln), .val (.int (st + ln)), .val (.ref b96), .val (.int (own_hash (own_b c0 c1 c2 c3) st.toNatClampNeg ((st + ln).toInt - st.toInt).toNat 1)), .val (.int ((31 : Int32) + (own_b c0 c1 c2 c3 (st).toNatClampNeg)))] [])) _
      refine Goes.of (fun t k => XS.iconst X121.here hx rfl (hb hby at_233) k) ?_
      show Goes p e below (T121.setTop (mkF m 234 #[.val (.int p1), .val (.int p2), .val (.int p3), .val (.int p4), .val (.int p5), .val (.ref b68), .val (.int st), .val (.int ln), .val (.int (st + ln)), .val (.ref b96), .val (.int (own_hash (own_b c0 c1 c2 c3) st.toNatClampNeg ((st + ln).toInt - st.toInt).toNat 1)), .val (.int ((31 : Int32) + (own_b c0 c1 c2 c3 (st).toNatClampNeg)))] [(.int (1 : Int32))])) _
      refine Goes.of (fun t k => XS.goto X121.here hx rfl (pc0 := 234) (pc' := 238) rfl (hb hby at_234) (by decide) (by decide) k) ?_
      show Goes p e below (T121.setTop (mkF m 238 #[.val (.int p1), .val (.int p2), .val (.int p3), .val (.int p4), .val (.int p5), .val (.ref b68), .val (.int st), .val (.int ln), .val (.int (st + ln)), .val (.ref b96), .val (.int (own_hash (own_b c0 c1 c2 c3) st.toNatClampNeg ((st + ln).toInt - st.toInt).toNat 1)), .val (.int ((31 : Int32) + (own_b c0 c1 c2 c3 (st).toNatClampNeg)))] [(.int (1 : Int32))])) _
      exact Goes.retN (t := .boolean) X121 hx Bd.returns (by simp) hlocks (hb hby at_238) (⟨rfl, N121⟩) (by decide) (by decide)
    · refine Goes.of (fun t k => XS.icmpYes X121.here hx rfl (pc0 := 91) (pc' := 107) rfl (hb hby at_91) rfl (feq hc91_124).2 (by decide) (by decide) k) ?_
      show Goes p e below (T121.setTop (mkF m 107 #[.val (.int p1), .val (.int p2), .val (.int p3), .val (.int p4), .val (.int p5), .val (.ref b68), .val (.int st), .val (.int ln), .val (.int (st + ln)), .val (.ref b96), .val (.int (own_hash (own_b c0 c1 c2 c3) st.toNatClampNeg ((st + ln).toInt - st.toInt).toNat 1)), .unset] [])) _
      have nl1 : ln.toInt ≠ 1 := fun q => hc91_124 (Int32.toInt_inj.mp (by rw [q]; decide))
      refine Goes.of (fun t k => XS.iload X121.here hx rfl (hb hby at_107) rfl k) ?_
      show Goes p e below (T121.setTop (mkF m 109 #[.val (.int p1), .val (.int p2), .val (.int p3), .val (.int p4), .val (.int p5), .val (.ref b68), .val (.int st), .val (.int ln), .val (.int (st + ln)), .val (.ref b96), .val (.int (own_hash (own_b c0 c1 c2 c3) st.toNatClampNeg ((st + ln).toInt - st.toInt).toNat 1)), .unset] [(.int ln)])) _
      refine Goes.of (fun t k => XS.iconst X121.here hx rfl (hb hby at_109) k) ?_
      show Goes p e below (T121.setTop (mkF m 110 #[.val (.int p1), .val (.int p2), .val (.int p3), .val (.int p4), .val (.int p5), .val (.ref b68), .val (.int st), .val (.int ln), .val (.int (st + ln)), .val (.ref b96), .val (.int (own_hash (own_b c0 c1 c2 c3) st.toNatClampNeg ((st + ln).toInt - st.toInt).toNat 1)), .unset] [(.int (2 : Int32)), (.int ln)])) _
      by_cases hc110_129 : ln = (2 : Int32)
      · refine Goes.of (fun t k => XS.icmpNo X121.here hx rfl (hb hby at_110) rfl (teq hc110_129).2 k) ?_
        show Goes p e below (T121.setTop (mkF m 113 #[.val (.int p1), .val (.int p2), .val (.int p3), .val (.int p4), .val (.int p5), .val (.ref b68), .val (.int st), .val (.int ln), .val (.int (st + ln)), .val (.ref b96), .val (.int (own_hash (own_b c0 c1 c2 c3) st.toNatClampNeg ((st + ln).toInt - st.toInt).toNat 1)), .unset] [])) _
        have kl2 : ln.toInt = 2 := by rw [hc110_129]; decide
        refine Goes.of (fun t k => XS.sipush X121.here hx rfl (hb hby at_113) k) ?_
        show Goes p e below (T121.setTop (mkF m 116 #[.val (.int p1), .val (.int p2), .val (.int p3), .val (.int p4), .val (.int p5), .val (.ref b68), .val (.int st), .val (.int ln), .val (.int (st + ln)), .val (.ref b96), .val (.int (own_hash (own_b c0 c1 c2 c3) st.toNatClampNeg ((st + ln).toInt - st.toInt).toNat 1)), .unset] [(.int (961 : Int32))])) _
        refine Goes.of (fun t k => XS.bipush X121.here hx rfl (hb hby at_116) k) ?_
        show Goes p e below (T121.setTop (mkF m 118 #[.val (.int p1), .val (.int p2), .val (.int p3), .val (.int p4), .val (.int p5), .val (.ref b68), .val (.int st), .val (.int ln), .val (.int (st + ln)), .val (.ref b96), .val (.int (own_hash (own_b c0 c1 c2 c3) st.toNatClampNeg ((st + ln).toInt - st.toInt).toNat 1)), .unset] [(.int (31 : Int32)), (.int (961 : Int32))])) _
        refine Goes.of (fun t k => XS.aload X121.here hx rfl (hb hby at_118) rfl rfl k) ?_
        show Goes p e below (T121.setTop (mkF m 120 #[.val (.int p1), .val (.int p2), .val (.int p3), .val (.int p4), .val (.int p5), .val (.ref b68), .val (.int st), .val (.int ln), .val (.int (st + ln)), .val (.ref b96), .val (.int (own_hash (own_b c0 c1 c2 c3) st.toNatClampNeg ((st + ln).toInt - st.toInt).toNat 1)), .unset] [(.ref b68), (.int (31 : Int32)), (.int (961 : Int32))])) _
        refine Goes.of (fun t k => XS.iload X121.here hx rfl (hb hby at_120) rfl k) ?_
        show Goes p e below (T121.setTop (mkF m 122 #[.val (.int p1), .val (.int p2), .val (.int p3), .val (.int p4), .val (.int p5), .val (.ref b68), .val (.int st), .val (.int ln), .val (.int (st + ln)), .val (.ref b96), .val (.int (own_hash (own_b c0 c1 c2 c3) st.toNatClampNeg ((st + ln).toInt - st.toInt).toNat 1)), .unset] [(.int st), (.ref b68), (.int (31 : Int32)), (.int (961 : Int32))])) _
        have Vc130 := f116
        obtain ⟨clc130, Arc130, qc130, Sc130, Nc130, Hc130, Gc130⟩ := Vc130
        have hin131 : ¬ (st < 0 ∨ clc130.slots.size ≤ (st).toNatClampNeg) := inb_of Sc130 (own_in4 (by omega) (by omega))
        have hat132 : clc130.slots[(st).toNatClampNeg]? = some (.int (own_b c0 c1 c2 c3 (st).toNatClampNeg)) := Hc130.at hin131 (own_getD [c0, c1, c2, c3] _)
        refine Goes.of (fun t k => X121.baloadBytes hx (j := st) (v := (.int (own_b c0 c1 c2 c3 (st).toNatClampNeg))) (by rw [e121]; exact Arc130.1) (State.isArrayOf_alike hZ.alike Arc130.2.1) Arc130.2.2 hin131 hat132 (g := (mkF m 122 #[.val (.int p1), .val (.int p2), .val (.int p3), .val (.int p4), .val (.int p5), .val (.ref b68), .val (.int st), .val (.int ln), .val (.int (st + ln)), .val (.ref b96), .val (.int (own_hash (own_b c0 c1 c2 c3) st.toNatClampNeg ((st + ln).toInt - st.toInt).toNat 1)), .unset] [(.int st), (.ref b68), (.int (31 : Int32)), (.int (961 : Int32))])) rfl rfl (hb hby at_122) _ k) ?_
        show Goes p e below (T121.setTop (mkF m 123 #[.val (.int p1), .val (.int p2), .val (.int p3), .val (.int p4), .val (.int p5), .val (.ref b68), .val (.int st), .val (.int ln), .val (.int (st + ln)), .val (.ref b96), .val (.int (own_hash (own_b c0 c1 c2 c3) st.toNatClampNeg ((st + ln).toInt - st.toInt).toNat 1)), .unset] [(.int (own_b c0 c1 c2 c3 (st).toNatClampNeg)), (.int (31 : Int32)), (.int (961 : Int32))])) _
        refine Goes.of (fun t k => XS.imul X121.here hx rfl (hb hby at_123) rfl k) ?_
        show Goes p e below (T121.setTop (mkF m 124 #[.val (.int p1), .val (.int p2), .val (.int p3), .val (.int p4), .val (.int p5), .val (.ref b68), .val (.int st), .val (.int ln), .val (.int (st + ln)), .val (.ref b96), .val (.int (own_hash (own_b c0 c1 c2 c3) st.toNatClampNeg ((st + ln).toInt - st.toInt).toNat 1)), .unset] [(.int ((31 : Int32) * (own_b c0 c1 c2 c3 (st).toNatClampNeg))), (.int (961 : Int32))])) _
        refine Goes.of (fun t k => XS.iadd X121.here hx rfl (hb hby at_124) rfl k) ?_
        show Goes p e below (T121.setTop (mkF m 125 #[.val (.int p1), .val (.int p2), .val (.int p3), .val (.int p4), .val (.int p5), .val (.ref b68), .val (.int st), .val (.int ln), .val (.int (st + ln)), .val (.ref b96), .val (.int (own_hash (own_b c0 c1 c2 c3) st.toNatClampNeg ((st + ln).toInt - st.toInt).toNat 1)), .unset] [(.int ((961 : Int32) + ((31 : Int32) * (own_b c0 c1 c2 c3 (st).toNatClampNeg))))])) _
        refine Goes.of (fun t k => XS.aload X121.here hx rfl (hb hby at_125) rfl rfl k) ?_
        show Goes p e below (T121.setTop (mkF m 127 #[.val (.int p1), .val (.int p2), .val (.int p3), .val (.int p4), .val (.int p5), .val (.ref b68), .val (.int st), .val (.int ln), .val (.int (st + ln)), .val (.ref b96), .val (.int (own_hash (own_b c0 c1 c2 c3) st.toNatClampNeg ((st + ln).toInt - st.toInt).toNat 1)), .unset] [(.ref b68), (.int ((961 : Int32) + ((31 : Int32) * (own_b c0 c1 c2 c3 (st).toNatClampNeg))))])) _
        refine Goes.of (fun t k => XS.iload X121.here hx rfl (hb hby at_127) rfl k) ?_
        show Goes p e below (T121.setTop (mkF m 129 #[.val (.int p1), .val (.int p2), .val (.int p3), .val (.int p4), .val (.int p5), .val (.ref b68), .val (.int st), .val (.int ln), .val (.int (st + ln)), .val (.ref b96), .val (.int (own_hash (own_b c0 c1 c2 c3) st.toNatClampNeg ((st + ln).toInt - st.toInt).toNat 1)), .unset] [(.int st), (.ref b68), (.int ((961 : Int32) + ((31 : Int32) * (own_b c0 c1 c2 c3 (st).toNatClampNeg))))])) _
        refine Goes.of (fun t k => XS.iconst X121.here hx rfl (hb hby at_129) k) ?_
        show Goes p e below (T121.setTop (mkF m 130 #[.val (.int p1), .val (.int p2), .val (.int p3), .val (.int p4), .val (.int p5), .val (.ref b68), .val (.int st), .val (.int ln), .val (.int (st + ln)), .val (.ref b96), .val (.int (own_hash (own_b c0 c1 c2 c3) st.toNatClampNeg ((st + ln).toInt - st.toInt).toNat 1)), .unset] [(.int (1 : Int32)), (.int st), (.ref b68), (.int ((961 : Int32) + ((31 : Int32) * (own_b c0 c1 c2 c3 (st).toNatClampNeg))))])) _
        refine Goes.of (fun t k => XS.iadd X121.here hx rfl (hb hby at_130) rfl k) ?_
        show Goes p e below (T121.setTop (mkF m 131 #[.val (.int p1), .val (.int p2), .val (.int p3), .val (.int p4), .val (.int p5), .val (.ref b68), .val (.int st), .val (.int ln), .val (.int (st + ln)), .val (.ref b96), .val (.int (own_hash (own_b c0 c1 c2 c3) st.toNatClampNeg ((st + ln).toInt - st.toInt).toNat 1)), .unset] [(.int (st + (1 : Int32))), (.ref b68), (.int ((961 : Int32) + ((31 : Int32) * (own_b c0 c1 c2 c3 (st).toNatClampNeg))))])) _
        have hj1 := own_add1 (i := st) (k := 1) (n := 1) (by decide) bs.1 (by omega)
        have Vc133 := f116
        obtain ⟨clc133, Arc133, qc133, Sc133, Nc133, Hc133, Gc133⟩ := Vc133
        have hin134 : ¬ ((st + (1 : Int32)) < 0 ∨ clc133.slots.size ≤ ((st + (1 : Int32))).toNatClampNeg) := inb_of Sc133 (own_in4 (by omega) (by omega))
        have hat135 : clc133.slots[((st + (1 : Int32))).toNatClampNeg]? = some (.int (own_b c0 c1 c2 c3 ((st + (1 : Int32))).toNatClampNeg)) := Hc133.at hin134 (own_getD [c0, c1, c2, c3] _)
        refine Goes.of (fun t k => X121.baloadBytes hx (j := (st + (1 : Int32))) (v := (.int (own_b c0 c1 c2 c3 ((st + (1 : Int32))).toNatClampNeg))) (by rw [e121]; exact Arc133.1) (State.isArrayOf_alike hZ.alike Arc133.2.1) Arc133.2.2 hin134 hat135 (g := (mkF m 131 #[.val (.int p1), .val (.int p2), .val (.int p3), .val (.int p4), .val (.int p5), .val (.ref b68), .val (.int st), .val (.int ln), .val (.int (st + ln)), .val (.ref b96), .val (.int (own_hash (own_b c0 c1 c2 c3) st.toNatClampNeg ((st + ln).toInt - st.toInt).toNat 1)), .unset] [(.int (st + (1 : Int32))), (.ref b68), (.int ((961 : Int32) + ((31 : Int32) * (own_b c0 c1 c2 c3 (st).toNatClampNeg))))])) rfl rfl (hb hby at_131) _ k) ?_
        show Goes p e below (T121.setTop (mkF m 132 #[.val (.int p1), .val (.int p2), .val (.int p3), .val (.int p4), .val (.int p5), .val (.ref b68), .val (.int st), .val (.int ln), .val (.int (st + ln)), .val (.ref b96), .val (.int (own_hash (own_b c0 c1 c2 c3) st.toNatClampNeg ((st + ln).toInt - st.toInt).toNat 1)), .unset] [(.int (own_b c0 c1 c2 c3 ((st + (1 : Int32))).toNatClampNeg)), (.int ((961 : Int32) + ((31 : Int32) * (own_b c0 c1 c2 c3 (st).toNatClampNeg))))])) _
        refine Goes.of (fun t k => XS.iadd X121.here hx rfl (hb hby at_132) rfl k) ?_
        show Goes p e below (T121.setTop (mkF m 133 #[.val (.int p1), .val (.int p2), .val (.int p3), .val (.int p4), .val (.int p5), .val (.ref b68), .val (.int st), .val (.int ln), .val (.int (st + ln)), .val (.ref b96), .val (.int (own_hash (own_b c0 c1 c2 c3) st.toNatClampNeg ((st + ln).toInt - st.toInt).toNat 1)), .unset] [(.int (((961 : Int32) + ((31 : Int32) * (own_b c0 c1 c2 c3 (st).toNatClampNeg))) + (own_b c0 c1 c2 c3 ((st + (1 : Int32))).toNatClampNeg)))])) _
        refine Goes.of (fun t k => XS.istore X121.here hx rfl (hb hby at_133) rfl (l' := #[.val (.int p1), .val (.int p2), .val (.int p3), .val (.int p4), .val (.int p5), .val (.ref b68), .val (.int st), .val (.int ln), .val (.int (st + ln)), .val (.ref b96), .val (.int (own_hash (own_b c0 c1 c2 c3) st.toNatClampNeg ((st + ln).toInt - st.toInt).toNat 1)), .val (.int (((961 : Int32) + ((31 : Int32) * (own_b c0 c1 c2 c3 (st).toNatClampNeg))) + (own_b c0 c1 c2 c3 ((st + (1 : Int32))).toNatClampNeg)))]) rfl k) ?_
        show Goes p e below (T121.setTop (mkF m 135 #[.val (.int p1), .val (.int p2), .val (.int p3), .val (.int p4), .val (.int p5), .val (.ref b68), .val (.int st), .val (.int ln), .val (.int (st + ln)), .val (.ref b96), .val (.int (own_hash (own_b c0 c1 c2 c3) st.toNatClampNeg ((st + ln).toInt - st.toInt).toNat 1)), .val (.int (((961 : Int32) + ((31 : Int32) * (own_b c0 c1 c2 c3 (st).toNatClampNeg))) + (own_b c0 c1 c2 c3 ((st + (1 : Int32))).toNatClampNeg)))] [])) _
        refine Goes.of (fun t k => XS.goto X121.here hx rfl (pc0 := 135) (pc' := 226) rfl (hb hby at_135) (by decide) (by decide) k) ?_
        show Goes p e below (T121.setTop (mkF m 226 #[.val (.int p1), .val (.int p2), .val (.int p3), .val (.int p4), .val (.int p5), .val (.ref b68), .val (.int st), .val (.int ln), .val (.int (st + ln)), .val (.ref b96), .val (.int (own_hash (own_b c0 c1 c2 c3) st.toNatClampNeg ((st + ln).toInt - st.toInt).toNat 1)), .val (.int (((961 : Int32) + ((31 : Int32) * (own_b c0 c1 c2 c3 (st).toNatClampNeg))) + (own_b c0 c1 c2 c3 ((st + (1 : Int32))).toNatClampNeg)))] [])) _
        refine Goes.of (fun t k => XS.iload X121.here hx rfl (hb hby at_226) rfl k) ?_
        show Goes p e below (T121.setTop (mkF m 228 #[.val (.int p1), .val (.int p2), .val (.int p3), .val (.int p4), .val (.int p5), .val (.ref b68), .val (.int st), .val (.int ln), .val (.int (st + ln)), .val (.ref b96), .val (.int (own_hash (own_b c0 c1 c2 c3) st.toNatClampNeg ((st + ln).toInt - st.toInt).toNat 1)), .val (.int (((961 : Int32) + ((31 : Int32) * (own_b c0 c1 c2 c3 (st).toNatClampNeg))) + (own_b c0 c1 c2 c3 ((st + (1 : Int32))).toNatClampNeg)))] [(.int (own_hash (own_b c0 c1 c2 c3) st.toNatClampNeg ((st + ln).toInt - st.toInt).toNat 1))])) _
        refine Goes.of (fun t k => XS.iload X121.here hx rfl (hb hby at_228) rfl k) ?_
        show Goes p e below (T121.setTop (mkF m 230 #[.val (.int p1), .val (.int p2), .val (.int p3), .val (.int p4), .val (.int p5), .val (.ref b68), .val (.int st), .val (.int ln), .val (.int (st + ln)), .val (.ref b96), .val (.int (own_hash (own_b c0 c1 c2 c3) st.toNatClampNeg ((st + ln).toInt - st.toInt).toNat 1)), .val (.int (((961 : Int32) + ((31 : Int32) * (own_b c0 c1 c2 c3 (st).toNatClampNeg))) + (own_b c0 c1 c2 c3 ((st + (1 : Int32))).toNatClampNeg)))] [(.int (((961 : Int32) + ((31 : Int32) * (own_b c0 c1 c2 c3 (st).toNatClampNeg))) + (own_b c0 c1 c2 c3 ((st + (1 : Int32))).toNatClampNeg))), (.int (own_hash (own_b c0 c1 c2 c3) st.toNatClampNeg ((st + ln).toInt - st.toInt).toNat 1))])) _
        have hd230_136 : (own_hash (own_b c0 c1 c2 c3) st.toNatClampNeg ((st + ln).toInt - st.toInt).toNat 1) = (((961 : Int32) + ((31 : Int32) * (own_b c0 c1 c2 c3 (st).toNatClampNeg))) + (own_b c0 c1 c2 c3 ((st + (1 : Int32))).toNatClampNeg)) := by
          have en : ((st + ln).toInt - st.toInt).toNat = 2 := by omega
          rw [en, hj1.1]; simp only [own_hash]; grind
        refine Goes.of (fun t k => XS.icmpNo X121.here hx rfl (hb hby at_230) rfl (teq hd230_136).2 k) ?_
        show Goes p e below (T121.setTop (mkF m 233 #[.val (.int p1), .val (.int p2), .val (.int p3), .val (.int p4), .val (.int p5), .val (.ref b68), .val (.int st), .val (.int ln), .val (.int (st + ln)), .val (.ref b96), .val (.int (own_hash (own_b c0 c1 c2 c3) st.toNatClampNeg ((st + ln).toInt - st.toInt).toNat 1)), .val (.int (((961 : Int32) + ((31 : Int32) * (own_b c0 c1 c2 c3 (st).toNatClampNeg))) + (own_b c0 c1 c2 c3 ((st + (1 : Int32))).toNatClampNeg)))] [])) _
        refine Goes.of (fun t k => XS.iconst X121.here hx rfl (hb hby at_233) k) ?_
        show Goes p e below (T121.setTop (mkF m 234 #[.val (.int p1), .val (.int p2), .val (.int p3), .val (.int p4), .val (.int p5), .val (.ref b68), .val (.int st), .val (.int ln), .val (.int (st + ln)), .val (.ref b96), .val (.int (own_hash (own_b c0 c1 c2 c3) st.toNatClampNeg ((st + ln).toInt - st.toInt).toNat 1)), .val (.int (((961 : Int32) + ((31 : Int32) * (own_b c0 c1 c2 c3 (st).toNatClampNeg))) + (own_b c0 c1 c2 c3 ((st + (1 : Int32))).toNatClampNeg)))] [(.int (1 : Int32))])) _
        refine Goes.of (fun t k => XS.goto X121.here hx rfl (pc0 := 234) (pc' := 238) rfl (hb hby at_234) (by decide) (by decide) k) ?_
        show Goes p e below (T121.setTop (mkF m 238 #[.val (.int p1), .val (.int p2), .val (.int p3), .val (.int p4), .val (.int p5), .val (.ref b68), .val (.int st), .val (.int ln), .val (.int (st + ln)), .val (.ref b96), .val (.int (own_hash (own_b c0 c1 c2 c3) st.toNatClampNeg ((st + ln).toInt - st.toInt).toNat 1)), .val (.int (((961 : Int32) + ((31 : Int32) * (own_b c0 c1 c2 c3 (st).toNatClampNeg))) + (own_b c0 c1 c2 c3 ((st + (1 : Int32))).toNatClampNeg)))] [(.int (1 : Int32))])) _
        exact Goes.retN (t := .boolean) X121 hx Bd.returns (by simp) hlocks (hb hby at_238) (⟨rfl, N121⟩) (by decide) (by decide)
      · refine Goes.of (fun t k => XS.icmpYes X121.here hx rfl (pc0 := 110) (pc' := 138) rfl (hb hby at_110) rfl (feq hc110_129).2 (by decide) (by decide) k) ?_
        show Goes p e below (T121.setTop (mkF m 138 #[.val (.int p1), .val (.int p2), .val (.int p3), .val (.int p4), .val (.int p5), .val (.ref b68), .val (.int st), .val (.int ln), .val (.int (st + ln)), .val (.ref b96), .val (.int (own_hash (own_b c0 c1 c2 c3) st.toNatClampNeg ((st + ln).toInt - st.toInt).toNat 1)), .unset] [])) _
        have nl2 : ln.toInt ≠ 2 := fun q => hc110_129 (Int32.toInt_inj.mp (by rw [q]; decide))
        refine Goes.of (fun t k => XS.iload X121.here hx rfl (hb hby at_138) rfl k) ?_
        show Goes p e below (T121.setTop (mkF m 140 #[.val (.int p1), .val (.int p2), .val (.int p3), .val (.int p4), .val (.int p5), .val (.ref b68), .val (.int st), .val (.int ln), .val (.int (st + ln)), .val (.ref b96), .val (.int (own_hash (own_b c0 c1 c2 c3) st.toNatClampNeg ((st + ln).toInt - st.toInt).toNat 1)), .unset] [(.int ln)])) _
        refine Goes.of (fun t k => XS.iconst X121.here hx rfl (hb hby at_140) k) ?_
        show Goes p e below (T121.setTop (mkF m 141 #[.val (.int p1), .val (.int p2), .val (.int p3), .val (.int p4), .val (.int p5), .val (.ref b68), .val (.int st), .val (.int ln), .val (.int (st + ln)), .val (.ref b96), .val (.int (own_hash (own_b c0 c1 c2 c3) st.toNatClampNeg ((st + ln).toInt - st.toInt).toNat 1)), .unset] [(.int (3 : Int32)), (.int ln)])) _
        by_cases hc141_137 : ln = (3 : Int32)
        · refine Goes.of (fun t k => XS.icmpNo X121.here hx rfl (hb hby at_141) rfl (teq hc141_137).2 k) ?_
          show Goes p e below (T121.setTop (mkF m 144 #[.val (.int p1), .val (.int p2), .val (.int p3), .val (.int p4), .val (.int p5), .val (.ref b68), .val (.int st), .val (.int ln), .val (.int (st + ln)), .val (.ref b96), .val (.int (own_hash (own_b c0 c1 c2 c3) st.toNatClampNeg ((st + ln).toInt - st.toInt).toNat 1)), .unset] [])) _
          have kl3 : ln.toInt = 3 := by rw [hc141_137]; decide
          refine Goes.of (fun t k => XS.sipush X121.here hx rfl (hb hby at_144) k) ?_
          show Goes p e below (T121.setTop (mkF m 147 #[.val (.int p1), .val (.int p2), .val (.int p3), .val (.int p4), .val (.int p5), .val (.ref b68), .val (.int st), .val (.int ln), .val (.int (st + ln)), .val (.ref b96), .val (.int (own_hash (own_b c0 c1 c2 c3) st.toNatClampNeg ((st + ln).toInt - st.toInt).toNat 1)), .unset] [(.int (29791 : Int32))])) _
          refine Goes.of (fun t k => XS.sipush X121.here hx rfl (hb hby at_147) k) ?_
          show Goes p e below (T121.setTop (mkF m 150 #[.val (.int p1), .val (.int p2), .val (.int p3), .val (.int p4), .val (.int p5), .val (.ref b68), .val (.int st), .val (.int ln), .val (.int (st + ln)), .val (.ref b96), .val (.int (own_hash (own_b c0 c1 c2 c3) st.toNatClampNeg ((st + ln).toInt - st.toInt).toNat 1)), .unset] [(.int (961 : Int32)), (.int (29791 : Int32))])) _
          refine Goes.of (fun t k => XS.aload X121.here hx rfl (hb hby at_150) rfl rfl k) ?_
          show Goes p e below (T121.setTop (mkF m 152 #[.val (.int p1), .val (.int p2), .val (.int p3), .val (.int p4), .val (.int p5), .val (.ref b68), .val (.int st), .val (.int ln), .val (.int (st + ln)), .val (.ref b96), .val (.int (own_hash (own_b c0 c1 c2 c3) st.toNatClampNeg ((st + ln).toInt - st.toInt).toNat 1)), .unset] [(.ref b68), (.int (961 : Int32)), (.int (29791 : Int32))])) _
          refine Goes.of (fun t k => XS.iload X121.here hx rfl (hb hby at_152) rfl k) ?_
          show Goes p e below (T121.setTop (mkF m 154 #[.val (.int p1), .val (.int p2), .val (.int p3), .val (.int p4), .val (.int p5), .val (.ref b68), .val (.int st), .val (.int ln), .val (.int (st + ln)), .val (.ref b96), .val (.int (own_hash (own_b c0 c1 c2 c3) st.toNatClampNeg ((st + ln).toInt - st.toInt).toNat 1)), .unset] [(.int st), (.ref b68), (.int (961 : Int32)), (.int (29791 : Int32))])) _
          have Vc138 := f116
          obtain ⟨clc138, Arc138, qc138, Sc138, Nc138, Hc138, Gc138⟩ := Vc138
          have hin139 : ¬ (st < 0 ∨ clc138.slots.size ≤ (st).toNatClampNeg) := inb_of Sc138 (own_in4 (by omega) (by omega))
          have hat140 : clc138.slots[(st).toNatClampNeg]? = some (.int (own_b c0 c1 c2 c3 (st).toNatClampNeg)) := Hc138.at hin139 (own_getD [c0, c1, c2, c3] _)
          refine Goes.of (fun t k => X121.baloadBytes hx (j := st) (v := (.int (own_b c0 c1 c2 c3 (st).toNatClampNeg))) (by rw [e121]; exact Arc138.1) (State.isArrayOf_alike hZ.alike Arc138.2.1) Arc138.2.2 hin139 hat140 (g := (mkF m 154 #[.val (.int p1), .val (.int p2), .val (.int p3), .val (.int p4), .val (.int p5), .val (.ref b68), .val (.int st), .val (.int ln), .val (.int (st + ln)), .val (.ref b96), .val (.int (own_hash (own_b c0 c1 c2 c3) st.toNatClampNeg ((st + ln).toInt - st.toInt).toNat 1)), .unset] [(.int st), (.ref b68), (.int (961 : Int32)), (.int (29791 : Int32))])) rfl rfl (hb hby at_154) _ k) ?_
          show Goes p e below (T121.setTop (mkF m 155 #[.val (.int p1), .val (.int p2), .val (.int p3), .val (.int p4), .val (.int p5), .val (.ref b68), .val (.int st), .val (.int ln), .val (.int (st + ln)), .val (.ref b96), .val (.int (own_hash (own_b c0 c1 c2 c3) st.toNatClampNeg ((st + ln).toInt - st.toInt).toNat 1)), .unset] [(.int (own_b c0 c1 c2 c3 (st).toNatClampNeg)), (.int (961 : Int32)), (.int (29791 : Int32))])) _
          refine Goes.of (fun t k => XS.imul X121.here hx rfl (hb hby at_155) rfl k) ?_
          show Goes p e below (T121.setTop (mkF m 156 #[.val (.int p1), .val (.int p2), .val (.int p3), .val (.int p4), .val (.int p5), .val (.ref b68), .val (.int st), .val (.int ln), .val (.int (st + ln)), .val (.ref b96), .val (.int (own_hash (own_b c0 c1 c2 c3) st.toNatClampNeg ((st + ln).toInt - st.toInt).toNat 1)), .unset] [(.int ((961 : Int32) * (own_b c0 c1 c2 c3 (st).toNatClampNeg))), (.int (29791 : Int32))])) _
          refine Goes.of (fun t k => XS.iadd X121.here hx rfl (hb hby at_156) rfl k) ?_
          show Goes p e below (T121.setTop (mkF m 157 #[.val (.int p1), .val (.int p2), .val (.int p3), .val (.int p4), .val (.int p5), .val (.ref b68), .val (.int st), .val (.int ln), .val (.int (st + ln)), .val (.ref b96), .val (.int (own_hash (own_b c0 c1 c2 c3) st.toNatClampNeg ((st + ln).toInt - st.toInt).toNat 1)), .unset] [(.int ((29791 : Int32) + ((961 : Int32) * (own_b c0 c1 c2 c3 (st).toNatClampNeg))))])) _
          refine Goes.of (fun t k => XS.bipush X121.here hx rfl (hb hby at_157) k) ?_
          show Goes p e below (T121.setTop (mkF m 159 #[.val (.int p1), .val (.int p2), .val (.int p3), .val (.int p4), .val (.int p5), .val (.ref b68), .val (.int st), .val (.int ln), .val (.int (st + ln)), .val (.ref b96), .val (.int (own_hash (own_b c0 c1 c2 c3) st.toNatClampNeg ((st + ln).toInt - st.toInt).toNat 1)), .unset] [(.int (31 : Int32)), (.int ((29791 : Int32) + ((961 : Int32) * (own_b c0 c1 c2 c3 (st).toNatClampNeg))))])) _
          refine Goes.of (fun t k => XS.aload X121.here hx rfl (hb hby at_159) rfl rfl k) ?_
          show Goes p e below (T121.setTop (mkF m 161 #[.val (.int p1), .val (.int p2), .val (.int p3), .val (.int p4), .val (.int p5), .val (.ref b68), .val (.int st), .val (.int ln), .val (.int (st + ln)), .val (.ref b96), .val (.int (own_hash (own_b c0 c1 c2 c3) st.toNatClampNeg ((st + ln).toInt - st.toInt).toNat 1)), .unset] [(.ref b68), (.int (31 : Int32)), (.int ((29791 : Int32) + ((961 : Int32) * (own_b c0 c1 c2 c3 (st).toNatClampNeg))))])) _
          refine Goes.of (fun t k => XS.iload X121.here hx rfl (hb hby at_161) rfl k) ?_
          show Goes p e below (T121.setTop (mkF m 163 #[.val (.int p1), .val (.int p2), .val (.int p3), .val (.int p4), .val (.int p5), .val (.ref b68), .val (.int st), .val (.int ln), .val (.int (st + ln)), .val (.ref b96), .val (.int (own_hash (own_b c0 c1 c2 c3) st.toNatClampNeg ((st + ln).toInt - st.toInt).toNat 1)), .unset] [(.int st), (.ref b68), (.int (31 : Int32)), (.int ((29791 : Int32) + ((961 : Int32) * (own_b c0 c1 c2 c3 (st).toNatClampNeg))))])) _
          refine Goes.of (fun t k => XS.iconst X121.here hx rfl (hb hby at_163) k) ?_
          show Goes p e below (T121.setTop (mkF m 164 #[.val (.int p1), .val (.int p2), .val (.int p3), .val (.int p4), .val (.int p5), .val (.ref b68), .val (.int st), .val (.int ln), .val (.int (st + ln)), .val (.ref b96), .val (.int (own_hash (own_b c0 c1 c2 c3) st.toNatClampNeg ((st + ln).toInt - st.toInt).toNat 1)), .unset] [(.int (1 : Int32)), (.int st), (.ref b68), (.int (31 : Int32)), (.int ((29791 : Int32) + ((961 : Int32) * (own_b c0 c1 c2 c3 (st).toNatClampNeg))))])) _
          refine Goes.of (fun t k => XS.iadd X121.here hx rfl (hb hby at_164) rfl k) ?_
          show Goes p e below (T121.setTop (mkF m 165 #[.val (.int p1), .val (.int p2), .val (.int p3), .val (.int p4), .val (.int p5), .val (.ref b68), .val (.int st), .val (.int ln), .val (.int (st + ln)), .val (.ref b96), .val (.int (own_hash (own_b c0 c1 c2 c3) st.toNatClampNeg ((st + ln).toInt - st.toInt).toNat 1)), .unset] [(.int (st + (1 : Int32))), (.ref b68), (.int (31 : Int32)), (.int ((29791 : Int32) + ((961 : Int32) * (own_b c0 c1 c2 c3 (st).toNatClampNeg))))])) _
          have hj1 := own_add1 (i := st) (k := 1) (n := 1) (by decide) bs.1 (by omega)
          have Vc141 := f116
          obtain ⟨clc141, Arc141, qc141, Sc141, Nc141, Hc141, Gc141⟩ := Vc141
          have hin142 : ¬ ((st + (1 : Int32)) < 0 ∨ clc141.slots.size ≤ ((st + (1 : Int32))).toNatClampNeg) := inb_of Sc141 (own_in4 (by omega) (by omega))
          have hat143 : clc141.slots[((st + (1 : Int32))).toNatClampNeg]? = some (.int (own_b c0 c1 c2 c3 ((st + (1 : Int32))).toNatClampNeg)) := Hc141.at hin142 (own_getD [c0, c1, c2, c3] _)
          refine Goes.of (fun t k => X121.baloadBytes hx (j := (st + (1 : Int32))) (v := (.int (own_b c0 c1 c2 c3 ((st + (1 : Int32))).toNatClampNeg))) (by rw [e121]; exact Arc141.1) (State.isArrayOf_alike hZ.alike Arc141.2.1) Arc141.2.2 hin142 hat143 (g := (mkF m 165 #[.val (.int p1), .val (.int p2), .val (.int p3), .val (.int p4), .val (.int p5), .val (.ref b68), .val (.int st), .val (.int ln), .val (.int (st + ln)), .val (.ref b96), .val (.int (own_hash (own_b c0 c1 c2 c3) st.toNatClampNeg ((st + ln).toInt - st.toInt).toNat 1)), .unset] [(.int (st + (1 : Int32))), (.ref b68), (.int (31 : Int32)), (.int ((29791 : Int32) + ((961 : Int32) * (own_b c0 c1 c2 c3 (st).toNatClampNeg))))])) rfl rfl (hb hby at_165) _ k) ?_
          show Goes p e below (T121.setTop (mkF m 166 #[.val (.int p1), .val (.int p2), .val (.int p3), .val (.int p4), .val (.int p5), .val (.ref b68), .val (.int st), .val (.int ln), .val (.int (st + ln)), .val (.ref b96), .val (.int (own_hash (own_b c0 c1 c2 c3) st.toNatClampNeg ((st + ln).toInt - st.toInt).toNat 1)), .unset] [(.int (own_b c0 c1 c2 c3 ((st + (1 : Int32))).toNatClampNeg)), (.int (31 : Int32)), (.int ((29791 : Int32) + ((961 : Int32) * (own_b c0 c1 c2 c3 (st).toNatClampNeg))))])) _
          refine Goes.of (fun t k => XS.imul X121.here hx rfl (hb hby at_166) rfl k) ?_
          show Goes p e below (T121.setTop (mkF m 167 #[.val (.int p1), .val (.int p2), .val (.int p3), .val (.int p4), .val (.int p5), .val (.ref b68), .val (.int st), .val (.int ln), .val (.int (st + ln)), .val (.ref b96), .val (.int (own_hash (own_b c0 c1 c2 c3) st.toNatClampNeg ((st + ln).toInt - st.toInt).toNat 1)), .unset] [(.int ((31 : Int32) * (own_b c0 c1 c2 c3 ((st + (1 : Int32))).toNatClampNeg))), (.int ((29791 : Int32) + ((961 : Int32) * (own_b c0 c1 c2 c3 (st).toNatClampNeg))))])) _
          refine Goes.of (fun t k => XS.iadd X121.here hx rfl (hb hby at_167) rfl k) ?_
          show Goes p e below (T121.setTop (mkF m 168 #[.val (.int p1), .val (.int p2), .val (.int p3), .val (.int p4), .val (.int p5), .val (.ref b68), .val (.int st), .val (.int ln), .val (.int (st + ln)), .val (.ref b96), .val (.int (own_hash (own_b c0 c1 c2 c3) st.toNatClampNeg ((st + ln).toInt - st.toInt).toNat 1)), .unset] [(.int (((29791 : Int32) + ((961 : Int32) * (own_b c0 c1 c2 c3 (st).toNatClampNeg))) + ((31 : Int32) * (own_b c0 c1 c2 c3 ((st + (1 : Int32))).toNatClampNeg))))])) _
          refine Goes.of (fun t k => XS.aload X121.here hx rfl (hb hby at_168) rfl rfl k) ?_
          show Goes p e below (T121.setTop (mkF m 170 #[.val (.int p1), .val (.int p2), .val (.int p3), .val (.int p4), .val (.int p5), .val (.ref b68), .val (.int st), .val (.int ln), .val (.int (st + ln)), .val (.ref b96), .val (.int (own_hash (own_b c0 c1 c2 c3) st.toNatClampNeg ((st + ln).toInt - st.toInt).toNat 1)), .unset] [(.ref b68), (.int (((29791 : Int32) + ((961 : Int32) * (own_b c0 c1 c2 c3 (st).toNatClampNeg))) + ((31 : Int32) * (own_b c0 c1 c2 c3 ((st + (1 : Int32))).toNatClampNeg))))])) _
          refine Goes.of (fun t k => XS.iload X121.here hx rfl (hb hby at_170) rfl k) ?_
          show Goes p e below (T121.setTop (mkF m 172 #[.val (.int p1), .val (.int p2), .val (.int p3), .val (.int p4), .val (.int p5), .val (.ref b68), .val (.int st), .val (.int ln), .val (.int (st + ln)), .val (.ref b96), .val (.int (own_hash (own_b c0 c1 c2 c3) st.toNatClampNeg ((st + ln).toInt - st.toInt).toNat 1)), .unset] [(.int st), (.ref b68), (.int (((29791 : Int32) + ((961 : Int32) * (own_b c0 c1 c2 c3 (st).toNatClampNeg))) + ((31 : Int32) * (own_b c0 c1 c2 c3 ((st + (1 : Int32))).toNatClampNeg))))])) _
          refine Goes.of (fun t k => XS.iconst X121.here hx rfl (hb hby at_172) k) ?_
          show Goes p e below (T121.setTop (mkF m 173 #[.val (.int p1), .val (.int p2), .val (.int p3), .val (.int p4), .val (.int p5), .val (.ref b68), .val (.int st), .val (.int ln), .val (.int (st + ln)), .val (.ref b96), .val (.int (own_hash (own_b c0 c1 c2 c3) st.toNatClampNeg ((st + ln).toInt - st.toInt).toNat 1)), .unset] [(.int (2 : Int32)), (.int st), (.ref b68), (.int (((29791 : Int32) + ((961 : Int32) * (own_b c0 c1 c2 c3 (st).toNatClampNeg))) + ((31 : Int32) * (own_b c0 c1 c2 c3 ((st + (1 : Int32))).toNatClampNeg))))])) _
          refine Goes.of (fun t k => XS.iadd X121.here hx rfl (hb hby at_173) rfl k) ?_
          show Goes p e below (T121.setTop (mkF m 174 #[.val (.int p1), .val (.int p2), .val (.int p3), .val (.int p4), .val (.int p5), .val (.ref b68), .val (.int st), .val (.int ln), .val (.int (st + ln)), .val (.ref b96), .val (.int (own_hash (own_b c0 c1 c2 c3) st.toNatClampNeg ((st + ln).toInt - st.toInt).toNat 1)), .unset] [(.int (st + (2 : Int32))), (.ref b68), (.int (((29791 : Int32) + ((961 : Int32) * (own_b c0 c1 c2 c3 (st).toNatClampNeg))) + ((31 : Int32) * (own_b c0 c1 c2 c3 ((st + (1 : Int32))).toNatClampNeg))))])) _
          have hj2 := own_add1 (i := st) (k := 2) (n := 2) (by decide) bs.1 (by omega)
          have Vc144 := f116
          obtain ⟨clc144, Arc144, qc144, Sc144, Nc144, Hc144, Gc144⟩ := Vc144
          have hin145 : ¬ ((st + (2 : Int32)) < 0 ∨ clc144.slots.size ≤ ((st + (2 : Int32))).toNatClampNeg) := inb_of Sc144 (own_in4 (by omega) (by omega))
          have hat146 : clc144.slots[((st + (2 : Int32))).toNatClampNeg]? = some (.int (own_b c0 c1 c2 c3 ((st + (2 : Int32))).toNatClampNeg)) := Hc144.at hin145 (own_getD [c0, c1, c2, c3] _)
          refine Goes.of (fun t k => X121.baloadBytes hx (j := (st + (2 : Int32))) (v := (.int (own_b c0 c1 c2 c3 ((st + (2 : Int32))).toNatClampNeg))) (by rw [e121]; exact Arc144.1) (State.isArrayOf_alike hZ.alike Arc144.2.1) Arc144.2.2 hin145 hat146 (g := (mkF m 174 #[.val (.int p1), .val (.int p2), .val (.int p3), .val (.int p4), .val (.int p5), .val (.ref b68), .val (.int st), .val (.int ln), .val (.int (st + ln)), .val (.ref b96), .val (.int (own_hash (own_b c0 c1 c2 c3) st.toNatClampNeg ((st + ln).toInt - st.toInt).toNat 1)), .unset] [(.int (st + (2 : Int32))), (.ref b68), (.int (((29791 : Int32) + ((961 : Int32) * (own_b c0 c1 c2 c3 (st).toNatClampNeg))) + ((31 : Int32) * (own_b c0 c1 c2 c3 ((st + (1 : Int32))).toNatClampNeg))))])) rfl rfl (hb hby at_174) _ k) ?_
          show Goes p e below (T121.setTop (mkF m 175 #[.val (.int p1), .val (.int p2), .val (.int p3), .val (.int p4), .val (.int p5), .val (.ref b68), .val (.int st), .val (.int ln), .val (.int (st + ln)), .val (.ref b96), .val (.int (own_hash (own_b c0 c1 c2 c3) st.toNatClampNeg ((st + ln).toInt - st.toInt).toNat 1)), .unset] [(.int (own_b c0 c1 c2 c3 ((st + (2 : Int32))).toNatClampNeg)), (.int (((29791 : Int32) + ((961 : Int32) * (own_b c0 c1 c2 c3 (st).toNatClampNeg))) + ((31 : Int32) * (own_b c0 c1 c2 c3 ((st + (1 : Int32))).toNatClampNeg))))])) _
          refine Goes.of (fun t k => XS.iadd X121.here hx rfl (hb hby at_175) rfl k) ?_
          show Goes p e below (T121.setTop (mkF m 176 #[.val (.int p1), .val (.int p2), .val (.int p3), .val (.int p4), .val (.int p5), .val (.ref b68), .val (.int st), .val (.int ln), .val (.int (st + ln)), .val (.ref b96), .val (.int (own_hash (own_b c0 c1 c2 c3) st.toNatClampNeg ((st + ln).toInt - st.toInt).toNat 1)), .unset] [(.int ((((29791 : Int32) + ((961 : Int32) * (own_b c0 c1 c2 c3 (st).toNatClampNeg))) + ((31 : Int32) * (own_b c0 c1 c2 c3 ((st + (1 : Int32))).toNatClampNeg))) + (own_b c0 c1 c2 c3 ((st + (2 : Int32))).toNatClampNeg)))])) _
          refine Goes.of (fun t k => XS.istore X121.here hx rfl (hb hby at_176) rfl (l' := #[.val (.int p1), .val (.int p2), .val (.int p3), .val (.int p4), .val (.int p5), .val (.ref b68), .val (.int st), .val (.int ln), .val (.int (st + ln)), .val (.ref b96), .val (.int (own_hash (own_b c0 c1 c2 c3) st.toNatClampNeg ((st + ln).toInt - st.toInt).toNat 1)), .val (.int ((((29791 : Int32) + ((961 : Int32) * (own_b c0 c1 c2 c3 (st).toNatClampNeg))) + ((31 : Int32) * (own_b c0 c1 c2 c3 ((st + (1 : Int32))).toNatClampNeg))) + (own_b c0 c1 c2 c3 ((st + (2 : Int32))).toNatClampNeg)))]) rfl k) ?_
          show Goes p e below (T121.setTop (mkF m 178 #[.val (.int p1), .val (.int p2), .val (.int p3), .val (.int p4), .val (.int p5), .val (.ref b68), .val (.int st), .val (.int ln), .val (.int (st + ln)), .val (.ref b96), .val (.int (own_hash (own_b c0 c1 c2 c3) st.toNatClampNeg ((st + ln).toInt - st.toInt).toNat 1)), .val (.int ((((29791 : Int32) + ((961 : Int32) * (own_b c0 c1 c2 c3 (st).toNatClampNeg))) + ((31 : Int32) * (own_b c0 c1 c2 c3 ((st + (1 : Int32))).toNatClampNeg))) + (own_b c0 c1 c2 c3 ((st + (2 : Int32))).toNatClampNeg)))] [])) _
          refine Goes.of (fun t k => XS.goto X121.here hx rfl (pc0 := 178) (pc' := 226) rfl (hb hby at_178) (by decide) (by decide) k) ?_
          show Goes p e below (T121.setTop (mkF m 226 #[.val (.int p1), .val (.int p2), .val (.int p3), .val (.int p4), .val (.int p5), .val (.ref b68), .val (.int st), .val (.int ln), .val (.int (st + ln)), .val (.ref b96), .val (.int (own_hash (own_b c0 c1 c2 c3) st.toNatClampNeg ((st + ln).toInt - st.toInt).toNat 1)), .val (.int ((((29791 : Int32) + ((961 : Int32) * (own_b c0 c1 c2 c3 (st).toNatClampNeg))) + ((31 : Int32) * (own_b c0 c1 c2 c3 ((st + (1 : Int32))).toNatClampNeg))) + (own_b c0 c1 c2 c3 ((st + (2 : Int32))).toNatClampNeg)))] [])) _
          refine Goes.of (fun t k => XS.iload X121.here hx rfl (hb hby at_226) rfl k) ?_
          show Goes p e below (T121.setTop (mkF m 228 #[.val (.int p1), .val (.int p2), .val (.int p3), .val (.int p4), .val (.int p5), .val (.ref b68), .val (.int st), .val (.int ln), .val (.int (st + ln)), .val (.ref b96), .val (.int (own_hash (own_b c0 c1 c2 c3) st.toNatClampNeg ((st + ln).toInt - st.toInt).toNat 1)), .val (.int ((((29791 : Int32) + ((961 : Int32) * (own_b c0 c1 c2 c3 (st).toNatClampNeg))) + ((31 : Int32) * (own_b c0 c1 c2 c3 ((st + (1 : Int32))).toNatClampNeg))) + (own_b c0 c1 c2 c3 ((st + (2 : Int32))).toNatClampNeg)))] [(.int (own_hash (own_b c0 c1 c2 c3) st.toNatClampNeg ((st + ln).toInt - st.toInt).toNat 1))])) _
          refine Goes.of (fun t k => XS.iload X121.here hx rfl (hb hby at_228) rfl k) ?_
          show Goes p e below (T121.setTop (mkF m 230 #[.val (.int p1), .val (.int p2), .val (.int p3), .val (.int p4), .val (.int p5), .val (.ref b68), .val (.int st), .val (.int ln), .val (.int (st + ln)), .val (.ref b96), .val (.int (own_hash (own_b c0 c1 c2 c3) st.toNatClampNeg ((st + ln).toInt - st.toInt).toNat 1)), .val (.int ((((29791 : Int32) + ((961 : Int32) * (own_b c0 c1 c2 c3 (st).toNatClampNeg))) + ((31 : Int32) * (own_b c0 c1 c2 c3 ((st + (1 : Int32))).toNatClampNeg))) + (own_b c0 c1 c2 c3 ((st + (2 : Int32))).toNatClampNeg)))] [(.int ((((29791 : Int32) + ((961 : Int32) * (own_b c0 c1 c2 c3 (st).toNatClampNeg))) + ((31 : Int32) * (own_b c0 c1 c2 c3 ((st + (1 : Int32))).toNatClampNeg))) + (own_b c0 c1 c2 c3 ((st + (2 : Int32))).toNatClampNeg))), (.int (own_hash (own_b c0 c1 c2 c3) st.toNatClampNeg ((st + ln).toInt - st.toInt).toNat 1))])) _
          have hd230_147 : (own_hash (own_b c0 c1 c2 c3) st.toNatClampNeg ((st + ln).toInt - st.toInt).toNat 1) = ((((29791 : Int32) + ((961 : Int32) * (own_b c0 c1 c2 c3 (st).toNatClampNeg))) + ((31 : Int32) * (own_b c0 c1 c2 c3 ((st + (1 : Int32))).toNatClampNeg))) + (own_b c0 c1 c2 c3 ((st + (2 : Int32))).toNatClampNeg)) := by
            have en : ((st + ln).toInt - st.toInt).toNat = 3 := by omega
            rw [en, hj1.1, hj2.1]; simp only [own_hash]; grind
          refine Goes.of (fun t k => XS.icmpNo X121.here hx rfl (hb hby at_230) rfl (teq hd230_147).2 k) ?_
          show Goes p e below (T121.setTop (mkF m 233 #[.val (.int p1), .val (.int p2), .val (.int p3), .val (.int p4), .val (.int p5), .val (.ref b68), .val (.int st), .val (.int ln), .val (.int (st + ln)), .val (.ref b96), .val (.int (own_hash (own_b c0 c1 c2 c3) st.toNatClampNeg ((st + ln).toInt - st.toInt).toNat 1)), .val (.int ((((29791 : Int32) + ((961 : Int32) * (own_b c0 c1 c2 c3 (st).toNatClampNeg))) + ((31 : Int32) * (own_b c0 c1 c2 c3 ((st + (1 : Int32))).toNatClampNeg))) + (own_b c0 c1 c2 c3 ((st + (2 : Int32))).toNatClampNeg)))] [])) _
          refine Goes.of (fun t k => XS.iconst X121.here hx rfl (hb hby at_233) k) ?_
          show Goes p e below (T121.setTop (mkF m 234 #[.val (.int p1), .val (.int p2), .val (.int p3), .val (.int p4), .val (.int p5), .val (.ref b68), .val (.int st), .val (.int ln), .val (.int (st + ln)), .val (.ref b96), .val (.int (own_hash (own_b c0 c1 c2 c3) st.toNatClampNeg ((st + ln).toInt - st.toInt).toNat 1)), .val (.int ((((29791 : Int32) + ((961 : Int32) * (own_b c0 c1 c2 c3 (st).toNatClampNeg))) + ((31 : Int32) * (own_b c0 c1 c2 c3 ((st + (1 : Int32))).toNatClampNeg))) + (own_b c0 c1 c2 c3 ((st + (2 : Int32))).toNatClampNeg)))] [(.int (1 : Int32))])) _
          refine Goes.of (fun t k => XS.goto X121.here hx rfl (pc0 := 234) (pc' := 238) rfl (hb hby at_234) (by decide) (by decide) k) ?_
          show Goes p e below (T121.setTop (mkF m 238 #[.val (.int p1), .val (.int p2), .val (.int p3), .val (.int p4), .val (.int p5), .val (.ref b68), .val (.int st), .val (.int ln), .val (.int (st + ln)), .val (.ref b96), .val (.int (own_hash (own_b c0 c1 c2 c3) st.toNatClampNeg ((st + ln).toInt - st.toInt).toNat 1)), .val (.int ((((29791 : Int32) + ((961 : Int32) * (own_b c0 c1 c2 c3 (st).toNatClampNeg))) + ((31 : Int32) * (own_b c0 c1 c2 c3 ((st + (1 : Int32))).toNatClampNeg))) + (own_b c0 c1 c2 c3 ((st + (2 : Int32))).toNatClampNeg)))] [(.int (1 : Int32))])) _
          exact Goes.retN (t := .boolean) X121 hx Bd.returns (by simp) hlocks (hb hby at_238) (⟨rfl, N121⟩) (by decide) (by decide)
        · refine Goes.of (fun t k => XS.icmpYes X121.here hx rfl (pc0 := 141) (pc' := 181) rfl (hb hby at_141) rfl (feq hc141_137).2 (by decide) (by decide) k) ?_
          show Goes p e below (T121.setTop (mkF m 181 #[.val (.int p1), .val (.int p2), .val (.int p3), .val (.int p4), .val (.int p5), .val (.ref b68), .val (.int st), .val (.int ln), .val (.int (st + ln)), .val (.ref b96), .val (.int (own_hash (own_b c0 c1 c2 c3) st.toNatClampNeg ((st + ln).toInt - st.toInt).toNat 1)), .unset] [])) _
          have nl3 : ln.toInt ≠ 3 := fun q => hc141_137 (Int32.toInt_inj.mp (by rw [q]; decide))
          have kl4 : ln.toInt = 4 := by omega
          refine Goes.of (fun t k => X121.ldcInt hx hown (mvT hZ (hw _ (List.mem_of_getElem? (i := 31) rfl))) (g := (mkF m 181 #[.val (.int p1), .val (.int p2), .val (.int p3), .val (.int p4), .val (.int p5), .val (.ref b68), .val (.int st), .val (.int ln), .val (.int (st + ln)), .val (.ref b96), .val (.int (own_hash (own_b c0 c1 c2 c3) st.toNatClampNeg ((st + ln).toInt - st.toInt).toNat 1)), .unset] [])) rfl (hb hby at_181) _ k) ?_
          show Goes p e below (T121.setTop (mkF m 183 #[.val (.int p1), .val (.int p2), .val (.int p3), .val (.int p4), .val (.int p5), .val (.ref b68), .val (.int st), .val (.int ln), .val (.int (st + ln)), .val (.ref b96), .val (.int (own_hash (own_b c0 c1 c2 c3) st.toNatClampNeg ((st + ln).toInt - st.toInt).toNat 1)), .unset] [(.int (923521 : Int32))])) _
          refine Goes.of (fun t k => XS.sipush X121.here hx rfl (hb hby at_183) k) ?_
          show Goes p e below (T121.setTop (mkF m 186 #[.val (.int p1), .val (.int p2), .val (.int p3), .val (.int p4), .val (.int p5), .val (.ref b68), .val (.int st), .val (.int ln), .val (.int (st + ln)), .val (.ref b96), .val (.int (own_hash (own_b c0 c1 c2 c3) st.toNatClampNeg ((st + ln).toInt - st.toInt).toNat 1)), .unset] [(.int (29791 : Int32)), (.int (923521 : Int32))])) _
          refine Goes.of (fun t k => XS.aload X121.here hx rfl (hb hby at_186) rfl rfl k) ?_
          show Goes p e below (T121.setTop (mkF m 188 #[.val (.int p1), .val (.int p2), .val (.int p3), .val (.int p4), .val (.int p5), .val (.ref b68), .val (.int st), .val (.int ln), .val (.int (st + ln)), .val (.ref b96), .val (.int (own_hash (own_b c0 c1 c2 c3) st.toNatClampNeg ((st + ln).toInt - st.toInt).toNat 1)), .unset] [(.ref b68), (.int (29791 : Int32)), (.int (923521 : Int32))])) _
          refine Goes.of (fun t k => XS.iload X121.here hx rfl (hb hby at_188) rfl k) ?_
          show Goes p e below (T121.setTop (mkF m 190 #[.val (.int p1), .val (.int p2), .val (.int p3), .val (.int p4), .val (.int p5), .val (.ref b68), .val (.int st), .val (.int ln), .val (.int (st + ln)), .val (.ref b96), .val (.int (own_hash (own_b c0 c1 c2 c3) st.toNatClampNeg ((st + ln).toInt - st.toInt).toNat 1)), .unset] [(.int st), (.ref b68), (.int (29791 : Int32)), (.int (923521 : Int32))])) _
          have Vc148 := f116
          obtain ⟨clc148, Arc148, qc148, Sc148, Nc148, Hc148, Gc148⟩ := Vc148
          have hin149 : ¬ (st < 0 ∨ clc148.slots.size ≤ (st).toNatClampNeg) := inb_of Sc148 (own_in4 (by omega) (by omega))
          have hat150 : clc148.slots[(st).toNatClampNeg]? = some (.int (own_b c0 c1 c2 c3 (st).toNatClampNeg)) := Hc148.at hin149 (own_getD [c0, c1, c2, c3] _)
          refine Goes.of (fun t k => X121.baloadBytes hx (j := st) (v := (.int (own_b c0 c1 c2 c3 (st).toNatClampNeg))) (by rw [e121]; exact Arc148.1) (State.isArrayOf_alike hZ.alike Arc148.2.1) Arc148.2.2 hin149 hat150 (g := (mkF m 190 #[.val (.int p1), .val (.int p2), .val (.int p3), .val (.int p4), .val (.int p5), .val (.ref b68), .val (.int st), .val (.int ln), .val (.int (st + ln)), .val (.ref b96), .val (.int (own_hash (own_b c0 c1 c2 c3) st.toNatClampNeg ((st + ln).toInt - st.toInt).toNat 1)), .unset] [(.int st), (.ref b68), (.int (29791 : Int32)), (.int (923521 : Int32))])) rfl rfl (hb hby at_190) _ k) ?_
          show Goes p e below (T121.setTop (mkF m 191 #[.val (.int p1), .val (.int p2), .val (.int p3), .val (.int p4), .val (.int p5), .val (.ref b68), .val (.int st), .val (.int ln), .val (.int (st + ln)), .val (.ref b96), .val (.int (own_hash (own_b c0 c1 c2 c3) st.toNatClampNeg ((st + ln).toInt - st.toInt).toNat 1)), .unset] [(.int (own_b c0 c1 c2 c3 (st).toNatClampNeg)), (.int (29791 : Int32)), (.int (923521 : Int32))])) _
          refine Goes.of (fun t k => XS.imul X121.here hx rfl (hb hby at_191) rfl k) ?_
          show Goes p e below (T121.setTop (mkF m 192 #[.val (.int p1), .val (.int p2), .val (.int p3), .val (.int p4), .val (.int p5), .val (.ref b68), .val (.int st), .val (.int ln), .val (.int (st + ln)), .val (.ref b96), .val (.int (own_hash (own_b c0 c1 c2 c3) st.toNatClampNeg ((st + ln).toInt - st.toInt).toNat 1)), .unset] [(.int ((29791 : Int32) * (own_b c0 c1 c2 c3 (st).toNatClampNeg))), (.int (923521 : Int32))])) _
          refine Goes.of (fun t k => XS.iadd X121.here hx rfl (hb hby at_192) rfl k) ?_
          show Goes p e below (T121.setTop (mkF m 193 #[.val (.int p1), .val (.int p2), .val (.int p3), .val (.int p4), .val (.int p5), .val (.ref b68), .val (.int st), .val (.int ln), .val (.int (st + ln)), .val (.ref b96), .val (.int (own_hash (own_b c0 c1 c2 c3) st.toNatClampNeg ((st + ln).toInt - st.toInt).toNat 1)), .unset] [(.int ((923521 : Int32) + ((29791 : Int32) * (own_b c0 c1 c2 c3 (st).toNatClampNeg))))])) _
          refine Goes.of (fun t k => XS.sipush X121.here hx rfl (hb hby at_193) k) ?_
          show Goes p e below (T121.setTop (mkF m 196 #[.val (.int p1), .val (.int p2), .val (.int p3), .val (.int p4), .val (.int p5), .val (.ref b68), .val (.int st), .val (.int ln), .val (.int (st + ln)), .val (.ref b96), .val (.int (own_hash (own_b c0 c1 c2 c3) st.toNatClampNeg ((st + ln).toInt - st.toInt).toNat 1)), .unset] [(.int (961 : Int32)), (.int ((923521 : Int32) + ((29791 : Int32) * (own_b c0 c1 c2 c3 (st).toNatClampNeg))))])) _
          refine Goes.of (fun t k => XS.aload X121.here hx rfl (hb hby at_196) rfl rfl k) ?_
          show Goes p e below (T121.setTop (mkF m 198 #[.val (.int p1), .val (.int p2), .val (.int p3), .val (.int p4), .val (.int p5), .val (.ref b68), .val (.int st), .val (.int ln), .val (.int (st + ln)), .val (.ref b96), .val (.int (own_hash (own_b c0 c1 c2 c3) st.toNatClampNeg ((st + ln).toInt - st.toInt).toNat 1)), .unset] [(.ref b68), (.int (961 : Int32)), (.int ((923521 : Int32) + ((29791 : Int32) * (own_b c0 c1 c2 c3 (st).toNatClampNeg))))])) _
          refine Goes.of (fun t k => XS.iload X121.here hx rfl (hb hby at_198) rfl k) ?_
          show Goes p e below (T121.setTop (mkF m 200 #[.val (.int p1), .val (.int p2), .val (.int p3), .val (.int p4), .val (.int p5), .val (.ref b68), .val (.int st), .val (.int ln), .val (.int (st + ln)), .val (.ref b96), .val (.int (own_hash (own_b c0 c1 c2 c3) st.toNatClampNeg ((st + ln).toInt - st.toInt).toNat 1)), .unset] [(.int st), (.ref b68), (.int (961 : Int32)), (.int ((923521 : Int32) + ((29791 : Int32) * (own_b c0 c1 c2 c3 (st).toNatClampNeg))))])) _
          refine Goes.of (fun t k => XS.iconst X121.here hx rfl (hb hby at_200) k) ?_
          show Goes p e below (T121.setTop (mkF m 201 #[.val (.int p1), .val (.int p2), .val (.int p3), .val (.int p4), .val (.int p5), .val (.ref b68), .val (.int st), .val (.int ln), .val (.int (st + ln)), .val (.ref b96), .val (.int (own_hash (own_b c0 c1 c2 c3) st.toNatClampNeg ((st + ln).toInt - st.toInt).toNat 1)), .unset] [(.int (1 : Int32)), (.int st), (.ref b68), (.int (961 : Int32)), (.int ((923521 : Int32) + ((29791 : Int32) * (own_b c0 c1 c2 c3 (st).toNatClampNeg))))])) _
          refine Goes.of (fun t k => XS.iadd X121.here hx rfl (hb hby at_201) rfl k) ?_
          show Goes p e below (T121.setTop (mkF m 202 #[.val (.int p1), .val (.int p2), .val (.int p3), .val (.int p4), .val (.int p5), .val (.ref b68), .val (.int st), .val (.int ln), .val (.int (st + ln)), .val (.ref b96), .val (.int (own_hash (own_b c0 c1 c2 c3) st.toNatClampNeg ((st + ln).toInt - st.toInt).toNat 1)), .unset] [(.int (st + (1 : Int32))), (.ref b68), (.int (961 : Int32)), (.int ((923521 : Int32) + ((29791 : Int32) * (own_b c0 c1 c2 c3 (st).toNatClampNeg))))])) _
          have hj1 := own_add1 (i := st) (k := 1) (n := 1) (by decide) bs.1 (by omega)
          have Vc151 := f116
          obtain ⟨clc151, Arc151, qc151, Sc151, Nc151, Hc151, Gc151⟩ := Vc151
          have hin152 : ¬ ((st + (1 : Int32)) < 0 ∨ clc151.slots.size ≤ ((st + (1 : Int32))).toNatClampNeg) := inb_of Sc151 (own_in4 (by omega) (by omega))
          have hat153 : clc151.slots[((st + (1 : Int32))).toNatClampNeg]? = some (.int (own_b c0 c1 c2 c3 ((st + (1 : Int32))).toNatClampNeg)) := Hc151.at hin152 (own_getD [c0, c1, c2, c3] _)
          refine Goes.of (fun t k => X121.baloadBytes hx (j := (st + (1 : Int32))) (v := (.int (own_b c0 c1 c2 c3 ((st + (1 : Int32))).toNatClampNeg))) (by rw [e121]; exact Arc151.1) (State.isArrayOf_alike hZ.alike Arc151.2.1) Arc151.2.2 hin152 hat153 (g := (mkF m 202 #[.val (.int p1), .val (.int p2), .val (.int p3), .val (.int p4), .val (.int p5), .val (.ref b68), .val (.int st), .val (.int ln), .val (.int (st + ln)), .val (.ref b96), .val (.int (own_hash (own_b c0 c1 c2 c3) st.toNatClampNeg ((st + ln).toInt - st.toInt).toNat 1)), .unset] [(.int (st + (1 : Int32))), (.ref b68), (.int (961 : Int32)), (.int ((923521 : Int32) + ((29791 : Int32) * (own_b c0 c1 c2 c3 (st).toNatClampNeg))))])) rfl rfl (hb hby at_202) _ k) ?_
          show Goes p e below (T121.setTop (mkF m 203 #[.val (.int p1), .val (.int p2), .val (.int p3), .val (.int p4), .val (.int p5), .val (.ref b68), .val (.int st), .val (.int ln), .val (.int (st + ln)), .val (.ref b96), .val (.int (own_hash (own_b c0 c1 c2 c3) st.toNatClampNeg ((st + ln).toInt - st.toInt).toNat 1)), .unset] [(.int (own_b c0 c1 c2 c3 ((st + (1 : Int32))).toNatClampNeg)), (.int (961 : Int32)), (.int ((923521 : Int32) + ((29791 : Int32) * (own_b c0 c1 c2 c3 (st).toNatClampNeg))))])) _
          refine Goes.of (fun t k => XS.imul X121.here hx rfl (hb hby at_203) rfl k) ?_
          show Goes p e below (T121.setTop (mkF m 204 #[.val (.int p1), .val (.int p2), .val (.int p3), .val (.int p4), .val (.int p5), .val (.ref b68), .val (.int st), .val (.int ln), .val (.int (st + ln)), .val (.ref b96), .val (.int (own_hash (own_b c0 c1 c2 c3) st.toNatClampNeg ((st + ln).toInt - st.toInt).toNat 1)), .unset] [(.int ((961 : Int32) * (own_b c0 c1 c2 c3 ((st + (1 : Int32))).toNatClampNeg))), (.int ((923521 : Int32) + ((29791 : Int32) * (own_b c0 c1 c2 c3 (st).toNatClampNeg))))])) _
          refine Goes.of (fun t k => XS.iadd X121.here hx rfl (hb hby at_204) rfl k) ?_
          show Goes p e below (T121.setTop (mkF m 205 #[.val (.int p1), .val (.int p2), .val (.int p3), .val (.int p4), .val (.int p5), .val (.ref b68), .val (.int st), .val (.int ln), .val (.int (st + ln)), .val (.ref b96), .val (.int (own_hash (own_b c0 c1 c2 c3) st.toNatClampNeg ((st + ln).toInt - st.toInt).toNat 1)), .unset] [(.int (((923521 : Int32) + ((29791 : Int32) * (own_b c0 c1 c2 c3 (st).toNatClampNeg))) + ((961 : Int32) * (own_b c0 c1 c2 c3 ((st + (1 : Int32))).toNatClampNeg))))])) _
          refine Goes.of (fun t k => XS.bipush X121.here hx rfl (hb hby at_205) k) ?_
          show Goes p e below (T121.setTop (mkF m 207 #[.val (.int p1), .val (.int p2), .val (.int p3), .val (.int p4), .val (.int p5), .val (.ref b68), .val (.int st), .val (.int ln), .val (.int (st + ln)), .val (.ref b96), .val (.int (own_hash (own_b c0 c1 c2 c3) st.toNatClampNeg ((st + ln).toInt - st.toInt).toNat 1)), .unset] [(.int (31 : Int32)), (.int (((923521 : Int32) + ((29791 : Int32) * (own_b c0 c1 c2 c3 (st).toNatClampNeg))) + ((961 : Int32) * (own_b c0 c1 c2 c3 ((st + (1 : Int32))).toNatClampNeg))))])) _
          refine Goes.of (fun t k => XS.aload X121.here hx rfl (hb hby at_207) rfl rfl k) ?_
          show Goes p e below (T121.setTop (mkF m 209 #[.val (.int p1), .val (.int p2), .val (.int p3), .val (.int p4), .val (.int p5), .val (.ref b68), .val (.int st), .val (.int ln), .val (.int (st + ln)), .val (.ref b96), .val (.int (own_hash (own_b c0 c1 c2 c3) st.toNatClampNeg ((st + ln).toInt - st.toInt).toNat 1)), .unset] [(.ref b68), (.int (31 : Int32)), (.int (((923521 : Int32) + ((29791 : Int32) * (own_b c0 c1 c2 c3 (st).toNatClampNeg))) + ((961 : Int32) * (own_b c0 c1 c2 c3 ((st + (1 : Int32))).toNatClampNeg))))])) _
          refine Goes.of (fun t k => XS.iload X121.here hx rfl (hb hby at_209) rfl k) ?_
          show Goes p e below (T121.setTop (mkF m 211 #[.val (.int p1), .val (.int p2), .val (.int p3), .val (.int p4), .val (.int p5), .val (.ref b68), .val (.int st), .val (.int ln), .val (.int (st + ln)), .val (.ref b96), .val (.int (own_hash (own_b c0 c1 c2 c3) st.toNatClampNeg ((st + ln).toInt - st.toInt).toNat 1)), .unset] [(.int st), (.ref b68), (.int (31 : Int32)), (.int (((923521 : Int32) + ((29791 : Int32) * (own_b c0 c1 c2 c3 (st).toNatClampNeg))) + ((961 : Int32) * (own_b c0 c1 c2 c3 ((st + (1 : Int32))).toNatClampNeg))))])) _
          refine Goes.of (fun t k => XS.iconst X121.here hx rfl (hb hby at_211) k) ?_
          show Goes p e below (T121.setTop (mkF m 212 #[.val (.int p1), .val (.int p2), .val (.int p3), .val (.int p4), .val (.int p5), .val (.ref b68), .val (.int st), .val (.int ln), .val (.int (st + ln)), .val (.ref b96), .val (.int (own_hash (own_b c0 c1 c2 c3) st.toNatClampNeg ((st + ln).toInt - st.toInt).toNat 1)), .unset] [(.int (2 : Int32)), (.int st), (.ref b68), (.int (31 : Int32)), (.int (((923521 : Int32) + ((29791 : Int32) * (own_b c0 c1 c2 c3 (st).toNatClampNeg))) + ((961 : Int32) * (own_b c0 c1 c2 c3 ((st + (1 : Int32))).toNatClampNeg))))])) _
          refine Goes.of (fun t k => XS.iadd X121.here hx rfl (hb hby at_212) rfl k) ?_
          show Goes p e below (T121.setTop (mkF m 213 #[.val (.int p1), .val (.int p2), .val (.int p3), .val (.int p4), .val (.int p5), .val (.ref b68), .val (.int st), .val (.int ln), .val (.int (st + ln)), .val (.ref b96), .val (.int (own_hash (own_b c0 c1 c2 c3) st.toNatClampNeg ((st + ln).toInt - st.toInt).toNat 1)), .unset] [(.int (st + (2 : Int32))), (.ref b68), (.int (31 : Int32)), (.int (((923521 : Int32) + ((29791 : Int32) * (own_b c0 c1 c2 c3 (st).toNatClampNeg))) + ((961 : Int32) * (own_b c0 c1 c2 c3 ((st + (1 : Int32))).toNatClampNeg))))])) _
          have hj2 := own_add1 (i := st) (k := 2) (n := 2) (by decide) bs.1 (by omega)
          have Vc154 := f116
          obtain ⟨clc154, Arc154, qc154, Sc154, Nc154, Hc154, Gc154⟩ := Vc154
          have hin155 : ¬ ((st + (2 : Int32)) < 0 ∨ clc154.slots.size ≤ ((st + (2 : Int32))).toNatClampNeg) := inb_of Sc154 (own_in4 (by omega) (by omega))
          have hat156 : clc154.slots[((st + (2 : Int32))).toNatClampNeg]? = some (.int (own_b c0 c1 c2 c3 ((st + (2 : Int32))).toNatClampNeg)) := Hc154.at hin155 (own_getD [c0, c1, c2, c3] _)
          refine Goes.of (fun t k => X121.baloadBytes hx (j := (st + (2 : Int32))) (v := (.int (own_b c0 c1 c2 c3 ((st + (2 : Int32))).toNatClampNeg))) (by rw [e121]; exact Arc154.1) (State.isArrayOf_alike hZ.alike Arc154.2.1) Arc154.2.2 hin155 hat156 (g := (mkF m 213 #[.val (.int p1), .val (.int p2), .val (.int p3), .val (.int p4), .val (.int p5), .val (.ref b68), .val (.int st), .val (.int ln), .val (.int (st + ln)), .val (.ref b96), .val (.int (own_hash (own_b c0 c1 c2 c3) st.toNatClampNeg ((st + ln).toInt - st.toInt).toNat 1)), .unset] [(.int (st + (2 : Int32))), (.ref b68), (.int (31 : Int32)), (.int (((923521 : Int32) + ((29791 : Int32) * (own_b c0 c1 c2 c3 (st).toNatClampNeg))) + ((961 : Int32) * (own_b c0 c1 c2 c3 ((st + (1 : Int32))).toNatClampNeg))))])) rfl rfl (hb hby at_213) _ k) ?_
          show Goes p e below (T121.setTop (mkF m 214 #[.val (.int p1), .val (.int p2), .val (.int p3), .val (.int p4), .val (.int p5), .val (.ref b68), .val (.int st), .val (.int ln), .val (.int (st + ln)), .val (.ref b96), .val (.int (own_hash (own_b c0 c1 c2 c3) st.toNatClampNeg ((st + ln).toInt - st.toInt).toNat 1)), .unset] [(.int (own_b c0 c1 c2 c3 ((st + (2 : Int32))).toNatClampNeg)), (.int (31 : Int32)), (.int (((923521 : Int32) + ((29791 : Int32) * (own_b c0 c1 c2 c3 (st).toNatClampNeg))) + ((961 : Int32) * (own_b c0 c1 c2 c3 ((st + (1 : Int32))).toNatClampNeg))))])) _
          refine Goes.of (fun t k => XS.imul X121.here hx rfl (hb hby at_214) rfl k) ?_
          show Goes p e below (T121.setTop (mkF m 215 #[.val (.int p1), .val (.int p2), .val (.int p3), .val (.int p4), .val (.int p5), .val (.ref b68), .val (.int st), .val (.int ln), .val (.int (st + ln)), .val (.ref b96), .val (.int (own_hash (own_b c0 c1 c2 c3) st.toNatClampNeg ((st + ln).toInt - st.toInt).toNat 1)), .unset] [(.int ((31 : Int32) * (own_b c0 c1 c2 c3 ((st + (2 : Int32))).toNatClampNeg))), (.int (((923521 : Int32) + ((29791 : Int32) * (own_b c0 c1 c2 c3 (st).toNatClampNeg))) + ((961 : Int32) * (own_b c0 c1 c2 c3 ((st + (1 : Int32))).toNatClampNeg))))])) _
          refine Goes.of (fun t k => XS.iadd X121.here hx rfl (hb hby at_215) rfl k) ?_
          show Goes p e below (T121.setTop (mkF m 216 #[.val (.int p1), .val (.int p2), .val (.int p3), .val (.int p4), .val (.int p5), .val (.ref b68), .val (.int st), .val (.int ln), .val (.int (st + ln)), .val (.ref b96), .val (.int (own_hash (own_b c0 c1 c2 c3) st.toNatClampNeg ((st + ln).toInt - st.toInt).toNat 1)), .unset] [(.int ((((923521 : Int32) + ((29791 : Int32) * (own_b c0 c1 c2 c3 (st).toNatClampNeg))) + ((961 : Int32) * (own_b c0 c1 c2 c3 ((st + (1 : Int32))).toNatClampNeg))) + ((31 : Int32) * (own_b c0 c1 c2 c3 ((st + (2 : Int32))).toNatClampNeg))))])) _
          refine Goes.of (fun t k => XS.aload X121.here hx rfl (hb hby at_216) rfl rfl k) ?_
          show Goes p e below (T121.setTop (mkF m 218 #[.val (.int p1), .val (.int p2), .val (.int p3), .val (.int p4), .val (.int p5), .val (.ref b68), .val (.int st), .val (.int ln), .val (.int (st + ln)), .val (.ref b96), .val (.int (own_hash (own_b c0 c1 c2 c3) st.toNatClampNeg ((st + ln).toInt - st.toInt).toNat 1)), .unset] [(.ref b68), (.int ((((923521 : Int32) + ((29791 : Int32) * (own_b c0 c1 c2 c3 (st).toNatClampNeg))) + ((961 : Int32) * (own_b c0 c1 c2 c3 ((st + (1 : Int32))).toNatClampNeg))) + ((31 : Int32) * (own_b c0 c1 c2 c3 ((st + (2 : Int32))).toNatClampNeg))))])) _
          refine Goes.of (fun t k => XS.iload X121.here hx rfl (hb hby at_218) rfl k) ?_
          show Goes p e below (T121.setTop (mkF m 220 #[.val (.int p1), .val (.int p2), .val (.int p3), .val (.int p4), .val (.int p5), .val (.ref b68), .val (.int st), .val (.int ln), .val (.int (st + ln)), .val (.ref b96), .val (.int (own_hash (own_b c0 c1 c2 c3) st.toNatClampNeg ((st + ln).toInt - st.toInt).toNat 1)), .unset] [(.int st), (.ref b68), (.int ((((923521 : Int32) + ((29791 : Int32) * (own_b c0 c1 c2 c3 (st).toNatClampNeg))) + ((961 : Int32) * (own_b c0 c1 c2 c3 ((st + (1 : Int32))).toNatClampNeg))) + ((31 : Int32) * (own_b c0 c1 c2 c3 ((st + (2 : Int32))).toNatClampNeg))))])) _
          refine Goes.of (fun t k => XS.iconst X121.here hx rfl (hb hby at_220) k) ?_
          show Goes p e below (T121.setTop (mkF m 221 #[.val (.int p1), .val (.int p2), .val (.int p3), .val (.int p4), .val (.int p5), .val (.ref b68), .val (.int st), .val (.int ln), .val (.int (st + ln)), .val (.ref b96), .val (.int (own_hash (own_b c0 c1 c2 c3) st.toNatClampNeg ((st + ln).toInt - st.toInt).toNat 1)), .unset] [(.int (3 : Int32)), (.int st), (.ref b68), (.int ((((923521 : Int32) + ((29791 : Int32) * (own_b c0 c1 c2 c3 (st).toNatClampNeg))) + ((961 : Int32) * (own_b c0 c1 c2 c3 ((st + (1 : Int32))).toNatClampNeg))) + ((31 : Int32) * (own_b c0 c1 c2 c3 ((st + (2 : Int32))).toNatClampNeg))))])) _
          refine Goes.of (fun t k => XS.iadd X121.here hx rfl (hb hby at_221) rfl k) ?_
          show Goes p e below (T121.setTop (mkF m 222 #[.val (.int p1), .val (.int p2), .val (.int p3), .val (.int p4), .val (.int p5), .val (.ref b68), .val (.int st), .val (.int ln), .val (.int (st + ln)), .val (.ref b96), .val (.int (own_hash (own_b c0 c1 c2 c3) st.toNatClampNeg ((st + ln).toInt - st.toInt).toNat 1)), .unset] [(.int (st + (3 : Int32))), (.ref b68), (.int ((((923521 : Int32) + ((29791 : Int32) * (own_b c0 c1 c2 c3 (st).toNatClampNeg))) + ((961 : Int32) * (own_b c0 c1 c2 c3 ((st + (1 : Int32))).toNatClampNeg))) + ((31 : Int32) * (own_b c0 c1 c2 c3 ((st + (2 : Int32))).toNatClampNeg))))])) _
          have hj3 := own_add1 (i := st) (k := 3) (n := 3) (by decide) bs.1 (by omega)
          have Vc157 := f116
          obtain ⟨clc157, Arc157, qc157, Sc157, Nc157, Hc157, Gc157⟩ := Vc157
          have hin158 : ¬ ((st + (3 : Int32)) < 0 ∨ clc157.slots.size ≤ ((st + (3 : Int32))).toNatClampNeg) := inb_of Sc157 (own_in4 (by omega) (by omega))
          have hat159 : clc157.slots[((st + (3 : Int32))).toNatClampNeg]? = some (.int (own_b c0 c1 c2 c3 ((st + (3 : Int32))).toNatClampNeg)) := Hc157.at hin158 (own_getD [c0, c1, c2, c3] _)
          refine Goes.of (fun t k => X121.baloadBytes hx (j := (st + (3 : Int32))) (v := (.int (own_b c0 c1 c2 c3 ((st + (3 : Int32))).toNatClampNeg))) (by rw [e121]; exact Arc157.1) (State.isArrayOf_alike hZ.alike Arc157.2.1) Arc157.2.2 hin158 hat159 (g := (mkF m 222 #[.val (.int p1), .val (.int p2), .val (.int p3), .val (.int p4), .val (.int p5), .val (.ref b68), .val (.int st), .val (.int ln), .val (.int (st + ln)), .val (.ref b96), .val (.int (own_hash (own_b c0 c1 c2 c3) st.toNatClampNeg ((st + ln).toInt - st.toInt).toNat 1)), .unset] [(.int (st + (3 : Int32))), (.ref b68), (.int ((((923521 : Int32) + ((29791 : Int32) * (own_b c0 c1 c2 c3 (st).toNatClampNeg))) + ((961 : Int32) * (own_b c0 c1 c2 c3 ((st + (1 : Int32))).toNatClampNeg))) + ((31 : Int32) * (own_b c0 c1 c2 c3 ((st + (2 : Int32))).toNatClampNeg))))])) rfl rfl (hb hby at_222) _ k) ?_
          show Goes p e below (T121.setTop (mkF m 223 #[.val (.int p1), .val (.int p2), .val (.int p3), .val (.int p4), .val (.int p5), .val (.ref b68), .val (.int st), .val (.int ln), .val (.int (st + ln)), .val (.ref b96), .val (.int (own_hash (own_b c0 c1 c2 c3) st.toNatClampNeg ((st + ln).toInt - st.toInt).toNat 1)), .unset] [(.int (own_b c0 c1 c2 c3 ((st + (3 : Int32))).toNatClampNeg)), (.int ((((923521 : Int32) + ((29791 : Int32) * (own_b c0 c1 c2 c3 (st).toNatClampNeg))) + ((961 : Int32) * (own_b c0 c1 c2 c3 ((st + (1 : Int32))).toNatClampNeg))) + ((31 : Int32) * (own_b c0 c1 c2 c3 ((st + (2 : Int32))).toNatClampNeg))))])) _
          refine Goes.of (fun t k => XS.iadd X121.here hx rfl (hb hby at_223) rfl k) ?_
          show Goes p e below (T121.setTop (mkF m 224 #[.val (.int p1), .val (.int p2), .val (.int p3), .val (.int p4), .val (.int p5), .val (.ref b68), .val (.int st), .val (.int ln), .val (.int (st + ln)), .val (.ref b96), .val (.int (own_hash (own_b c0 c1 c2 c3) st.toNatClampNeg ((st + ln).toInt - st.toInt).toNat 1)), .unset] [(.int (((((923521 : Int32) + ((29791 : Int32) * (own_b c0 c1 c2 c3 (st).toNatClampNeg))) + ((961 : Int32) * (own_b c0 c1 c2 c3 ((st + (1 : Int32))).toNatClampNeg))) + ((31 : Int32) * (own_b c0 c1 c2 c3 ((st + (2 : Int32))).toNatClampNeg))) + (own_b c0 c1 c2 c3 ((st + (3 : Int32))).toNatClampNeg)))])) _
          refine Goes.of (fun t k => XS.istore X121.here hx rfl (hb hby at_224) rfl (l' := #[.val (.int p1), .val (.int p2), .val (.int p3), .val (.int p4), .val (.int p5), .val (.ref b68), .val (.int st), .val (.int ln), .val (.int (st + ln)), .val (.ref b96), .val (.int (own_hash (own_b c0 c1 c2 c3) st.toNatClampNeg ((st + ln).toInt - st.toInt).toNat 1)), .val (.int (((((923521 : Int32) + ((29791 : Int32) * (own_b c0 c1 c2 c3 (st).toNatClampNeg))) + ((961 : Int32) * (own_b c0 c1 c2 c3 ((st + (1 : Int32))).toNatClampNeg))) + ((31 : Int32) * (own_b c0 c1 c2 c3 ((st + (2 : Int32))).toNatClampNeg))) + (own_b c0 c1 c2 c3 ((st + (3 : Int32))).toNatClampNeg)))]) rfl k) ?_
          show Goes p e below (T121.setTop (mkF m 226 #[.val (.int p1), .val (.int p2), .val (.int p3), .val (.int p4), .val (.int p5), .val (.ref b68), .val (.int st), .val (.int ln), .val (.int (st + ln)), .val (.ref b96), .val (.int (own_hash (own_b c0 c1 c2 c3) st.toNatClampNeg ((st + ln).toInt - st.toInt).toNat 1)), .val (.int (((((923521 : Int32) + ((29791 : Int32) * (own_b c0 c1 c2 c3 (st).toNatClampNeg))) + ((961 : Int32) * (own_b c0 c1 c2 c3 ((st + (1 : Int32))).toNatClampNeg))) + ((31 : Int32) * (own_b c0 c1 c2 c3 ((st + (2 : Int32))).toNatClampNeg))) + (own_b c0 c1 c2 c3 ((st + (3 : Int32))).toNatClampNeg)))] [])) _
          refine Goes.of (fun t k => XS.iload X121.here hx rfl (hb hby at_226) rfl k) ?_
          show Goes p e below (T121.setTop (mkF m 228 #[.val (.int p1), .val (.int p2), .val (.int p3), .val (.int p4), .val (.int p5), .val (.ref b68), .val (.int st), .val (.int ln), .val (.int (st + ln)), .val (.ref b96), .val (.int (own_hash (own_b c0 c1 c2 c3) st.toNatClampNeg ((st + ln).toInt - st.toInt).toNat 1)), .val (.int (((((923521 : Int32) + ((29791 : Int32) * (own_b c0 c1 c2 c3 (st).toNatClampNeg))) + ((961 : Int32) * (own_b c0 c1 c2 c3 ((st + (1 : Int32))).toNatClampNeg))) + ((31 : Int32) * (own_b c0 c1 c2 c3 ((st + (2 : Int32))).toNatClampNeg))) + (own_b c0 c1 c2 c3 ((st + (3 : Int32))).toNatClampNeg)))] [(.int (own_hash (own_b c0 c1 c2 c3) st.toNatClampNeg ((st + ln).toInt - st.toInt).toNat 1))])) _
          refine Goes.of (fun t k => XS.iload X121.here hx rfl (hb hby at_228) rfl k) ?_
          show Goes p e below (T121.setTop (mkF m 230 #[.val (.int p1), .val (.int p2), .val (.int p3), .val (.int p4), .val (.int p5), .val (.ref b68), .val (.int st), .val (.int ln), .val (.int (st + ln)), .val (.ref b96), .val (.int (own_hash (own_b c0 c1 c2 c3) st.toNatClampNeg ((st + ln).toInt - st.toInt).toNat 1)), .val (.int (((((923521 : Int32) + ((29791 : Int32) * (own_b c0 c1 c2 c3 (st).toNatClampNeg))) + ((961 : Int32) * (own_b c0 c1 c2 c3 ((st + (1 : Int32))).toNatClampNeg))) + ((31 : Int32) * (own_b c0 c1 c2 c3 ((st + (2 : Int32))).toNatClampNeg))) + (own_b c0 c1 c2 c3 ((st + (3 : Int32))).toNatClampNeg)))] [(.int (((((923521 : Int32) + ((29791 : Int32) * (own_b c0 c1 c2 c3 (st).toNatClampNeg))) + ((961 : Int32) * (own_b c0 c1 c2 c3 ((st + (1 : Int32))).toNatClampNeg))) + ((31 : Int32) * (own_b c0 c1 c2 c3 ((st + (2 : Int32))).toNatClampNeg))) + (own_b c0 c1 c2 c3 ((st + (3 : Int32))).toNatClampNeg))), (.int (own_hash (own_b c0 c1 c2 c3) st.toNatClampNeg ((st + ln).toInt - st.toInt).toNat 1))])) _
          have hd230_160 : (own_hash (own_b c0 c1 c2 c3) st.toNatClampNeg ((st + ln).toInt - st.toInt).toNat 1) = (((((923521 : Int32) + ((29791 : Int32) * (own_b c0 c1 c2 c3 (st).toNatClampNeg))) + ((961 : Int32) * (own_b c0 c1 c2 c3 ((st + (1 : Int32))).toNatClampNeg))) + ((31 : Int32) * (own_b c0 c1 c2 c3 ((st + (2 : Int32))).toNatClampNeg))) + (own_b c0 c1 c2 c3 ((st + (3 : Int32))).toNatClampNeg)) := by
            have en : ((st + ln).toInt - st.toInt).toNat = 4 := by omega
            rw [en, hj1.1, hj2.1, hj3.1]; simp only [own_hash]; grind
          refine Goes.of (fun t k => XS.icmpNo X121.here hx rfl (hb hby at_230) rfl (teq hd230_160).2 k) ?_
          show Goes p e below (T121.setTop (mkF m 233 #[.val (.int p1), .val (.int p2), .val (.int p3), .val (.int p4), .val (.int p5), .val (.ref b68), .val (.int st), .val (.int ln), .val (.int (st + ln)), .val (.ref b96), .val (.int (own_hash (own_b c0 c1 c2 c3) st.toNatClampNeg ((st + ln).toInt - st.toInt).toNat 1)), .val (.int (((((923521 : Int32) + ((29791 : Int32) * (own_b c0 c1 c2 c3 (st).toNatClampNeg))) + ((961 : Int32) * (own_b c0 c1 c2 c3 ((st + (1 : Int32))).toNatClampNeg))) + ((31 : Int32) * (own_b c0 c1 c2 c3 ((st + (2 : Int32))).toNatClampNeg))) + (own_b c0 c1 c2 c3 ((st + (3 : Int32))).toNatClampNeg)))] [])) _
          refine Goes.of (fun t k => XS.iconst X121.here hx rfl (hb hby at_233) k) ?_
          show Goes p e below (T121.setTop (mkF m 234 #[.val (.int p1), .val (.int p2), .val (.int p3), .val (.int p4), .val (.int p5), .val (.ref b68), .val (.int st), .val (.int ln), .val (.int (st + ln)), .val (.ref b96), .val (.int (own_hash (own_b c0 c1 c2 c3) st.toNatClampNeg ((st + ln).toInt - st.toInt).toNat 1)), .val (.int (((((923521 : Int32) + ((29791 : Int32) * (own_b c0 c1 c2 c3 (st).toNatClampNeg))) + ((961 : Int32) * (own_b c0 c1 c2 c3 ((st + (1 : Int32))).toNatClampNeg))) + ((31 : Int32) * (own_b c0 c1 c2 c3 ((st + (2 : Int32))).toNatClampNeg))) + (own_b c0 c1 c2 c3 ((st + (3 : Int32))).toNatClampNeg)))] [(.int (1 : Int32))])) _
          refine Goes.of (fun t k => XS.goto X121.here hx rfl (pc0 := 234) (pc' := 238) rfl (hb hby at_234) (by decide) (by decide) k) ?_
          show Goes p e below (T121.setTop (mkF m 238 #[.val (.int p1), .val (.int p2), .val (.int p3), .val (.int p4), .val (.int p5), .val (.ref b68), .val (.int st), .val (.int ln), .val (.int (st + ln)), .val (.ref b96), .val (.int (own_hash (own_b c0 c1 c2 c3) st.toNatClampNeg ((st + ln).toInt - st.toInt).toNat 1)), .val (.int (((((923521 : Int32) + ((29791 : Int32) * (own_b c0 c1 c2 c3 (st).toNatClampNeg))) + ((961 : Int32) * (own_b c0 c1 c2 c3 ((st + (1 : Int32))).toNatClampNeg))) + ((31 : Int32) * (own_b c0 c1 c2 c3 ((st + (2 : Int32))).toNatClampNeg))) + (own_b c0 c1 c2 c3 ((st + (3 : Int32))).toNatClampNeg)))] [(.int (1 : Int32))])) _
          exact Goes.retN (t := .boolean) X121 hx Bd.returns (by simp) hlocks (hb hby at_238) (⟨rfl, N121⟩) (by decide) (by decide)
set_option maxRecDepth 65536 in
set_option maxHeartbeats 40000000 in
theorem comes_1 {Post : Tables → Env → Array Value → State → Outcome → State → Prop} (hpost : ∀ tb e args s v u, (limb_1_1.after args s (.returned v) u = true ∧ limb_1_2.after args s (.returned v) u = true ∧ True) → FrameEnd s (.returned v) u (Jvm.fieldLocs frame_1_writes args s ++ Jvm.arrayLocs frame_1_arrays args s ++ Jvm.staticLocs frame_1_statics s) 16 128 → Post tb e args s (.returned v) u) :
    ArmFor flags0 classFile x code maxLocals ret World_1 tables_1 room_1 Calls_1 rest_1 Pre_1 Post := by
  intro l hfl _ _ p e ha hc hk s m args below hf hA hF happ hP
  obtain ⟨hcalls, hrest, hpre⟩ := hP
  obtain ⟨-, -, -, hnamed, -, -, -, hat⟩ := (Spec.applies_iff hf).mp happ
  obtain ⟨hg, hn⟩ := and_e (Cond.before_iff.mp (show (Jvm.Cond.and given_1 narrow_1).before args s = true from hpre))
  obtain ⟨g161, g162⟩ := and_e hg
  obtain ⟨g163, g164⟩ := and_e g162
  obtain ⟨g165, g166⟩ := and_e g164
  obtain ⟨g167, g168⟩ := and_e g166
  obtain ⟨g169, g170⟩ := and_e g168
  obtain ⟨w0, w1, w2, w3, w4, rfl⟩ : ∃ w0 w1 w2 w3 w4 : Value, args = #[w0, w1, w2, w3, w4] := by
    have hs : args.size = 5 := by simpa [Cond.value, given_1] using g161
    obtain ⟨L⟩ := args
    match L, hs with
    | [w0, w1, w2, w3, w4], _ => exact ⟨w0, w1, w2, w3, w4, rfl⟩
  have hw := fun d (hd : d ∈ tables_1) => atoms_spec (ws := Jvm.Cond.code x code maxLocals ret :: tables_1) hat d (List.mem_cons_of_mem _ hd)
  have hfit : Fit s := fun {y c} hc i hi => by
    obtain ⟨ha, rfl⟩ := Array.getElem?_eq_some_iff.mp hc
    have q := List.all_eq_true.mp ((Array.all_eq_true_iff_forall_mem.mp hF) _ (Array.getElem_mem ha)) i (List.mem_range.mpr hi)
    simpa [Array.getElem?_eq_getElem hi] using q
  obtain ⟨i0, ei0⟩ := is_v g163
  obtain rfl : w0 = (.int i0) := Option.some.inj ei0
  obtain ⟨i1, ei1⟩ := is_v g165
  obtain rfl : w1 = (.int i1) := Option.some.inj ei1
  obtain ⟨i2, ei2⟩ := is_v g167
  obtain rfl : w2 = (.int i2) := Option.some.inj ei2
  obtain ⟨i3, ei3⟩ := is_v g169
  obtain rfl : w3 = (.int i3) := Option.some.inj ei3
  obtain ⟨i4, ei4⟩ := is_v g170
  obtain rfl : w4 = (.int i4) := Option.some.inj ei4
  obtain ⟨n1, n2⟩ := and_e hn
  obtain ⟨aN, vN⟩ := arr_v n1
  have SN := Sta.start vN (Or.inr ⟨(hw _ (List.mem_of_getElem? (i := 3) rfl)), (hw _ (List.mem_of_getElem? (i := 8) rfl))⟩)
  obtain ⟨n, o, h1, h2, h3, _, L, rfl, ⟨rfl, N⟩, hq⟩ := rm0 l s _ hw tables_1 i0 i1 i2 i3 i4 aN s.heap s.heap.size (Nat.le_refl _) (Old.start s) SN p e ha hc hk s m _ below hf ((Spec.applies_iff_loose hf).mp happ).1 ⟨rfl, State.Warmed39.refl s, rfl⟩ trivial
  refine ⟨n, _, h1, h2, h3, hpost _ _ _ _ _ _ ⟨Cond.after_iff.mpr rfl, Cond.after_iff.mpr (eq_i res_at (Term.int_eval (1)) rfl), trivial⟩ ⟨hq.1, hq.2.1, (hq.2.2.sift fun y hy => Or.inr (N y hy)).mono (by decide) (by decide)⟩⟩
theorem main_1_1 : Claimed_1_1 := comes_1 fun _ _ _ _ _ _ h hF => ⟨h.1, hF⟩
theorem main_1_2 : Claimed_1_2 := comes_1 fun _ _ _ _ _ _ h hF => ⟨h.2.1, hF⟩
end Jvm.Pilot.@@N@@
namespace Jvm.Pilot.@@N@@
open Jvm Jvm.ClassFile Sem Op Lib Jvm.Free Jvm.Stand Jvm.Pilot.@@N@@.Jvm.D
/-! MADE BY PROGRAM (witnessworld.py) out of the Statement's table words and the real class files: 10 classes; the members and pool entries that the words name. The judged class is class 1, her method 1. -/
namespace start1
open Jvm.ClassFile
def u (s : String) : CpInfo := .utf8 (stringToUtf16 s)
/-- a pool by its gaps: so many unusable entries, then the entry; so many at the end -/
def gap : Nat → List CpInfo → List CpInfo
  | 0, r => r
  | n + 1, r => .unusable :: gap n r
def poolList (es : List (Nat × CpInfo)) (last : Nat) : List CpInfo := es.foldr (fun e r => gap e.1 (e.2 :: r)) (gap last [])
def pool (es : List (Nat × CpInfo)) (last : Nat) : Array CpInfo := ⟨poolList es last⟩
def fileOf (pool : Array CpInfo) (this : Nat) (attrs : Array Attribute := #[]) (ms : Array MethodInfo := #[]) (fl : Nat := 33) (sup : Nat := 0) (ifs : Array Nat := #[]) (fds : Array FieldInfo := #[]) : ClassFile where
  minorVersion := 0
  majorVersion := 65
  constantPool := pool
  accessFlags := fl
  thisClass := this
  superClass := sup
  interfaces := ifs
  fields := fds
  methods := ms
  attributes := attrs
def plain (name : String) (sup : Option ClassId) : Class where
  name := name
  kind := .ordinary
  loader := none
  accessFlags := 33
  super := sup
  interfaces := #[]
  cf := none
  fields := #[]
  methods := #[]
  instanceTypes := #[]
  staticTypes := #[]
  resolved := #[]
  callSites := []
  init := .initialized
  statics := none
  mirror := none

def pool0 : Array CpInfo := pool [(5, u "<init>"), (0, u "()V"), (1, .class_ 10), (1, u "java/lang/Object")] 113

def k0c0 : Code := { maxStack := 0, maxLocals := 1, code := object_method_1_code, exceptionTable := #[], attributes := #[] }
def k0m0 : Method := { name := "<init>", desc := "()V", sig := { parameters := [], returnType := none }, accessFlags := 1, code := some k0c0 }
/-- java/lang/Object -/
def k0 : Class := { plain "java/lang/Object" none with
  accessFlags := 33
  interfaces := #[]
  cf := some (fileOf pool0 8 #[] #[{ accessFlags := 1, nameIndex := 5, descriptorIndex := 6, attributes := #[] }] 33 0 #[] #[])
  fields := #[]
  methods := #[k0m0]
  instanceTypes := #[]
  staticTypes := #[]
  resolved := Array.replicate 124 none
  statics := none }

def pool1 : Array CpInfo := pool [(2, .class_ 4), (0, .nameAndType 5 6), (0, u "java/lang/Object"), (0, u "<init>"), (0, u "()V"), (0, .class_ 8), (0, u "com/example/entries_on_wire/entriesonwire/store/Key"), (0, .methodref 7 3), (0, .methodref 7 11), (0, .nameAndType 12 13), (0, u "pointAt"), (0, u "([BII)Lcom/example/entries_on_wire/entriesonwire/store/Key;"), (0, .methodref 7 15), (0, .nameAndType 16 17), (0, u "hashCode"), (0, u "()I"), (0, .integer 923521), (0, .class_ 20), (0, u "com/example/entries_on_wire/entriesonwire/store/KeyHashCodePinLaw"), (2, u "law"), (0, u "(IIIII)Z")] 5

def k1m0 : Method := { name := "<init>", desc := "()V", sig := { parameters := [], returnType := none }, accessFlags := 1, code := none }
def k1c1 : Code := { maxStack := 5, maxLocals := 12, code := code, exceptionTable := #[], attributes := #[] }
def k1m1 : Method := { name := "law", desc := "(IIIII)Z", sig := { parameters := [.int, .int, .int, .int, .int], returnType := some .boolean }, accessFlags := 9, code := some k1c1 }
/-- com/example/entries_on_wire/entriesonwire/store/KeyHashCodePinLaw -/
def k1 : Class := { plain "com/example/entries_on_wire/entriesonwire/store/KeyHashCodePinLaw" (some 0) with
  accessFlags := 49
  interfaces := #[]
  cf := some (fileOf pool1 19 #[] #[{ accessFlags := 1, nameIndex := 5, descriptorIndex := 6, attributes := #[] }, { accessFlags := 9, nameIndex := 23, descriptorIndex := 24, attributes := #[] }] 49 2 #[] #[])
  fields := #[]
  methods := #[k1m0, k1m1]
  instanceTypes := #[]
  staticTypes := #[]
  resolved := Array.replicate 30 none
  statics := none }

def pool2 : Array CpInfo := pool [(1, .class_ 2), (0, u "java/lang/Comparable"), (0, .class_ 4), (0, u "java/lang/Object")] 7

/-- java/lang/Comparable -/
def k2 : Class := { plain "java/lang/Comparable" (some 0) with
  accessFlags := 1537
  interfaces := #[]
  cf := some (fileOf pool2 1 #[] #[] 1537 3 #[] #[])
  fields := #[]
  methods := #[]
  instanceTypes := #[]
  staticTypes := #[]
  resolved := Array.replicate 12 none
  statics := none }

def pool3 : Array CpInfo := pool [(1, .fieldref 2 3), (0, .class_ 4), (0, .nameAndType 5 6), (0, u "com/example/entries_on_wire/entriesonwire/store/Key"), (0, u "NONE"), (0, u "[B"), (0, .methodref 2 8), (0, .nameAndType 9 10), (0, u "<init>"), (0, u "([BII)V"), (0, .methodref 12 13), (0, .class_ 14), (0, .nameAndType 9 15), (0, u "java/lang/Object"), (0, u "()V"), (0, .fieldref 2 17), (0, .nameAndType 18 6), (0, u "bytes"), (0, .fieldref 2 20), (0, .nameAndType 21 22), (0, u "start"), (0, u "I"), (0, .fieldref 2 24), (0, .nameAndType 25 22), (0, u "end"), (18, .class_ 45), (0, u "java/lang/Comparable"), (2, u "pointAt"), (0, u "([BII)Lcom/example/entries_on_wire/entriesonwire/store/Key;"), (1, u "()I"), (4, u "hashCode")] 7

def k3c0 : Code := { maxStack := 4, maxLocals := 1, code := prog_38_method_1_code, exceptionTable := #[], attributes := #[] }
def k3m0 : Method := { name := "<init>", desc := "()V", sig := { parameters := [], returnType := none }, accessFlags := 1, code := some k3c0 }
def k3c1 : Code := { maxStack := 2, maxLocals := 4, code := prog_38_method_2_code, exceptionTable := #[], attributes := #[] }
def k3m1 : Method := { name := "<init>", desc := "([BII)V", sig := { parameters := [(.array .byte), .int, .int], returnType := none }, accessFlags := 2, code := some k3c1 }
def k3c2 : Code := { maxStack := 2, maxLocals := 4, code := prog_38_method_3_code, exceptionTable := #[], attributes := #[] }
def k3m2 : Method := { name := "pointAt", desc := "([BII)Lcom/example/entries_on_wire/entriesonwire/store/Key;", sig := { parameters := [(.array .byte), .int, .int], returnType := some (.object "com/example/entries_on_wire/entriesonwire/store/Key") }, accessFlags := 1, code := some k3c2 }
def k3c3 : Code := { maxStack := 3, maxLocals := 3, code := prog_38_method_7_code, exceptionTable := #[], attributes := #[] }
def k3m3 : Method := { name := "hashCode", desc := "()I", sig := { parameters := [], returnType := some .int }, accessFlags := 1, code := some k3c3 }
/-- com/example/entries_on_wire/entriesonwire/store/Key -/
def k3 : Class := { plain "com/example/entries_on_wire/entriesonwire/store/Key" (some 0) with
  accessFlags := 33
  interfaces := #[2]
  cf := some (fileOf pool3 2 #[] #[{ accessFlags := 1, nameIndex := 9, descriptorIndex := 15, attributes := #[] }, { accessFlags := 2, nameIndex := 9, descriptorIndex := 10, attributes := #[] }, { accessFlags := 1, nameIndex := 48, descriptorIndex := 49, attributes := #[] }, { accessFlags := 1, nameIndex := 56, descriptorIndex := 51, attributes := #[] }] 33 12 #[44] #[{ accessFlags := 26, nameIndex := 5, descriptorIndex := 6, attributes := #[] }, { accessFlags := 2, nameIndex := 18, descriptorIndex := 6, attributes := #[] }, { accessFlags := 2, nameIndex := 21, descriptorIndex := 22, attributes := #[] }, { accessFlags := 2, nameIndex := 25, descriptorIndex := 22, attributes := #[] }])
  fields := #[{ name := "NONE", type := (.array .byte), accessFlags := 26, slot := 0, constantValue := 0 }, { name := "bytes", type := (.array .byte), accessFlags := 2, slot := 0, constantValue := 0 }, { name := "start", type := .int, accessFlags := 2, slot := 1, constantValue := 0 }, { name := "end", type := .int, accessFlags := 2, slot := 2, constantValue := 0 }]
  methods := #[k3m0, k3m1, k3m2, k3m3]
  instanceTypes := #[(.array .byte), .int, .int]
  staticTypes := #[(.array .byte)]
  resolved := Array.replicate 64 none
  statics := some 0 }

def pool4 : Array CpInfo := pool [(1, u "java/lang/Cloneable"), (0, .class_ 1), (0, u "java/lang/Object"), (0, .class_ 3)] 3

/-- java/lang/Cloneable -/
def k4 : Class := { plain "java/lang/Cloneable" (some 0) with
  accessFlags := 1537
  interfaces := #[]
  cf := some (fileOf pool4 2 #[] #[] 1537 4 #[] #[])
  fields := #[]
  methods := #[]
  instanceTypes := #[]
  staticTypes := #[]
  resolved := Array.replicate 8 none
  statics := none }

def pool5 : Array CpInfo := pool [(1, u "java/io/Serializable"), (0, .class_ 1), (0, u "java/lang/Object"), (0, .class_ 3)] 3

/-- java/io/Serializable -/
def k5 : Class := { plain "java/io/Serializable" (some 0) with
  accessFlags := 1537
  interfaces := #[]
  cf := some (fileOf pool5 2 #[] #[] 1537 4 #[] #[])
  fields := #[]
  methods := #[]
  instanceTypes := #[]
  staticTypes := #[]
  resolved := Array.replicate 8 none
  statics := none }

/-- the primitive byte -/
def k6 : Class := { plain "byte" none with kind := .primitive 'B', accessFlags := 0x411 }
/-- [B -/
def k7 : Class := { plain "[B" (some 0) with kind := .array 6 .byte, interfaces := #[4, 5], accessFlags := 1041 }

/-- the primitive int -/
def k8 : Class := { plain "int" none with kind := .primitive 'I', accessFlags := 0x411 }
/-- [I -/
def k9 : Class := { plain "[I" (some 0) with kind := .array 8 .int, interfaces := #[4, 5], accessFlags := 1041 }

def heap : Heap := #[{ cls := 3, slots := #[.ref 1], vm := .statics 3 },
  { cls := 7, slots := #[], vm := .none }]
def classes : Array Class := #[k0, k1, k2, k3, k4, k5, k6, k7, k8, k9]
def interned : List (Array UInt16 × Addr) := []
def slotsUsed : Nat := 1
def theMethod : MethodId := ⟨1, 1⟩
def args0 : Array Value := #[.int 5, .int 7, .int 1, .int 2, .int 9]
def aboutOver (below : List Frame) : State where
  vm := { classes := classes, interned := interned.toArray }
  heap := heap
  slotsUsed := slotsUsed
  threads := #[{ frames := .invoking theMethod args0 :: below }]
def below0 : List Frame := [.native { method := ⟨0, 0⟩, args := #[] }]
def about1 : State := aboutOver below0
def p0 : Program := .bare "" "" ""
def e0 : Env := launch0.env 0 0 0
theorem w_frames : about1.frames = Frame.invoking theMethod args0 :: below0 := rfl
set_option maxRecDepth 65536 in
theorem w_args : argsFit about1.vm theMethod args0 = true := by decide +kernel
set_option maxRecDepth 65536 in
theorem w_heap : heapFits about1 = true := by decide +kernel
set_option maxRecDepth 65536 in
theorem w_runnable : about1.curStatus? = some .runnable := by decide +kernel
set_option maxRecDepth 65536 in
theorem w_alone : about1.alone = true := by decide +kernel
set_option maxRecDepth 65536 in
theorem w_named : about1.methodNamed? x = some theMethod := by decide +kernel
set_option maxRecDepth 65536 in
theorem w_hears : about1.hears theMethod below0 = true := by decide +kernel
set_option maxRecDepth 65536 in
theorem w_ripe : about1.ripe theMethod args0 below0 = true := by decide +kernel
theorem w_running : about1.status = .running := rfl
set_option maxRecDepth 65536 in
theorem w_room : about1.hasRoom e0.platform room_1 = true :=
  launch0.hasRoom_least _ room_1 (by decide +kernel) (by decide +kernel) (by decide +kernel) (by decide +kernel) (by decide +kernel) (by decide +kernel)
theorem allAtoms_all (ts : List Jvm.Cond) (a : Array Jvm.Value) (st : Jvm.State) : (allAtoms ts).before a st = ts.all (fun c => c.before a st) := by
  induction ts with
  | nil => rfl
  | cons c t ih =>
    show (Jvm.Cond.and c (allAtoms t)).before a st = _
    rw [Jvm.Cond.before_and, ih, List.all_cons]
def words1 : List Jvm.Cond := Jvm.Cond.code x code maxLocals ret :: tables_1
/-- a 'code' word, met by the world's own term for the bytes: nothing is compared byte by byte -/
theorem code_word {y : MethodName} {bytes : ByteArray} {mx : Nat} {rt : Option FieldType} {a : Array Value} {s : State} {m : MethodId} {meth : Method} {c : Code} (h1 : s.methodNamed? y = some m) (h2 : s.vm.method? m = some meth) (h3 : meth.code = some c) (h4 : c.code = bytes)
    (h5 : (c.maxLocals == mx && c.exceptionTable.isEmpty && decide (c.maxStack ≤ mostOperands) && decide (meth.sig.returnType = rt) && !meth.locks && decide (parseMethodDescriptor y.desc = some meth.sig)) = true) : (Jvm.Cond.code y bytes mx rt).before a s = true := by
  simp only [Bool.and_eq_true, beq_iff_eq, Bool.not_eq_true', decide_eq_true_eq] at h5
  obtain ⟨⟨⟨⟨⟨g1, g2⟩, g3⟩, g4⟩, g5⟩, g6⟩ := h5
  simp [Cond.before, Cond.holds, Cond.value, h1, h2, h3, h4, g1, g2, g3, g4, g5, g6]
def isCode : Jvm.Cond → Bool
  | .code _ _ _ _ => true
  | _ => false
theorem all_split {L : List Jvm.Cond} {P : Jvm.Cond → Bool} (h1 : L.all (fun c => isCode c || P c) = true) (h2 : ∀ c ∈ L.filter isCode, P c = true) : L.all P = true := by
  refine List.all_eq_true.mpr fun c hc => ?_
  have h := List.all_eq_true.mp h1 c hc
  rcases Bool.eq_false_or_eq_true (isCode c) with hi | hi
  · exact h2 c (List.mem_filter.mpr ⟨hc, hi⟩)
  · simpa [hi] using h
set_option maxRecDepth 65536 in
theorem w_c0 : (Jvm.Cond.code x code maxLocals ret).before args0 about1 = true := code_word (m := ⟨1, 1⟩) (meth := k1m1) (c := k1c1) (by decide +kernel) rfl rfl rfl (by decide +kernel)
set_option maxRecDepth 65536 in
theorem w_c1 : (Jvm.Cond.code ({ cls := "com/example/entries_on_wire/entriesonwire/store/Key", name := "<init>", desc := "()V" } : Jvm.MethodName) prog_38_method_1_code (1 : Nat) (Option.none : Option Jvm.ClassFile.FieldType)).before args0 about1 = true := code_word (m := ⟨3, 0⟩) (meth := k3m0) (c := k3c0) (by decide +kernel) rfl rfl rfl (by decide +kernel)
set_option maxRecDepth 65536 in
theorem w_c2 : (Jvm.Cond.code ({ cls := "com/example/entries_on_wire/entriesonwire/store/Key", name := "<init>", desc := "([BII)V" } : Jvm.MethodName) prog_38_method_2_code (4 : Nat) (Option.none : Option Jvm.ClassFile.FieldType)).before args0 about1 = true := code_word (m := ⟨3, 1⟩) (meth := k3m1) (c := k3c1) (by decide +kernel) rfl rfl rfl (by decide +kernel)
set_option maxRecDepth 65536 in
theorem w_c3 : (Jvm.Cond.code ({ cls := "java/lang/Object", name := "<init>", desc := "()V" } : Jvm.MethodName) object_method_1_code (1 : Nat) (Option.none : Option Jvm.ClassFile.FieldType)).before args0 about1 = true := code_word (m := ⟨0, 0⟩) (meth := k0m0) (c := k0c0) (by decide +kernel) rfl rfl rfl (by decide +kernel)
set_option maxRecDepth 65536 in
theorem w_c4 : (Jvm.Cond.code ({ cls := "com/example/entries_on_wire/entriesonwire/store/Key", name := "pointAt", desc := "([BII)Lcom/example/entries_on_wire/entriesonwire/store/Key;" } : Jvm.MethodName) prog_38_method_3_code (4 : Nat) (Option.some (Jvm.ClassFile.FieldType.object "com/example/entries_on_wire/entriesonwire/store/Key"))).before args0 about1 = true := code_word (m := ⟨3, 2⟩) (meth := k3m2) (c := k3c2) (by decide +kernel) rfl rfl rfl (by decide +kernel)
set_option maxRecDepth 65536 in
theorem w_c5 : (Jvm.Cond.code ({ cls := "com/example/entries_on_wire/entriesonwire/store/Key", name := "hashCode", desc := "()I" } : Jvm.MethodName) prog_38_method_7_code (3 : Nat) (Option.some Jvm.ClassFile.FieldType.int)).before args0 about1 = true := code_word (m := ⟨3, 3⟩) (meth := k3m3) (c := k3c3) (by decide +kernel) rfl rfl rfl (by decide +kernel)
def codes1 : List Jvm.Cond := [Jvm.Cond.code x code maxLocals ret, Jvm.Cond.code ({ cls := "com/example/entries_on_wire/entriesonwire/store/Key", name := "<init>", desc := "()V" } : Jvm.MethodName) prog_38_method_1_code (1 : Nat) (Option.none : Option Jvm.ClassFile.FieldType), Jvm.Cond.code ({ cls := "com/example/entries_on_wire/entriesonwire/store/Key", name := "<init>", desc := "([BII)V" } : Jvm.MethodName) prog_38_method_2_code (4 : Nat) (Option.none : Option Jvm.ClassFile.FieldType), Jvm.Cond.code ({ cls := "java/lang/Object", name := "<init>", desc := "()V" } : Jvm.MethodName) object_method_1_code (1 : Nat) (Option.none : Option Jvm.ClassFile.FieldType), Jvm.Cond.code ({ cls := "com/example/entries_on_wire/entriesonwire/store/Key", name := "pointAt", desc := "([BII)Lcom/example/entries_on_wire/entriesonwire/store/Key;" } : Jvm.MethodName) prog_38_method_3_code (4 : Nat) (Option.some (Jvm.ClassFile.FieldType.object "com/example/entries_on_wire/entriesonwire/store/Key")), Jvm.Cond.code ({ cls := "com/example/entries_on_wire/entriesonwire/store/Key", name := "hashCode", desc := "()I" } : Jvm.MethodName) prog_38_method_7_code (3 : Nat) (Option.some Jvm.ClassFile.FieldType.int)]
set_option maxRecDepth 65536 in
theorem codes_eq : words1.filter isCode = codes1 := rfl
theorem w_codes : ∀ c ∈ words1.filter isCode, c.before args0 about1 = true := by
  rw [codes_eq]
  intro c hc
  simp only [codes1, List.mem_cons, List.not_mem_nil, or_false] at hc
  rcases hc with rfl | rfl | rfl | rfl | rfl | rfl
  · exact w_c0
  · exact w_c1
  · exact w_c2
  · exact w_c3
  · exact w_c4
  · exact w_c5
set_option maxRecDepth 65536 in
theorem w_t1 : (words1.take 24).all (fun c => isCode c || c.before args0 about1) = true := by decide +kernel
set_option maxRecDepth 65536 in
theorem w_t2 : (words1.drop 24).all (fun c => isCode c || c.before args0 about1) = true := by decide +kernel
theorem w_tables : (allAtoms (Jvm.Cond.code x code maxLocals ret :: tables_1)).before args0 about1 = true := by
  rw [allAtoms_all]
  show words1.all (fun c => c.before args0 about1) = true
  refine all_split ?_ w_codes
  rw [← List.take_append_drop 24 words1, List.all_append, w_t1, w_t2]
  rfl
set_option maxRecDepth 65536 in
theorem w_case : (Jvm.Cond.and given_1 narrow_1).before args0 about1 = true := by decide +kernel
theorem w_applies : (headSpec (Jvm.Cond.code x code maxLocals ret :: tables_1) room_1).applies x e0.platform about1 = true :=
  (Spec.applies_iff w_frames).mpr ⟨w_running, w_runnable, w_alone, w_named, w_hears, w_ripe, w_room, w_tables⟩
theorem atStart : AtStart classFile x code maxLocals ret World_1 tables_1 room_1 Calls_1 rest_1 Pre_1 launch0 p0 e0 about1 theMethod args0 below0 :=
  ⟨lists_1, trivial, launch0.admits_env _ _ _, launch0.least_env, fairChoices_fair.cas, fairChoices_fair.clock, w_frames, w_args, w_heap, w_applies, trivial, trivial, w_case⟩
end start1
theorem witness_1 : WitnessClaimed_1 := ⟨start1.p0, start1.e0, start1.about1, start1.theMethod, start1.args0, start1.below0, start1.atStart⟩
end Jvm.Pilot.@@N@@
