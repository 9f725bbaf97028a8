import JvmDerived
import JvmDerived.Pilot.@@N@@Statement
import JvmDerived.Pilot.@@N@@Code
set_option linter.unusedVariables false
set_option linter.unusedSimpArgs false
@@BLOCK:NumsL.lean.txt@@
namespace Jvm.OwnN
theorem own_rem32 (x y : Int32) : (x - x / y * y).toInt = x.toInt.tmod y.toInt := by
  have a := (x % y).toInt_lt; have b := (x % y).le_toInt
  rw [Int32.toInt_mod] at a b
  rw [Int32.toInt_sub, Int32.toInt_mul, Int32.toInt_div, Int.bmod_mul_bmod, Int.sub_bmod_bmod, Int.mul_comm, ← Int.tmod_def]
  exact Jvm.Kit.bmod32 b a
theorem own_rem32n {x y : Int32} (hx : 0 ≤ x.toInt) : (x - x / y * y).toInt = x.toInt % y.toInt := by rw [own_rem32, Int.tmod_eq_emod_of_nonneg hx]
end Jvm.OwnN
namespace Jvm.RoadKit
open Sem ClassFile Op Lib Jvm.Stand Jvm.Free Jvm.LawKit
section New
variable {p : Program} {l : Launch} {e : Env} {R : Room} {s : State} {m : MethodId} {args : Array Value} {below : List Frame} {meth : Method} {c : Code} {T : State} {locs : List Loc} {cells slots : Nat}
theorem retI (X : Stand p l e R s m args below meth c T locs cells slots) (hx : p.tables.exec = Jvm.exec) {pc : Nat} {Ls : Array Slot} {z : Int32} {rest : List Value} (hret : meth.sig.returnType = some .int) (hd : decode c.code pc = .ok (.ireturn, 1)) {fs : List Frame}
    (hl : ∀ (f : JFrame) (acts : List Action), f.method = m → f.locked = none → f.entered = [] → (doReturn e (T.setTop f) acts (some (.int z))).1 = T.setFrames fs) : Steps p.tables e below (T.setTop (mkF m pc Ls (.int z :: rest))) (T.setFrames fs) := by
  have hm' : T.vm.method? m = some meth := X.method'
  have hn : narrow .int (.int z) = .int z := rfl
  show Steps p.tables e below (T.setTop { method := m, pc := pc, locals := Ls, stack := _ :: rest, locked := none }) _
  jvm_step X.here [X.here.top, hx, hd, hm', hret, hn]
  first | (intro acts; rw [hl _ acts rfl rfl rfl]) | rw [hl _ _ rfl rfl rfl]
  exact Steps.refl _
/-- the run goes on from S to an end of which P holds -/
def Goes (p : Program) (e : Env) (below : List Frame) (S : State) (P : Outcome → State → Prop) : Prop := ∃ s₂ o, Steps p.tables e below S s₂ ∧ s₂.status = .running ∧ Ended s₂ below o ∧ P o s₂
/-- what every contract here says of the end -/
def Fin (s : State) (Q : Option Value → Heap → List Loc → Prop) (C N : Nat) (o : Outcome) (U : State) : Prop := ∃ v L, o = .returned v ∧ Q v U.heap L ∧ FrameEnd s o U L C N
theorem Goes.of {S S' : State} {P : Outcome → State → Prop} (h : ∀ t, Steps p.tables e below S' t → Steps p.tables e below S t) (g : Goes p e below S' P) : Goes p e below S P := by
  obtain ⟨s₂, o, h1, h2⟩ := g
  exact ⟨s₂, o, h _ h1, h2⟩
theorem Goes.out (X : Stand p l e R s m args below meth c T locs cells slots) {v : Option Value} (hv : meth.sig.returnType = none → v = none) (hlocks : meth.locks = false) {g : JFrame} {Q : Option Value → Heap → List Loc → Prop} {C N : Nat}
    (hst : ∀ fs, (∀ (f : JFrame) (acts : List Action), f.method = m → f.locked = none → f.entered = [] → (doReturn e (T.setTop f) acts v).1 = T.setFrames fs) → Steps p.tables e below (T.setTop g) (T.setFrames fs))
    (hq : Q v T.heap locs) (h1 : cells ≤ C) (h2 : slots ≤ N) : Goes p e below (T.setTop g) (Fin s Q C N) := by
  obtain ⟨fs, hr, hrun, hended, hW, hsame⟩ := X.leave (v := v) hv hlocks
  exact ⟨_, _, hst fs hr, hrun, hended, v, locs, rfl, hq, ⟨_, rfl⟩, hW, hsame.mono h1 h2⟩
theorem Goes.retI (X : Stand p l e R s m args below meth c T locs cells slots) (hx : p.tables.exec = Jvm.exec) (hret : meth.sig.returnType = some .int) (hlocks : meth.locks = false) {pc : Nat} {Ls : Array Slot} {z : Int32} {rest : List Value} (hd : decode c.code pc = .ok (.ireturn, 1)) {Q : Option Value → Heap → List Loc → Prop} {C N : Nat}
    (hq : Q (some (.int z)) T.heap locs) (h1 : cells ≤ C) (h2 : slots ≤ N) : Goes p e below (T.setTop (mkF m pc Ls (.int z :: rest))) (Fin s Q C N) :=
  Goes.out X (v := some (.int z)) (fun h => by rw [hret] at h; cases h) hlocks (fun fs hr => Jvm.RoadKit.retI X hx hret hd hr) hq h1 h2
theorem Goes.retN (X : Stand p l e R s m args below meth c T locs cells slots) (hx : p.tables.exec = Jvm.exec) {t : FieldType} (hret : meth.sig.returnType = some t) (ht : t = .boolean ∨ t = .byte ∨ t = .char ∨ t = .short) (hlocks : meth.locks = false) {pc : Nat} {Ls : Array Slot} {z : Int32} {rest : List Value} (hd : decode c.code pc = .ok (.ireturn, 1)) {Q : Option Value → Heap → List Loc → Prop} {C N : Nat}
    (hq : Q (some (.int (nar t z))) T.heap locs) (h1 : cells ≤ C) (h2 : slots ≤ N) : Goes p e below (T.setTop (mkF m pc Ls (.int z :: rest))) (Fin s Q C N) :=
  Goes.out X (v := some (.int (nar t z))) (fun h => by rw [hret] at h; cases h) hlocks (fun fs hr => Jvm.RoadKit.retN X hx (t := t) hret ht hd hr) hq h1 h2
theorem Goes.retJ (X : Stand p l e R s m args below meth c T locs cells slots) (hx : p.tables.exec = Jvm.exec) (hret : meth.sig.returnType = some .long) (hlocks : meth.locks = false) {pc : Nat} {Ls : Array Slot} {z : Int64} (hd : decode c.code pc = .ok (.lreturn, 1)) {Q : Option Value → Heap → List Loc → Prop} {C N : Nat}
    (hq : Q (some (.long z)) T.heap locs) (h1 : cells ≤ C) (h2 : slots ≤ N) : Goes p e below (T.setTop (mkF m pc Ls [.long z])) (Fin s Q C N) :=
  Goes.out X (v := some (.long z)) (fun h => by rw [hret] at h; cases h) hlocks (fun fs hr => X.lreturnOut hx hret hd hr) hq h1 h2
theorem Goes.retD (X : Stand p l e R s m args below meth c T locs cells slots) (hx : p.tables.exec = Jvm.exec) (hret : meth.sig.returnType = some .double) (hlocks : meth.locks = false) {pc : Nat} {Ls : Array Slot} {z : UInt64} (hd : decode c.code pc = .ok (.dreturn, 1)) {Q : Option Value → Heap → List Loc → Prop} {C N : Nat}
    (hq : Q (some (.double z)) T.heap locs) (h1 : cells ≤ C) (h2 : slots ≤ N) : Goes p e below (T.setTop (mkF m pc Ls [.double z])) (Fin s Q C N) :=
  Goes.out X (v := some (.double z)) (fun h => by rw [hret] at h; cases h) hlocks (fun fs hr => by
    have hm' : T.vm.method? m = some meth := X.method'
    jvm_step X.here [X.here.top, hx, hd, hm', hret, narrow]
    first | (intro acts; rw [hr _ acts rfl rfl rfl]) | rw [hr _ _ rfl rfl rfl]
    exact Steps.refl _) hq h1 h2
theorem Goes.retA (X : Stand p l e R s m args below meth c T locs cells slots) (hx : p.tables.exec = Jvm.exec) {w : Value} {t : FieldType} (hw : w.isRef = true) (hret : meth.sig.returnType = some t) (ht : t.isReference = true) (hlocks : meth.locks = false) {pc : Nat} {Ls : Array Slot} (hd : decode c.code pc = .ok (.areturn, 1)) {Q : Option Value → Heap → List Loc → Prop} {C N : Nat}
    (hq : Q (some w) T.heap locs) (h1 : cells ≤ C) (h2 : slots ≤ N) : Goes p e below (T.setTop (mkF m pc Ls [w])) (Fin s Q C N) :=
  Goes.out X (v := some w) (fun h => by rw [hret] at h; cases h) hlocks (fun fs hr => X.areturnOut hx hw hret ht hd hr) hq h1 h2
theorem Goes.retV (X : Stand p l e R s m args below meth c T locs cells slots) (hx : p.tables.exec = Jvm.exec) (hret : meth.sig.returnType = none) (hlocks : meth.locks = false) {pc : Nat} {Ls : Array Slot} (hd : decode c.code pc = .ok (.return_, 1)) {Q : Option Value → Heap → List Loc → Prop} {C N : Nat}
    (hq : Q none T.heap locs) (h1 : cells ≤ C) (h2 : slots ≤ N) : Goes p e below (T.setTop (mkF m pc Ls [])) (Fin s Q C N) :=
  Goes.out X (v := none) (fun _ => rfl) hlocks (fun fs hr => X.returnOut hx hret hd hr) hq h1 h2
end New
theorem selPriv {s : State} {args : Array Value} {y : MethodName} {n : Nat} (hpriv : s.PrivateAt y) (hinst : (Cond.instanceMethod y).before args s = true) (hi : (Cond.instantiable y.cls n).before args s = true) (hy : y.cls ≠ "java/lang/invoke/MethodHandle" ∧ y.cls ≠ "java/lang/invoke/VarHandle") : (Cond.selects y.cls y y).before args s = true := by
  obtain ⟨c, k, h1, h2, -, h3, -⟩ := Cond.instantiable_spec hi
  exact Jvm.Stand.selects_self_of_private h1 h2 (by cases hk : k.isInterface <;> simp_all) hpriv hinst hy
end Jvm.RoadKit
namespace Jvm.Pilot.@@N@@
open Jvm Jvm.ClassFile Sem Op Lib Jvm.Free Jvm.Stand Jvm.LawKit Jvm.RoadKit Bundle Jvm.OwnN Jvm.Pilot.@@N@@.Jvm.D
theorem d1_0 : decode prog_36_method_2_code 0 = .ok (.lload_n 0, 1) := by decide +kernel
theorem d1_1 : decode prog_36_method_2_code 1 = .ok (.lconst 0, 1) := by decide +kernel
theorem d1_2 : decode prog_36_method_2_code 2 = .ok (.lcmp, 1) := by decide +kernel
theorem d1_3 : decode prog_36_method_2_code 3 = .ok (.ifCond .ge 11, 3) := by decide +kernel
theorem d1_6 : decode prog_36_method_2_code 6 = .ok (.ldc2_w 11, 3) := by decide +kernel
theorem d1_9 : decode prog_36_method_2_code 9 = .ok (.lstore 4, 2) := by decide +kernel
theorem d1_11 : decode prog_36_method_2_code 11 = .ok (.goto 36, 3) := by decide +kernel
theorem d1_14 : decode prog_36_method_2_code 14 = .ok (.lload_n 0, 1) := by decide +kernel
theorem d1_15 : decode prog_36_method_2_code 15 = .ok (.lconst 0, 1) := by decide +kernel
theorem d1_16 : decode prog_36_method_2_code 16 = .ok (.lcmp, 1) := by decide +kernel
theorem d1_17 : decode prog_36_method_2_code 17 = .ok (.ifCond .ne 11, 3) := by decide +kernel
theorem d1_20 : decode prog_36_method_2_code 20 = .ok (.ldc2_w 13, 3) := by decide +kernel
theorem d1_23 : decode prog_36_method_2_code 23 = .ok (.lstore 4, 2) := by decide +kernel
theorem d1_25 : decode prog_36_method_2_code 25 = .ok (.goto 22, 3) := by decide +kernel
theorem d1_28 : decode prog_36_method_2_code 28 = .ok (.lload_n 0, 1) := by decide +kernel
theorem d1_29 : decode prog_36_method_2_code 29 = .ok (.ldc2_w 15, 3) := by decide +kernel
theorem d1_32 : decode prog_36_method_2_code 32 = .ok (.lcmp, 1) := by decide +kernel
theorem d1_33 : decode prog_36_method_2_code 33 = .ok (.ifCond .gt 11, 3) := by decide +kernel
theorem d1_36 : decode prog_36_method_2_code 36 = .ok (.lload_n 2, 1) := by decide +kernel
theorem d1_37 : decode prog_36_method_2_code 37 = .ok (.lload_n 0, 1) := by decide +kernel
theorem d1_38 : decode prog_36_method_2_code 38 = .ok (.ladd, 1) := by decide +kernel
theorem d1_39 : decode prog_36_method_2_code 39 = .ok (.lstore 4, 2) := by decide +kernel
theorem d1_41 : decode prog_36_method_2_code 41 = .ok (.goto 6, 3) := by decide +kernel
theorem d1_44 : decode prog_36_method_2_code 44 = .ok (.lload_n 0, 1) := by decide +kernel
theorem d1_45 : decode prog_36_method_2_code 45 = .ok (.lstore 4, 2) := by decide +kernel
theorem d1_47 : decode prog_36_method_2_code 47 = .ok (.lload 4, 2) := by decide +kernel
theorem d1_49 : decode prog_36_method_2_code 49 = .ok (.lreturn, 1) := by decide +kernel
theorem pn_0 : plainName "com/example/entries_on_wire/entriesonwire/store/Expiry" = true := by first | (simp [plainName, overriddenIn]; done) | decide +kernel
theorem d2_0 : decode method_2_code 0 = .ok (.lload_n 0, 1) := by decide +kernel
theorem d2_1 : decode method_2_code 1 = .ok (.lconst 0, 1) := by decide +kernel
theorem d2_2 : decode method_2_code 2 = .ok (.lcmp, 1) := by decide +kernel
theorem d2_3 : decode method_2_code 3 = .ok (.ifCond .ge 18, 3) := by decide +kernel
theorem d2_6 : decode method_2_code 6 = .ok (.lload 4, 2) := by decide +kernel
theorem d2_8 : decode method_2_code 8 = .ok (.ldc2_w 9, 3) := by decide +kernel
theorem d2_11 : decode method_2_code 11 = .ok (.lcmp, 1) := by decide +kernel
theorem d2_12 : decode method_2_code 12 = .ok (.ifCond .ne 7, 3) := by decide +kernel
theorem d2_15 : decode method_2_code 15 = .ok (.iconst 1, 1) := by decide +kernel
theorem d2_16 : decode method_2_code 16 = .ok (.goto 4, 3) := by decide +kernel
theorem d2_19 : decode method_2_code 19 = .ok (.iconst 0, 1) := by decide +kernel
theorem d2_20 : decode method_2_code 20 = .ok (.ireturn, 1) := by decide +kernel
theorem d2_21 : decode method_2_code 21 = .ok (.lload_n 0, 1) := by decide +kernel
theorem d2_22 : decode method_2_code 22 = .ok (.lconst 0, 1) := by decide +kernel
theorem d2_23 : decode method_2_code 23 = .ok (.lcmp, 1) := by decide +kernel
theorem d2_24 : decode method_2_code 24 = .ok (.ifCond .ne 18, 3) := by decide +kernel
theorem d2_27 : decode method_2_code 27 = .ok (.lload 4, 2) := by decide +kernel
theorem d2_29 : decode method_2_code 29 = .ok (.ldc2_w 11, 3) := by decide +kernel
theorem d2_32 : decode method_2_code 32 = .ok (.lcmp, 1) := by decide +kernel
theorem d2_33 : decode method_2_code 33 = .ok (.ifCond .ne 7, 3) := by decide +kernel
theorem d2_36 : decode method_2_code 36 = .ok (.iconst 1, 1) := by decide +kernel
theorem d2_37 : decode method_2_code 37 = .ok (.goto 4, 3) := by decide +kernel
theorem d2_40 : decode method_2_code 40 = .ok (.iconst 0, 1) := by decide +kernel
theorem d2_41 : decode method_2_code 41 = .ok (.ireturn, 1) := by decide +kernel
theorem d2_42 : decode method_2_code 42 = .ok (.lload_n 0, 1) := by decide +kernel
theorem d2_43 : decode method_2_code 43 = .ok (.ldc2_w 13, 3) := by decide +kernel
theorem d2_46 : decode method_2_code 46 = .ok (.lcmp, 1) := by decide +kernel
theorem d2_47 : decode method_2_code 47 = .ok (.ifCond .gt 18, 3) := by decide +kernel
theorem d2_50 : decode method_2_code 50 = .ok (.lload 4, 2) := by decide +kernel
theorem d2_52 : decode method_2_code 52 = .ok (.lload_n 2, 1) := by decide +kernel
theorem d2_53 : decode method_2_code 53 = .ok (.lsub, 1) := by decide +kernel
theorem d2_54 : decode method_2_code 54 = .ok (.lload_n 0, 1) := by decide +kernel
theorem d2_55 : decode method_2_code 55 = .ok (.lcmp, 1) := by decide +kernel
theorem d2_56 : decode method_2_code 56 = .ok (.ifCond .ne 7, 3) := by decide +kernel
theorem d2_59 : decode method_2_code 59 = .ok (.iconst 1, 1) := by decide +kernel
theorem d2_60 : decode method_2_code 60 = .ok (.goto 4, 3) := by decide +kernel
theorem d2_63 : decode method_2_code 63 = .ok (.iconst 0, 1) := by decide +kernel
theorem d2_64 : decode method_2_code 64 = .ok (.ireturn, 1) := by decide +kernel
theorem d2_65 : decode method_2_code 65 = .ok (.lload 4, 2) := by decide +kernel
theorem d2_67 : decode method_2_code 67 = .ok (.lload_n 0, 1) := by decide +kernel
theorem d2_68 : decode method_2_code 68 = .ok (.lcmp, 1) := by decide +kernel
theorem d2_69 : decode method_2_code 69 = .ok (.ifCond .ne 7, 3) := by decide +kernel
theorem d2_72 : decode method_2_code 72 = .ok (.iconst 1, 1) := by decide +kernel
theorem d2_73 : decode method_2_code 73 = .ok (.goto 4, 3) := by decide +kernel
theorem d2_76 : decode method_2_code 76 = .ok (.iconst 0, 1) := by decide +kernel
theorem d2_77 : decode method_2_code 77 = .ok (.ireturn, 1) := by decide +kernel
theorem pn_1 : plainName "com/example/entries_on_wire/entriesonwire/store/ExpiryDeadlinePinLaw" = true := by first | (simp [plainName, overriddenIn]; done) | decide +kernel
theorem pd_2 : parseMethodDescriptor "(JJ)J" = some ⟨[.long, .long], some .long⟩ := by decide +kernel
theorem pd_3 : parseMethodDescriptor "(JJJ)Z" = some ⟨[.long, .long, .long], some .boolean⟩ := by decide +kernel
def f1 (q1 : Int64) (q2 : Int64) : Int64 := (if q1 < (0 : Int64) then (-9223372036854775808 : Int64) else (if q1 = (0 : Int64) then (9223372036854775807 : Int64) else (if (2592000 : Int64) < q1 then q1 else (q2 + q1))))
theorem ef_1 (m : MethodId) (x0 : Int64) (x1 : Int64) : entryFrame m #[(.long x0), (.long x1)] 6 = mkF m 0 #[.val (.long x0), .second, .val (.long x1), .second, .unset, .unset] [] := by first | (simp [entryFrame, mkF, argsToLocals, Value.category]; done) | rfl
def Q1 (Z : State) (q1 : Int64) (q2 : Int64) (h0 : Heap) (n0 : Nat) (v : Option Value) (h : Heap) (L : List Loc) : Prop := v = some (.long (f1 q1 q2)) ∧ Fr n0 L ∧ h = h0
set_option maxRecDepth 65536 in
set_option maxHeartbeats 40000000 in
theorem rm1 (l : Launch) (Z : State) (a0 : Array Value) (hw : ∀ d ∈ tables_1, d.before a0 Z = true) (ws : List Jvm.Cond) (q1 : Int64) (q2 : Int64) (h0 : Heap) (n0 : Nat) (Z0 : n0 ≤ h0.size)  :
    MetFree l (⟨"com/example/entries_on_wire/entriesonwire/store/Expiry", "deadline", "(JJ)J"⟩ : MethodName) (head1 (Jvm.Cond.code (⟨"com/example/entries_on_wire/entriesonwire/store/Expiry", "deadline", "(JJ)J"⟩ : MethodName) prog_36_method_2_code 6 (some .long) :: ws) ({ frames := 0, cells := 0, slots := 0, locals := 0 } : Room)) (fun a U => a = #[(.long q1), (.long q2)] ∧ Z.Warmed39 U.vm ∧ U.heap = h0) (fun _ _ _ _ _ => True) (fun _ U o U' => ∃ v L, o = .returned v ∧ Q1 Z q1 q2 h0 n0 v U'.heap L ∧ FrameEnd U o U' L ({ frames := 0, cells := 0, slots := 0, locals := 0 } : Room).cells ({ frames := 0, cells := 0, slots := 0, locals := 0 } : Room).slots) := by
  refine MetFree.of_bodySF (plainFor_of_name pn_0) hisR ?_
  intro p e s m args below meth c s₁ Bd hml0 hP hK
  obtain ⟨rfl, hZ, hh⟩ := hP
  have hx := Bd.exec
  have hby := Bd.bytes
  have hml : c.maxLocals = 6 := hml0
  have hown : s.vm.findClass "com/example/entries_on_wire/entriesonwire/store/Expiry" = some m.cls := findClass_of_methodNamed Bd.named
  have hnm := (name_of_methodNamed Bd.named Bd.method).1
  have hlocks : meth.locks = false := BodyLoose.notSynchronized Bd
  have X0 : Stand p l e ({ frames := 0, cells := 0, slots := 0, locals := 0 } : Room) s m #[(.long q1), (.long q2)] below meth c s₁ [] 0 0 := Stand.of_body Bd
  have e0 : s₁.heap = h0 := by rw [← hh, Bd.state]; rfl
  have N0 := Fr.nil n0
  show Goes p e below (s₁.setTop (entryFrame m #[(.long q1), (.long q2)] 6)) (Fin s (Q1 Z q1 q2 h0 n0) ({ frames := 0, cells := 0, slots := 0, locals := 0 } : Room).cells ({ frames := 0, cells := 0, slots := 0, locals := 0 } : Room).slots)
  refine Goes.of (fun t k => castTop (ef_1 m q1 q2) k) ?_
  show Goes p e below (s₁.setTop (mkF m 0 #[.val (.long q1), .second, .val (.long q2), .second, .unset, .unset] [])) _
  refine Goes.of (fun t k => XS.lloadN X0.here hx rfl (hb hby d1_0) rfl k) ?_
  show Goes p e below (s₁.setTop (mkF m 1 #[.val (.long q1), .second, .val (.long q2), .second, .unset, .unset] [(.long q1)])) _
  refine Goes.of (fun t k => XS.lconst X0.here hx rfl (hb hby d1_1) k) ?_
  show Goes p e below (s₁.setTop (mkF m 2 #[.val (.long q1), .second, .val (.long q2), .second, .unset, .unset] [(.long (0 : Int64)), (.long q1)])) _
  refine Goes.of (fun t k => XS.lcmp X0.here hx rfl (hb hby d1_2) rfl k) ?_
  show Goes p e below (s₁.setTop (mkF m 3 #[.val (.long q1), .second, .val (.long q2), .second, .unset, .unset] [(.int (lcmpW q1 (0 : Int64)))])) _
  by_cases hc3_1 : q1 < (0 : Int64)
  · refine Goes.of (fun t k => XS.ifNo X0.here hx rfl (hb hby d1_3) rfl ((if0 _ _).trans (tlt ((lw_lt _ _).mpr hc3_1)).2.1) k) ?_
    show Goes p e below (s₁.setTop (mkF m 6 #[.val (.long q1), .second, .val (.long q2), .second, .unset, .unset] [])) _
    refine Goes.of (fun t k => X0.ldc2Long hx hown (mvT hZ (hw _ (List.mem_of_getElem? (i := 13) rfl))) (g := (mkF m 6 #[.val (.long q1), .second, .val (.long q2), .second, .unset, .unset] [])) rfl (hb hby d1_6) _ k) ?_
    show Goes p e below (s₁.setTop (mkF m 9 #[.val (.long q1), .second, .val (.long q2), .second, .unset, .unset] [(.long (-9223372036854775808 : Int64))])) _
    refine Goes.of (fun t k => XS.lstore X0.here hx rfl (hb hby d1_9) rfl (l' := #[.val (.long q1), .second, .val (.long q2), .second, .val (.long (-9223372036854775808 : Int64)), .second]) rfl k) ?_
    show Goes p e below (s₁.setTop (mkF m 11 #[.val (.long q1), .second, .val (.long q2), .second, .val (.long (-9223372036854775808 : Int64)), .second] [])) _
    refine Goes.of (fun t k => XS.goto X0.here hx rfl (pc0 := 11) (pc' := 47) rfl (hb hby d1_11) (by decide) (by decide) k) ?_
    show Goes p e below (s₁.setTop (mkF m 47 #[.val (.long q1), .second, .val (.long q2), .second, .val (.long (-9223372036854775808 : Int64)), .second] [])) _
    refine Goes.of (fun t k => XS.lload X0.here hx rfl (hb hby d1_47) rfl k) ?_
    show Goes p e below (s₁.setTop (mkF m 49 #[.val (.long q1), .second, .val (.long q2), .second, .val (.long (-9223372036854775808 : Int64)), .second] [(.long (-9223372036854775808 : Int64))])) _
    have hv : f1 q1 q2 = (-9223372036854775808 : Int64) := by simp only [f1, if_pos hc3_1]
    exact Goes.retJ X0 hx Bd.returns hlocks (hb hby d1_49) (⟨by rw [hv], N0, e0⟩) (by decide) (by decide)
  · refine Goes.of (fun t k => XS.ifYes X0.here hx rfl (pc0 := 3) (pc' := 14) rfl (hb hby d1_3) rfl ((if0 _ _).trans (flt (mt (lw_lt _ _).mp hc3_1)).2.1) (by decide) (by decide) k) ?_
    show Goes p e below (s₁.setTop (mkF m 14 #[.val (.long q1), .second, .val (.long q2), .second, .unset, .unset] [])) _
    refine Goes.of (fun t k => XS.lloadN X0.here hx rfl (hb hby d1_14) rfl k) ?_
    show Goes p e below (s₁.setTop (mkF m 15 #[.val (.long q1), .second, .val (.long q2), .second, .unset, .unset] [(.long q1)])) _
    refine Goes.of (fun t k => XS.lconst X0.here hx rfl (hb hby d1_15) k) ?_
    show Goes p e below (s₁.setTop (mkF m 16 #[.val (.long q1), .second, .val (.long q2), .second, .unset, .unset] [(.long (0 : Int64)), (.long q1)])) _
    refine Goes.of (fun t k => XS.lcmp X0.here hx rfl (hb hby d1_16) rfl k) ?_
    show Goes p e below (s₁.setTop (mkF m 17 #[.val (.long q1), .second, .val (.long q2), .second, .unset, .unset] [(.int (lcmpW q1 (0 : Int64)))])) _
    by_cases hc17_2 : q1 = (0 : Int64)
    · refine Goes.of (fun t k => XS.ifNo X0.here hx rfl (hb hby d1_17) rfl ((if0 _ _).trans (teq ((lw_eq _ _).mpr hc17_2)).2) k) ?_
      show Goes p e below (s₁.setTop (mkF m 20 #[.val (.long q1), .second, .val (.long q2), .second, .unset, .unset] [])) _
      refine Goes.of (fun t k => X0.ldc2Long hx hown (mvT hZ (hw _ (List.mem_of_getElem? (i := 10) rfl))) (g := (mkF m 20 #[.val (.long q1), .second, .val (.long q2), .second, .unset, .unset] [])) rfl (hb hby d1_20) _ k) ?_
      show Goes p e below (s₁.setTop (mkF m 23 #[.val (.long q1), .second, .val (.long q2), .second, .unset, .unset] [(.long (9223372036854775807 : Int64))])) _
      refine Goes.of (fun t k => XS.lstore X0.here hx rfl (hb hby d1_23) rfl (l' := #[.val (.long q1), .second, .val (.long q2), .second, .val (.long (9223372036854775807 : Int64)), .second]) rfl k) ?_
      show Goes p e below (s₁.setTop (mkF m 25 #[.val (.long q1), .second, .val (.long q2), .second, .val (.long (9223372036854775807 : Int64)), .second] [])) _
      refine Goes.of (fun t k => XS.goto X0.here hx rfl (pc0 := 25) (pc' := 47) rfl (hb hby d1_25) (by decide) (by decide) k) ?_
      show Goes p e below (s₁.setTop (mkF m 47 #[.val (.long q1), .second, .val (.long q2), .second, .val (.long (9223372036854775807 : Int64)), .second] [])) _
      refine Goes.of (fun t k => XS.lload X0.here hx rfl (hb hby d1_47) rfl k) ?_
      show Goes p e below (s₁.setTop (mkF m 49 #[.val (.long q1), .second, .val (.long q2), .second, .val (.long (9223372036854775807 : Int64)), .second] [(.long (9223372036854775807 : Int64))])) _
      have hv : f1 q1 q2 = (9223372036854775807 : Int64) := by simp only [f1, if_neg hc3_1, if_pos hc17_2]
      exact Goes.retJ X0 hx Bd.returns hlocks (hb hby d1_49) (⟨by rw [hv], N0, e0⟩) (by decide) (by decide)
    · refine Goes.of (fun t k => XS.ifYes X0.here hx rfl (pc0 := 17) (pc' := 28) rfl (hb hby d1_17) rfl ((if0 _ _).trans (feq (mt (lw_eq _ _).mp hc17_2)).2) (by decide) (by decide) k) ?_
      show Goes p e below (s₁.setTop (mkF m 28 #[.val (.long q1), .second, .val (.long q2), .second, .unset, .unset] [])) _
      refine Goes.of (fun t k => XS.lloadN X0.here hx rfl (hb hby d1_28) rfl k) ?_
      show Goes p e below (s₁.setTop (mkF m 29 #[.val (.long q1), .second, .val (.long q2), .second, .unset, .unset] [(.long q1)])) _
      refine Goes.of (fun t k => X0.ldc2Long hx hown (mvT hZ (hw _ (List.mem_of_getElem? (i := 4) rfl))) (g := (mkF m 29 #[.val (.long q1), .second, .val (.long q2), .second, .unset, .unset] [(.long q1)])) rfl (hb hby d1_29) _ k) ?_
      show Goes p e below (s₁.setTop (mkF m 32 #[.val (.long q1), .second, .val (.long q2), .second, .unset, .unset] [(.long (2592000 : Int64)), (.long q1)])) _
      refine Goes.of (fun t k => XS.lcmp X0.here hx rfl (hb hby d1_32) rfl k) ?_
      show Goes p e below (s₁.setTop (mkF m 33 #[.val (.long q1), .second, .val (.long q2), .second, .unset, .unset] [(.int (lcmpW q1 (2592000 : Int64)))])) _
      by_cases hc33_3 : (2592000 : Int64) < q1
      · refine Goes.of (fun t k => XS.ifYes X0.here hx rfl (pc0 := 33) (pc' := 44) rfl (hb hby d1_33) rfl ((if0 _ _).trans (tlt ((lw_gt _ _).mpr hc33_3)).2.2.1) (by decide) (by decide) k) ?_
        show Goes p e below (s₁.setTop (mkF m 44 #[.val (.long q1), .second, .val (.long q2), .second, .unset, .unset] [])) _
        refine Goes.of (fun t k => XS.lloadN X0.here hx rfl (hb hby d1_44) rfl k) ?_
        show Goes p e below (s₁.setTop (mkF m 45 #[.val (.long q1), .second, .val (.long q2), .second, .unset, .unset] [(.long q1)])) _
        refine Goes.of (fun t k => XS.lstore X0.here hx rfl (hb hby d1_45) rfl (l' := #[.val (.long q1), .second, .val (.long q2), .second, .val (.long q1), .second]) rfl k) ?_
        show Goes p e below (s₁.setTop (mkF m 47 #[.val (.long q1), .second, .val (.long q2), .second, .val (.long q1), .second] [])) _
        refine Goes.of (fun t k => XS.lload X0.here hx rfl (hb hby d1_47) rfl k) ?_
        show Goes p e below (s₁.setTop (mkF m 49 #[.val (.long q1), .second, .val (.long q2), .second, .val (.long q1), .second] [(.long q1)])) _
        have hv : f1 q1 q2 = q1 := by simp only [f1, if_neg hc3_1, if_neg hc17_2, if_pos hc33_3]
        exact Goes.retJ X0 hx Bd.returns hlocks (hb hby d1_49) (⟨by rw [hv], N0, e0⟩) (by decide) (by decide)
      · refine Goes.of (fun t k => XS.ifNo X0.here hx rfl (hb hby d1_33) rfl ((if0 _ _).trans (flt (mt (lw_gt _ _).mp hc33_3)).2.2.1) k) ?_
        show Goes p e below (s₁.setTop (mkF m 36 #[.val (.long q1), .second, .val (.long q2), .second, .unset, .unset] [])) _
        refine Goes.of (fun t k => XS.lloadN X0.here hx rfl (hb hby d1_36) rfl k) ?_
        show Goes p e below (s₁.setTop (mkF m 37 #[.val (.long q1), .second, .val (.long q2), .second, .unset, .unset] [(.long q2)])) _
        refine Goes.of (fun t k => XS.lloadN X0.here hx rfl (hb hby d1_37) rfl k) ?_
        show Goes p e below (s₁.setTop (mkF m 38 #[.val (.long q1), .second, .val (.long q2), .second, .unset, .unset] [(.long q1), (.long q2)])) _
        refine Goes.of (fun t k => XS.ladd X0.here hx rfl (hb hby d1_38) rfl k) ?_
        show Goes p e below (s₁.setTop (mkF m 39 #[.val (.long q1), .second, .val (.long q2), .second, .unset, .unset] [(.long (q2 + q1))])) _
        refine Goes.of (fun t k => XS.lstore X0.here hx rfl (hb hby d1_39) rfl (l' := #[.val (.long q1), .second, .val (.long q2), .second, .val (.long (q2 + q1)), .second]) rfl k) ?_
        show Goes p e below (s₁.setTop (mkF m 41 #[.val (.long q1), .second, .val (.long q2), .second, .val (.long (q2 + q1)), .second] [])) _
        refine Goes.of (fun t k => XS.goto X0.here hx rfl (pc0 := 41) (pc' := 47) rfl (hb hby d1_41) (by decide) (by decide) k) ?_
        show Goes p e below (s₁.setTop (mkF m 47 #[.val (.long q1), .second, .val (.long q2), .second, .val (.long (q2 + q1)), .second] [])) _
        refine Goes.of (fun t k => XS.lload X0.here hx rfl (hb hby d1_47) rfl k) ?_
        show Goes p e below (s₁.setTop (mkF m 49 #[.val (.long q1), .second, .val (.long q2), .second, .val (.long (q2 + q1)), .second] [(.long (q2 + q1))])) _
        have hv : f1 q1 q2 = (q2 + q1) := by simp only [f1, if_neg hc3_1, if_neg hc17_2, if_neg hc33_3]
        exact Goes.retJ X0 hx Bd.returns hlocks (hb hby d1_49) (⟨by rw [hv], N0, e0⟩) (by decide) (by decide)
def f2 (q1 : Int64) (q2 : Int64) (q3 : Int64) : Int32 := (if q1 < (0 : Int64) then (if q3 = (-9223372036854775808 : Int64) then (1 : Int32) else (0 : Int32)) else (if q1 = (0 : Int64) then (if q3 = (9223372036854775807 : Int64) then (1 : Int32) else (0 : Int32)) else (if (2592000 : Int64) < q1 then (if q3 = q1 then (1 : Int32) else (0 : Int32)) else (if (q3 - q2) = q1 then (1 : Int32) else (0 : Int32)))))
theorem ef_2 (m : MethodId) (x0 : Int64) (x1 : Int64) (x2 : Int64) : entryFrame m #[(.long x0), (.long x1), (.long x2)] 6 = mkF m 0 #[.val (.long x0), .second, .val (.long x1), .second, .val (.long x2), .second] [] := by first | (simp [entryFrame, mkF, argsToLocals, Value.category]; done) | rfl
def Q2 (Z : State) (q1 : Int64) (q2 : Int64) (q3 : Int64) (h0 : Heap) (n0 : Nat) (v : Option Value) (h : Heap) (L : List Loc) : Prop := v = some (.int (nar .boolean (f2 q1 q2 q3))) ∧ Fr n0 L ∧ h = h0
set_option maxRecDepth 65536 in
set_option maxHeartbeats 40000000 in
theorem rm2 (l : Launch) (Z : State) (a0 : Array Value) (hw : ∀ d ∈ tables_1, d.before a0 Z = true) (ws : List Jvm.Cond) (q1 : Int64) (q2 : Int64) (q3 : Int64) (h0 : Heap) (n0 : Nat) (Z0 : n0 ≤ h0.size)  :
    MetFree l (⟨"com/example/entries_on_wire/entriesonwire/store/ExpiryDeadlinePinLaw", "expected", "(JJJ)Z"⟩ : MethodName) (head1 (Jvm.Cond.code (⟨"com/example/entries_on_wire/entriesonwire/store/ExpiryDeadlinePinLaw", "expected", "(JJJ)Z"⟩ : MethodName) method_2_code 6 (some .boolean) :: ws) ({ frames := 0, cells := 0, slots := 0, locals := 0 } : Room)) (fun a U => a = #[(.long q1), (.long q2), (.long q3)] ∧ Z.Warmed39 U.vm ∧ U.heap = h0) (fun _ _ _ _ _ => True) (fun _ U o U' => ∃ v L, o = .returned v ∧ Q2 Z q1 q2 q3 h0 n0 v U'.heap L ∧ FrameEnd U o U' L ({ frames := 0, cells := 0, slots := 0, locals := 0 } : Room).cells ({ frames := 0, cells := 0, slots := 0, locals := 0 } : Room).slots) := by
  refine MetFree.of_bodySF (plainFor_of_name pn_1) hisR ?_
  intro p e s m args below meth c s₁ Bd hml0 hP hK
  obtain ⟨rfl, hZ, hh⟩ := hP
  have hx := Bd.exec
  have hby := Bd.bytes
  have hml : c.maxLocals = 6 := hml0
  have hown : s.vm.findClass "com/example/entries_on_wire/entriesonwire/store/ExpiryDeadlinePinLaw" = some m.cls := findClass_of_methodNamed Bd.named
  have hnm := (name_of_methodNamed Bd.named Bd.method).1
  have hlocks : meth.locks = false := BodyLoose.notSynchronized Bd
  have X0 : Stand p l e ({ frames := 0, cells := 0, slots := 0, locals := 0 } : Room) s m #[(.long q1), (.long q2), (.long q3)] below meth c s₁ [] 0 0 := Stand.of_body Bd
  have e0 : s₁.heap = h0 := by rw [← hh, Bd.state]; rfl
  have N0 := Fr.nil n0
  show Goes p e below (s₁.setTop (entryFrame m #[(.long q1), (.long q2), (.long q3)] 6)) (Fin s (Q2 Z q1 q2 q3 h0 n0) ({ frames := 0, cells := 0, slots := 0, locals := 0 } : Room).cells ({ frames := 0, cells := 0, slots := 0, locals := 0 } : Room).slots)
  refine Goes.of (fun t k => castTop (ef_2 m q1 q2 q3) k) ?_
  show Goes p e below (s₁.setTop (mkF m 0 #[.val (.long q1), .second, .val (.long q2), .second, .val (.long q3), .second] [])) _
  refine Goes.of (fun t k => XS.lloadN X0.here hx rfl (hb hby d2_0) rfl k) ?_
  show Goes p e below (s₁.setTop (mkF m 1 #[.val (.long q1), .second, .val (.long q2), .second, .val (.long q3), .second] [(.long q1)])) _
  refine Goes.of (fun t k => XS.lconst X0.here hx rfl (hb hby d2_1) k) ?_
  show Goes p e below (s₁.setTop (mkF m 2 #[.val (.long q1), .second, .val (.long q2), .second, .val (.long q3), .second] [(.long (0 : Int64)), (.long q1)])) _
  refine Goes.of (fun t k => XS.lcmp X0.here hx rfl (hb hby d2_2) rfl k) ?_
  show Goes p e below (s₁.setTop (mkF m 3 #[.val (.long q1), .second, .val (.long q2), .second, .val (.long q3), .second] [(.int (lcmpW q1 (0 : Int64)))])) _
  by_cases hc3_4 : q1 < (0 : Int64)
  · refine Goes.of (fun t k => XS.ifNo X0.here hx rfl (hb hby d2_3) rfl ((if0 _ _).trans (tlt ((lw_lt _ _).mpr hc3_4)).2.1) k) ?_
    show Goes p e below (s₁.setTop (mkF m 6 #[.val (.long q1), .second, .val (.long q2), .second, .val (.long q3), .second] [])) _
    refine Goes.of (fun t k => XS.lload X0.here hx rfl (hb hby d2_6) rfl k) ?_
    show Goes p e below (s₁.setTop (mkF m 8 #[.val (.long q1), .second, .val (.long q2), .second, .val (.long q3), .second] [(.long q3)])) _
    refine Goes.of (fun t k => X0.ldc2Long hx hown (mvT hZ (hw _ (List.mem_of_getElem? (i := 12) rfl))) (g := (mkF m 8 #[.val (.long q1), .second, .val (.long q2), .second, .val (.long q3), .second] [(.long q3)])) rfl (hb hby d2_8) _ k) ?_
    show Goes p e below (s₁.setTop (mkF m 11 #[.val (.long q1), .second, .val (.long q2), .second, .val (.long q3), .second] [(.long (-9223372036854775808 : Int64)), (.long q3)])) _
    refine Goes.of (fun t k => XS.lcmp X0.here hx rfl (hb hby d2_11) rfl k) ?_
    show Goes p e below (s₁.setTop (mkF m 12 #[.val (.long q1), .second, .val (.long q2), .second, .val (.long q3), .second] [(.int (lcmpW q3 (-9223372036854775808 : Int64)))])) _
    by_cases hc12_5 : q3 = (-9223372036854775808 : Int64)
    · refine Goes.of (fun t k => XS.ifNo X0.here hx rfl (hb hby d2_12) rfl ((if0 _ _).trans (teq ((lw_eq _ _).mpr hc12_5)).2) k) ?_
      show Goes p e below (s₁.setTop (mkF m 15 #[.val (.long q1), .second, .val (.long q2), .second, .val (.long q3), .second] [])) _
      refine Goes.of (fun t k => XS.iconst X0.here hx rfl (hb hby d2_15) k) ?_
      show Goes p e below (s₁.setTop (mkF m 16 #[.val (.long q1), .second, .val (.long q2), .second, .val (.long q3), .second] [(.int (1 : Int32))])) _
      refine Goes.of (fun t k => XS.goto X0.here hx rfl (pc0 := 16) (pc' := 20) rfl (hb hby d2_16) (by decide) (by decide) k) ?_
      show Goes p e below (s₁.setTop (mkF m 20 #[.val (.long q1), .second, .val (.long q2), .second, .val (.long q3), .second] [(.int (1 : Int32))])) _
      have hv : f2 q1 q2 q3 = (1 : Int32) := by simp only [f2, if_pos hc3_4, if_pos hc12_5]
      exact Goes.retN (t := .boolean) X0 hx Bd.returns (by simp) hlocks (hb hby d2_20) (⟨by rw [hv], N0, e0⟩) (by decide) (by decide)
    · refine Goes.of (fun t k => XS.ifYes X0.here hx rfl (pc0 := 12) (pc' := 19) rfl (hb hby d2_12) rfl ((if0 _ _).trans (feq (mt (lw_eq _ _).mp hc12_5)).2) (by decide) (by decide) k) ?_
      show Goes p e below (s₁.setTop (mkF m 19 #[.val (.long q1), .second, .val (.long q2), .second, .val (.long q3), .second] [])) _
      refine Goes.of (fun t k => XS.iconst X0.here hx rfl (hb hby d2_19) k) ?_
      show Goes p e below (s₁.setTop (mkF m 20 #[.val (.long q1), .second, .val (.long q2), .second, .val (.long q3), .second] [(.int (0 : Int32))])) _
      have hv : f2 q1 q2 q3 = (0 : Int32) := by simp only [f2, if_pos hc3_4, if_neg hc12_5]
      exact Goes.retN (t := .boolean) X0 hx Bd.returns (by simp) hlocks (hb hby d2_20) (⟨by rw [hv], N0, e0⟩) (by decide) (by decide)
  · refine Goes.of (fun t k => XS.ifYes X0.here hx rfl (pc0 := 3) (pc' := 21) rfl (hb hby d2_3) rfl ((if0 _ _).trans (flt (mt (lw_lt _ _).mp hc3_4)).2.1) (by decide) (by decide) k) ?_
    show Goes p e below (s₁.setTop (mkF m 21 #[.val (.long q1), .second, .val (.long q2), .second, .val (.long q3), .second] [])) _
    refine Goes.of (fun t k => XS.lloadN X0.here hx rfl (hb hby d2_21) rfl k) ?_
    show Goes p e below (s₁.setTop (mkF m 22 #[.val (.long q1), .second, .val (.long q2), .second, .val (.long q3), .second] [(.long q1)])) _
    refine Goes.of (fun t k => XS.lconst X0.here hx rfl (hb hby d2_22) k) ?_
    show Goes p e below (s₁.setTop (mkF m 23 #[.val (.long q1), .second, .val (.long q2), .second, .val (.long q3), .second] [(.long (0 : Int64)), (.long q1)])) _
    refine Goes.of (fun t k => XS.lcmp X0.here hx rfl (hb hby d2_23) rfl k) ?_
    show Goes p e below (s₁.setTop (mkF m 24 #[.val (.long q1), .second, .val (.long q2), .second, .val (.long q3), .second] [(.int (lcmpW q1 (0 : Int64)))])) _
    by_cases hc24_6 : q1 = (0 : Int64)
    · refine Goes.of (fun t k => XS.ifNo X0.here hx rfl (hb hby d2_24) rfl ((if0 _ _).trans (teq ((lw_eq _ _).mpr hc24_6)).2) k) ?_
      show Goes p e below (s₁.setTop (mkF m 27 #[.val (.long q1), .second, .val (.long q2), .second, .val (.long q3), .second] [])) _
      refine Goes.of (fun t k => XS.lload X0.here hx rfl (hb hby d2_27) rfl k) ?_
      show Goes p e below (s₁.setTop (mkF m 29 #[.val (.long q1), .second, .val (.long q2), .second, .val (.long q3), .second] [(.long q3)])) _
      refine Goes.of (fun t k => X0.ldc2Long hx hown (mvT hZ (hw _ (List.mem_of_getElem? (i := 11) rfl))) (g := (mkF m 29 #[.val (.long q1), .second, .val (.long q2), .second, .val (.long q3), .second] [(.long q3)])) rfl (hb hby d2_29) _ k) ?_
      show Goes p e below (s₁.setTop (mkF m 32 #[.val (.long q1), .second, .val (.long q2), .second, .val (.long q3), .second] [(.long (9223372036854775807 : Int64)), (.long q3)])) _
      refine Goes.of (fun t k => XS.lcmp X0.here hx rfl (hb hby d2_32) rfl k) ?_
      show Goes p e below (s₁.setTop (mkF m 33 #[.val (.long q1), .second, .val (.long q2), .second, .val (.long q3), .second] [(.int (lcmpW q3 (9223372036854775807 : Int64)))])) _
      by_cases hc33_7 : q3 = (9223372036854775807 : Int64)
      · refine Goes.of (fun t k => XS.ifNo X0.here hx rfl (hb hby d2_33) rfl ((if0 _ _).trans (teq ((lw_eq _ _).mpr hc33_7)).2) k) ?_
        show Goes p e below (s₁.setTop (mkF m 36 #[.val (.long q1), .second, .val (.long q2), .second, .val (.long q3), .second] [])) _
        refine Goes.of (fun t k => XS.iconst X0.here hx rfl (hb hby d2_36) k) ?_
        show Goes p e below (s₁.setTop (mkF m 37 #[.val (.long q1), .second, .val (.long q2), .second, .val (.long q3), .second] [(.int (1 : Int32))])) _
        refine Goes.of (fun t k => XS.goto X0.here hx rfl (pc0 := 37) (pc' := 41) rfl (hb hby d2_37) (by decide) (by decide) k) ?_
        show Goes p e below (s₁.setTop (mkF m 41 #[.val (.long q1), .second, .val (.long q2), .second, .val (.long q3), .second] [(.int (1 : Int32))])) _
        have hv : f2 q1 q2 q3 = (1 : Int32) := by simp only [f2, if_neg hc3_4, if_pos hc24_6, if_pos hc33_7]
        exact Goes.retN (t := .boolean) X0 hx Bd.returns (by simp) hlocks (hb hby d2_41) (⟨by rw [hv], N0, e0⟩) (by decide) (by decide)
      · refine Goes.of (fun t k => XS.ifYes X0.here hx rfl (pc0 := 33) (pc' := 40) rfl (hb hby d2_33) rfl ((if0 _ _).trans (feq (mt (lw_eq _ _).mp hc33_7)).2) (by decide) (by decide) k) ?_
        show Goes p e below (s₁.setTop (mkF m 40 #[.val (.long q1), .second, .val (.long q2), .second, .val (.long q3), .second] [])) _
        refine Goes.of (fun t k => XS.iconst X0.here hx rfl (hb hby d2_40) k) ?_
        show Goes p e below (s₁.setTop (mkF m 41 #[.val (.long q1), .second, .val (.long q2), .second, .val (.long q3), .second] [(.int (0 : Int32))])) _
        have hv : f2 q1 q2 q3 = (0 : Int32) := by simp only [f2, if_neg hc3_4, if_pos hc24_6, if_neg hc33_7]
        exact Goes.retN (t := .boolean) X0 hx Bd.returns (by simp) hlocks (hb hby d2_41) (⟨by rw [hv], N0, e0⟩) (by decide) (by decide)
    · refine Goes.of (fun t k => XS.ifYes X0.here hx rfl (pc0 := 24) (pc' := 42) rfl (hb hby d2_24) rfl ((if0 _ _).trans (feq (mt (lw_eq _ _).mp hc24_6)).2) (by decide) (by decide) k) ?_
      show Goes p e below (s₁.setTop (mkF m 42 #[.val (.long q1), .second, .val (.long q2), .second, .val (.long q3), .second] [])) _
      refine Goes.of (fun t k => XS.lloadN X0.here hx rfl (hb hby d2_42) rfl k) ?_
      show Goes p e below (s₁.setTop (mkF m 43 #[.val (.long q1), .second, .val (.long q2), .second, .val (.long q3), .second] [(.long q1)])) _
      refine Goes.of (fun t k => X0.ldc2Long hx hown (mvT hZ (hw _ (List.mem_of_getElem? (i := 9) rfl))) (g := (mkF m 43 #[.val (.long q1), .second, .val (.long q2), .second, .val (.long q3), .second] [(.long q1)])) rfl (hb hby d2_43) _ k) ?_
      show Goes p e below (s₁.setTop (mkF m 46 #[.val (.long q1), .second, .val (.long q2), .second, .val (.long q3), .second] [(.long (2592000 : Int64)), (.long q1)])) _
      refine Goes.of (fun t k => XS.lcmp X0.here hx rfl (hb hby d2_46) rfl k) ?_
      show Goes p e below (s₁.setTop (mkF m 47 #[.val (.long q1), .second, .val (.long q2), .second, .val (.long q3), .second] [(.int (lcmpW q1 (2592000 : Int64)))])) _
      by_cases hc47_8 : (2592000 : Int64) < q1
      · refine Goes.of (fun t k => XS.ifYes X0.here hx rfl (pc0 := 47) (pc' := 65) rfl (hb hby d2_47) rfl ((if0 _ _).trans (tlt ((lw_gt _ _).mpr hc47_8)).2.2.1) (by decide) (by decide) k) ?_
        show Goes p e below (s₁.setTop (mkF m 65 #[.val (.long q1), .second, .val (.long q2), .second, .val (.long q3), .second] [])) _
        refine Goes.of (fun t k => XS.lload X0.here hx rfl (hb hby d2_65) rfl k) ?_
        show Goes p e below (s₁.setTop (mkF m 67 #[.val (.long q1), .second, .val (.long q2), .second, .val (.long q3), .second] [(.long q3)])) _
        refine Goes.of (fun t k => XS.lloadN X0.here hx rfl (hb hby d2_67) rfl k) ?_
        show Goes p e below (s₁.setTop (mkF m 68 #[.val (.long q1), .second, .val (.long q2), .second, .val (.long q3), .second] [(.long q1), (.long q3)])) _
        refine Goes.of (fun t k => XS.lcmp X0.here hx rfl (hb hby d2_68) rfl k) ?_
        show Goes p e below (s₁.setTop (mkF m 69 #[.val (.long q1), .second, .val (.long q2), .second, .val (.long q3), .second] [(.int (lcmpW q3 q1))])) _
        by_cases hc69_9 : q3 = q1
        · refine Goes.of (fun t k => XS.ifNo X0.here hx rfl (hb hby d2_69) rfl ((if0 _ _).trans (teq ((lw_eq _ _).mpr hc69_9)).2) k) ?_
          show Goes p e below (s₁.setTop (mkF m 72 #[.val (.long q1), .second, .val (.long q2), .second, .val (.long q3), .second] [])) _
          refine Goes.of (fun t k => XS.iconst X0.here hx rfl (hb hby d2_72) k) ?_
          show Goes p e below (s₁.setTop (mkF m 73 #[.val (.long q1), .second, .val (.long q2), .second, .val (.long q3), .second] [(.int (1 : Int32))])) _
          refine Goes.of (fun t k => XS.goto X0.here hx rfl (pc0 := 73) (pc' := 77) rfl (hb hby d2_73) (by decide) (by decide) k) ?_
          show Goes p e below (s₁.setTop (mkF m 77 #[.val (.long q1), .second, .val (.long q2), .second, .val (.long q3), .second] [(.int (1 : Int32))])) _
          have hv : f2 q1 q2 q3 = (1 : Int32) := by simp only [f2, if_neg hc3_4, if_neg hc24_6, if_pos hc47_8, if_pos hc69_9]
          exact Goes.retN (t := .boolean) X0 hx Bd.returns (by simp) hlocks (hb hby d2_77) (⟨by rw [hv], N0, e0⟩) (by decide) (by decide)
        · refine Goes.of (fun t k => XS.ifYes X0.here hx rfl (pc0 := 69) (pc' := 76) rfl (hb hby d2_69) rfl ((if0 _ _).trans (feq (mt (lw_eq _ _).mp hc69_9)).2) (by decide) (by decide) k) ?_
          show Goes p e below (s₁.setTop (mkF m 76 #[.val (.long q1), .second, .val (.long q2), .second, .val (.long q3), .second] [])) _
          refine Goes.of (fun t k => XS.iconst X0.here hx rfl (hb hby d2_76) k) ?_
          show Goes p e below (s₁.setTop (mkF m 77 #[.val (.long q1), .second, .val (.long q2), .second, .val (.long q3), .second] [(.int (0 : Int32))])) _
          have hv : f2 q1 q2 q3 = (0 : Int32) := by simp only [f2, if_neg hc3_4, if_neg hc24_6, if_pos hc47_8, if_neg hc69_9]
          exact Goes.retN (t := .boolean) X0 hx Bd.returns (by simp) hlocks (hb hby d2_77) (⟨by rw [hv], N0, e0⟩) (by decide) (by decide)
      · refine Goes.of (fun t k => XS.ifNo X0.here hx rfl (hb hby d2_47) rfl ((if0 _ _).trans (flt (mt (lw_gt _ _).mp hc47_8)).2.2.1) k) ?_
        show Goes p e below (s₁.setTop (mkF m 50 #[.val (.long q1), .second, .val (.long q2), .second, .val (.long q3), .second] [])) _
        refine Goes.of (fun t k => XS.lload X0.here hx rfl (hb hby d2_50) rfl k) ?_
        show Goes p e below (s₁.setTop (mkF m 52 #[.val (.long q1), .second, .val (.long q2), .second, .val (.long q3), .second] [(.long q3)])) _
        refine Goes.of (fun t k => XS.lloadN X0.here hx rfl (hb hby d2_52) rfl k) ?_
        show Goes p e below (s₁.setTop (mkF m 53 #[.val (.long q1), .second, .val (.long q2), .second, .val (.long q3), .second] [(.long q2), (.long q3)])) _
        refine Goes.of (fun t k => XS.lsub X0.here hx rfl (hb hby d2_53) rfl k) ?_
        show Goes p e below (s₁.setTop (mkF m 54 #[.val (.long q1), .second, .val (.long q2), .second, .val (.long q3), .second] [(.long (q3 - q2))])) _
        refine Goes.of (fun t k => XS.lloadN X0.here hx rfl (hb hby d2_54) rfl k) ?_
        show Goes p e below (s₁.setTop (mkF m 55 #[.val (.long q1), .second, .val (.long q2), .second, .val (.long q3), .second] [(.long q1), (.long (q3 - q2))])) _
        refine Goes.of (fun t k => XS.lcmp X0.here hx rfl (hb hby d2_55) rfl k) ?_
        show Goes p e below (s₁.setTop (mkF m 56 #[.val (.long q1), .second, .val (.long q2), .second, .val (.long q3), .second] [(.int (lcmpW (q3 - q2) q1))])) _
        by_cases hc56_10 : (q3 - q2) = q1
        · refine Goes.of (fun t k => XS.ifNo X0.here hx rfl (hb hby d2_56) rfl ((if0 _ _).trans (teq ((lw_eq _ _).mpr hc56_10)).2) k) ?_
          show Goes p e below (s₁.setTop (mkF m 59 #[.val (.long q1), .second, .val (.long q2), .second, .val (.long q3), .second] [])) _
          refine Goes.of (fun t k => XS.iconst X0.here hx rfl (hb hby d2_59) k) ?_
          show Goes p e below (s₁.setTop (mkF m 60 #[.val (.long q1), .second, .val (.long q2), .second, .val (.long q3), .second] [(.int (1 : Int32))])) _
          refine Goes.of (fun t k => XS.goto X0.here hx rfl (pc0 := 60) (pc' := 64) rfl (hb hby d2_60) (by decide) (by decide) k) ?_
          show Goes p e below (s₁.setTop (mkF m 64 #[.val (.long q1), .second, .val (.long q2), .second, .val (.long q3), .second] [(.int (1 : Int32))])) _
          have hv : f2 q1 q2 q3 = (1 : Int32) := by simp only [f2, if_neg hc3_4, if_neg hc24_6, if_neg hc47_8, if_pos hc56_10]
          exact Goes.retN (t := .boolean) X0 hx Bd.returns (by simp) hlocks (hb hby d2_64) (⟨by rw [hv], N0, e0⟩) (by decide) (by decide)
        · refine Goes.of (fun t k => XS.ifYes X0.here hx rfl (pc0 := 56) (pc' := 63) rfl (hb hby d2_56) rfl ((if0 _ _).trans (feq (mt (lw_eq _ _).mp hc56_10)).2) (by decide) (by decide) k) ?_
          show Goes p e below (s₁.setTop (mkF m 63 #[.val (.long q1), .second, .val (.long q2), .second, .val (.long q3), .second] [])) _
          refine Goes.of (fun t k => XS.iconst X0.here hx rfl (hb hby d2_63) k) ?_
          show Goes p e below (s₁.setTop (mkF m 64 #[.val (.long q1), .second, .val (.long q2), .second, .val (.long q3), .second] [(.int (0 : Int32))])) _
          have hv : f2 q1 q2 q3 = (0 : Int32) := by simp only [f2, if_neg hc3_4, if_neg hc24_6, if_neg hc47_8, if_neg hc56_10]
          exact Goes.retN (t := .boolean) X0 hx Bd.returns (by simp) hlocks (hb hby d2_64) (⟨by rw [hv], N0, e0⟩) (by decide) (by decide)
theorem own_i64_add_sub (a b : Int64) : a + b - a = b := by
  rw [Int64.add_comm]; exact Int64.add_sub_cancel b a
theorem own_ok (x n : Int64) : f2 x n (f1 x n) = 1 := by
  unfold f1 f2
  by_cases h1 : x < 0
  · simp [h1]
  · by_cases h2 : x = 0
    · simp [h2]
    · by_cases h3 : (2592000 : Int64) < x
      · simp [h1, h2, h3]
      · simp [h1, h2, h3, own_i64_add_sub]
theorem ef_0 (m : MethodId) (x0 : Int64) (x1 : Int64) (x2 : Int64) (x3 : Int32) (x4 : Int32) : entryFrame m #[(.long x0), (.long x1), (.long x2), (.int x3), (.int x4)] maxLocals = mkF m 0 #[.val (.long x0), .second, .val (.long x1), .second, .val (.long x2), .second, .val (.int x3), .val (.int x4), .unset, .unset, .unset, .unset, .unset, .unset, .unset, .unset, .unset] [] := by first | (simp [entryFrame, mkF, argsToLocals, Value.category, maxLocals]; done) | rfl
def Q0 (Z : State) (q1 : Int64) (q2 : Int64) (q3 : Int64) (p4 : Int32) (p5 : Int32) (h0 : Heap) (n0 : Nat) (v : Option Value) (h : Heap) (L : List Loc) : Prop := v = some (.int 1) ∧ Fr n0 L
set_option maxRecDepth 65536 in
set_option maxHeartbeats 40000000 in
theorem rm0 (l : Launch) (Z : State) (a0 : Array Value) (hw : ∀ d ∈ tables_1, d.before a0 Z = true) (ws : List Jvm.Cond) (q1 : Int64) (q2 : Int64) (q3 : Int64) (p4 : Int32) (p5 : Int32) (h0 : Heap) (n0 : Nat) (Z0 : n0 ≤ h0.size)  :
    MetFree l x (head1 (Jvm.Cond.code x code maxLocals ret :: ws) room_1) (fun a U => a = #[(.long q1), (.long q2), (.long q3), (.int p4), (.int p5)] ∧ Z.Warmed39 U.vm ∧ U.heap = h0) (fun _ _ _ _ _ => True) (fun _ U o U' => ∃ v L, o = .returned v ∧ Q0 Z q1 q2 q3 p4 p5 h0 n0 v U'.heap L ∧ FrameEnd U o U' L room_1.cells room_1.slots) := by
  refine MetFree.of_bodySF (plainFor_of_name pn_1) hisR ?_
  intro p e s m args below meth c s₁ Bd hml0 hP hK
  obtain ⟨rfl, hZ, hh⟩ := hP
  have hx := Bd.exec
  have hby := Bd.bytes
  have hml : c.maxLocals = 17 := hml0
  have hown : s.vm.findClass "com/example/entries_on_wire/entriesonwire/store/ExpiryDeadlinePinLaw" = some m.cls := findClass_of_methodNamed Bd.named
  have hnm := (name_of_methodNamed Bd.named Bd.method).1
  have hlocks : meth.locks = false := BodyLoose.notSynchronized Bd
  have X0 : Stand p l e room_1 s m #[(.long q1), (.long q2), (.long q3), (.int p4), (.int p5)] below meth c s₁ [] 0 0 := Stand.of_body Bd
  have e0 : s₁.heap = h0 := by rw [← hh, Bd.state]; rfl
  have N0 := Fr.nil n0
  show Goes p e below (s₁.setTop (entryFrame m #[(.long q1), (.long q2), (.long q3), (.int p4), (.int p5)] maxLocals)) (Fin s (Q0 Z q1 q2 q3 p4 p5 h0 n0) room_1.cells room_1.slots)
  refine Goes.of (fun t k => castTop (ef_0 m q1 q2 q3 p4 p5) k) ?_
  show Goes p e below (s₁.setTop (mkF m 0 #[.val (.long q1), .second, .val (.long q2), .second, .val (.long q3), .second, .val (.int p4), .val (.int p5), .unset, .unset, .unset, .unset, .unset, .unset, .unset, .unset, .unset] [])) _
  refine Goes.of (fun t k => XS.iload X0.here hx rfl (hb hby at_0) rfl k) ?_
  show Goes p e below (s₁.setTop (mkF m 2 #[.val (.long q1), .second, .val (.long q2), .second, .val (.long q3), .second, .val (.int p4), .val (.int p5), .unset, .unset, .unset, .unset, .unset, .unset, .unset, .unset, .unset] [(.int p4)])) _
  refine Goes.of (fun t k => XS.iconst X0.here hx rfl (hb hby at_2) k) ?_
  show Goes p e below (s₁.setTop (mkF m 3 #[.val (.long q1), .second, .val (.long q2), .second, .val (.long q3), .second, .val (.int p4), .val (.int p5), .unset, .unset, .unset, .unset, .unset, .unset, .unset, .unset, .unset] [(.int (3 : Int32)), (.int p4)])) _
  refine Goes.of (fun t k => XS.iand X0.here hx rfl (hb hby at_3) rfl k) ?_
  show Goes p e below (s₁.setTop (mkF m 4 #[.val (.long q1), .second, .val (.long q2), .second, .val (.long q3), .second, .val (.int p4), .val (.int p5), .unset, .unset, .unset, .unset, .unset, .unset, .unset, .unset, .unset] [(.int (p4 &&& (3 : Int32)))])) _
  refine Goes.of (fun t k => XS.istore X0.here hx rfl (hb hby at_4) rfl (l' := #[.val (.long q1), .second, .val (.long q2), .second, .val (.long q3), .second, .val (.int p4), .val (.int p5), .val (.int (p4 &&& (3 : Int32))), .unset, .unset, .unset, .unset, .unset, .unset, .unset, .unset]) rfl k) ?_
  show Goes p e below (s₁.setTop (mkF m 6 #[.val (.long q1), .second, .val (.long q2), .second, .val (.long q3), .second, .val (.int p4), .val (.int p5), .val (.int (p4 &&& (3 : Int32))), .unset, .unset, .unset, .unset, .unset, .unset, .unset, .unset] [])) _
  refine Goes.of (fun t k => XS.iload X0.here hx rfl (hb hby at_6) rfl k) ?_
  show Goes p e below (s₁.setTop (mkF m 8 #[.val (.long q1), .second, .val (.long q2), .second, .val (.long q3), .second, .val (.int p4), .val (.int p5), .val (.int (p4 &&& (3 : Int32))), .unset, .unset, .unset, .unset, .unset, .unset, .unset, .unset] [(.int p5)])) _
  refine Goes.of (fun t k => XS.iconst X0.here hx rfl (hb hby at_8) k) ?_
  show Goes p e below (s₁.setTop (mkF m 9 #[.val (.long q1), .second, .val (.long q2), .second, .val (.long q3), .second, .val (.int p4), .val (.int p5), .val (.int (p4 &&& (3 : Int32))), .unset, .unset, .unset, .unset, .unset, .unset, .unset, .unset] [(.int (3 : Int32)), (.int p5)])) _
  refine Goes.of (fun t k => XS.iand X0.here hx rfl (hb hby at_9) rfl k) ?_
  show Goes p e below (s₁.setTop (mkF m 10 #[.val (.long q1), .second, .val (.long q2), .second, .val (.long q3), .second, .val (.int p4), .val (.int p5), .val (.int (p4 &&& (3 : Int32))), .unset, .unset, .unset, .unset, .unset, .unset, .unset, .unset] [(.int (p5 &&& (3 : Int32)))])) _
  refine Goes.of (fun t k => XS.iconst X0.here hx rfl (hb hby at_10) k) ?_
  show Goes p e below (s₁.setTop (mkF m 11 #[.val (.long q1), .second, .val (.long q2), .second, .val (.long q3), .second, .val (.int p4), .val (.int p5), .val (.int (p4 &&& (3 : Int32))), .unset, .unset, .unset, .unset, .unset, .unset, .unset, .unset] [(.int (2 : Int32)), (.int (p5 &&& (3 : Int32)))])) _
  refine Goes.of (fun t k => XS.isub X0.here hx rfl (hb hby at_11) rfl k) ?_
  show Goes p e below (s₁.setTop (mkF m 12 #[.val (.long q1), .second, .val (.long q2), .second, .val (.long q3), .second, .val (.int p4), .val (.int p5), .val (.int (p4 &&& (3 : Int32))), .unset, .unset, .unset, .unset, .unset, .unset, .unset, .unset] [(.int ((p5 &&& (3 : Int32)) - (2 : Int32)))])) _
  refine Goes.of (fun t k => XS.i2l X0.here hx rfl (hb hby at_12) rfl k) ?_
  show Goes p e below (s₁.setTop (mkF m 13 #[.val (.long q1), .second, .val (.long q2), .second, .val (.long q3), .second, .val (.int p4), .val (.int p5), .val (.int (p4 &&& (3 : Int32))), .unset, .unset, .unset, .unset, .unset, .unset, .unset, .unset] [(.long (((p5 &&& (3 : Int32)) - (2 : Int32)).toInt64))])) _
  refine Goes.of (fun t k => XS.lstore X0.here hx rfl (hb hby at_13) rfl (l' := #[.val (.long q1), .second, .val (.long q2), .second, .val (.long q3), .second, .val (.int p4), .val (.int p5), .val (.int (p4 &&& (3 : Int32))), .val (.long (((p5 &&& (3 : Int32)) - (2 : Int32)).toInt64)), .second, .unset, .unset, .unset, .unset, .unset, .unset]) rfl k) ?_
  show Goes p e below (s₁.setTop (mkF m 15 #[.val (.long q1), .second, .val (.long q2), .second, .val (.long q3), .second, .val (.int p4), .val (.int p5), .val (.int (p4 &&& (3 : Int32))), .val (.long (((p5 &&& (3 : Int32)) - (2 : Int32)).toInt64)), .second, .unset, .unset, .unset, .unset, .unset, .unset] [])) _
  refine Goes.of (fun t k => XS.iload X0.here hx rfl (hb hby at_15) rfl k) ?_
  show Goes p e below (s₁.setTop (mkF m 17 #[.val (.long q1), .second, .val (.long q2), .second, .val (.long q3), .second, .val (.int p4), .val (.int p5), .val (.int (p4 &&& (3 : Int32))), .val (.long (((p5 &&& (3 : Int32)) - (2 : Int32)).toInt64)), .second, .unset, .unset, .unset, .unset, .unset, .unset] [(.int (p4 &&& (3 : Int32)))])) _
  obtain ⟨v11, hv11⟩ : ∃ z : Int64, z = (if (p4 &&& (3 : Int32)) = (0 : Int32) then q1 else (if (p4 &&& (3 : Int32)) = (1 : Int32) then ((2592000 : Int64) + (((p5 &&& (3 : Int32)) - (2 : Int32)).toInt64)) else (if (p4 &&& (3 : Int32)) = (2 : Int32) then (((p5 &&& (3 : Int32)) - (2 : Int32)).toInt64) else (if (p5 &&& (1 : Int32)) = (0 : Int32) then (9223372036854775807 : Int64) else (-9223372036854775808 : Int64))))) := ⟨_, rfl⟩
  refine Goes.of (S' := s₁.setTop (mkF m 74 #[.val (.long q1), .second, .val (.long q2), .second, .val (.long q3), .second, .val (.int p4), .val (.int p5), .val (.int (p4 &&& (3 : Int32))), .val (.long (((p5 &&& (3 : Int32)) - (2 : Int32)).toInt64)), .second, .val (.long v11), .second, .unset, .unset, .unset, .unset] [])) (fun t k => ?_) ?_
  · by_cases hb12 : (p4 &&& (3 : Int32)) = (0 : Int32)
    · refine XS.ifNo X0.here hx rfl (hb hby at_17) rfl ((if0 _ _).trans (teq hb12).2) ?_
      show Steps p.tables e below (s₁.setTop (mkF m 20 #[.val (.long q1), .second, .val (.long q2), .second, .val (.long q3), .second, .val (.int p4), .val (.int p5), .val (.int (p4 &&& (3 : Int32))), .val (.long (((p5 &&& (3 : Int32)) - (2 : Int32)).toInt64)), .second, .unset, .unset, .unset, .unset, .unset, .unset] [])) _
      refine XS.lloadN X0.here hx rfl (hb hby at_20) rfl ?_
      show Steps p.tables e below (s₁.setTop (mkF m 21 #[.val (.long q1), .second, .val (.long q2), .second, .val (.long q3), .second, .val (.int p4), .val (.int p5), .val (.int (p4 &&& (3 : Int32))), .val (.long (((p5 &&& (3 : Int32)) - (2 : Int32)).toInt64)), .second, .unset, .unset, .unset, .unset, .unset, .unset] [(.long q1)])) _
      refine XS.lstore X0.here hx rfl (hb hby at_21) rfl (l' := #[.val (.long q1), .second, .val (.long q2), .second, .val (.long q3), .second, .val (.int p4), .val (.int p5), .val (.int (p4 &&& (3 : Int32))), .val (.long (((p5 &&& (3 : Int32)) - (2 : Int32)).toInt64)), .second, .val (.long q1), .second, .unset, .unset, .unset, .unset]) rfl ?_
      show Steps p.tables e below (s₁.setTop (mkF m 23 #[.val (.long q1), .second, .val (.long q2), .second, .val (.long q3), .second, .val (.int p4), .val (.int p5), .val (.int (p4 &&& (3 : Int32))), .val (.long (((p5 &&& (3 : Int32)) - (2 : Int32)).toInt64)), .second, .val (.long q1), .second, .unset, .unset, .unset, .unset] [])) _
      refine XS.goto X0.here hx rfl (pc0 := 23) (pc' := 74) rfl (hb hby at_23) (by decide) (by decide) ?_
      show Steps p.tables e below (s₁.setTop (mkF m 74 #[.val (.long q1), .second, .val (.long q2), .second, .val (.long q3), .second, .val (.int p4), .val (.int p5), .val (.int (p4 &&& (3 : Int32))), .val (.long (((p5 &&& (3 : Int32)) - (2 : Int32)).toInt64)), .second, .val (.long q1), .second, .unset, .unset, .unset, .unset] [])) _
      simp only [if_pos hb12] at hv11; subst hv11
      exact k
    · refine XS.ifYes X0.here hx rfl (pc0 := 17) (pc' := 26) rfl (hb hby at_17) rfl ((if0 _ _).trans (feq hb12).2) (by decide) (by decide) ?_
      show Steps p.tables e below (s₁.setTop (mkF m 26 #[.val (.long q1), .second, .val (.long q2), .second, .val (.long q3), .second, .val (.int p4), .val (.int p5), .val (.int (p4 &&& (3 : Int32))), .val (.long (((p5 &&& (3 : Int32)) - (2 : Int32)).toInt64)), .second, .unset, .unset, .unset, .unset, .unset, .unset] [])) _
      refine XS.iload X0.here hx rfl (hb hby at_26) rfl ?_
      show Steps p.tables e below (s₁.setTop (mkF m 28 #[.val (.long q1), .second, .val (.long q2), .second, .val (.long q3), .second, .val (.int p4), .val (.int p5), .val (.int (p4 &&& (3 : Int32))), .val (.long (((p5 &&& (3 : Int32)) - (2 : Int32)).toInt64)), .second, .unset, .unset, .unset, .unset, .unset, .unset] [(.int (p4 &&& (3 : Int32)))])) _
      refine XS.iconst X0.here hx rfl (hb hby at_28) ?_
      show Steps p.tables e below (s₁.setTop (mkF m 29 #[.val (.long q1), .second, .val (.long q2), .second, .val (.long q3), .second, .val (.int p4), .val (.int p5), .val (.int (p4 &&& (3 : Int32))), .val (.long (((p5 &&& (3 : Int32)) - (2 : Int32)).toInt64)), .second, .unset, .unset, .unset, .unset, .unset, .unset] [(.int (1 : Int32)), (.int (p4 &&& (3 : Int32)))])) _
      by_cases hb13 : (p4 &&& (3 : Int32)) = (1 : Int32)
      · refine XS.icmpNo X0.here hx rfl (hb hby at_29) rfl (teq hb13).2 ?_
        show Steps p.tables e below (s₁.setTop (mkF m 32 #[.val (.long q1), .second, .val (.long q2), .second, .val (.long q3), .second, .val (.int p4), .val (.int p5), .val (.int (p4 &&& (3 : Int32))), .val (.long (((p5 &&& (3 : Int32)) - (2 : Int32)).toInt64)), .second, .unset, .unset, .unset, .unset, .unset, .unset] [])) _
        refine X0.ldc2Long hx hown (mvT hZ (hw _ (List.mem_of_getElem? (i := 9) rfl))) (g := (mkF m 32 #[.val (.long q1), .second, .val (.long q2), .second, .val (.long q3), .second, .val (.int p4), .val (.int p5), .val (.int (p4 &&& (3 : Int32))), .val (.long (((p5 &&& (3 : Int32)) - (2 : Int32)).toInt64)), .second, .unset, .unset, .unset, .unset, .unset, .unset] [])) rfl (hb hby at_32) _ ?_
        show Steps p.tables e below (s₁.setTop (mkF m 35 #[.val (.long q1), .second, .val (.long q2), .second, .val (.long q3), .second, .val (.int p4), .val (.int p5), .val (.int (p4 &&& (3 : Int32))), .val (.long (((p5 &&& (3 : Int32)) - (2 : Int32)).toInt64)), .second, .unset, .unset, .unset, .unset, .unset, .unset] [(.long (2592000 : Int64))])) _
        refine XS.lload X0.here hx rfl (hb hby at_35) rfl ?_
        show Steps p.tables e below (s₁.setTop (mkF m 37 #[.val (.long q1), .second, .val (.long q2), .second, .val (.long q3), .second, .val (.int p4), .val (.int p5), .val (.int (p4 &&& (3 : Int32))), .val (.long (((p5 &&& (3 : Int32)) - (2 : Int32)).toInt64)), .second, .unset, .unset, .unset, .unset, .unset, .unset] [(.long (((p5 &&& (3 : Int32)) - (2 : Int32)).toInt64)), (.long (2592000 : Int64))])) _
        refine XS.ladd X0.here hx rfl (hb hby at_37) rfl ?_
        show Steps p.tables e below (s₁.setTop (mkF m 38 #[.val (.long q1), .second, .val (.long q2), .second, .val (.long q3), .second, .val (.int p4), .val (.int p5), .val (.int (p4 &&& (3 : Int32))), .val (.long (((p5 &&& (3 : Int32)) - (2 : Int32)).toInt64)), .second, .unset, .unset, .unset, .unset, .unset, .unset] [(.long ((2592000 : Int64) + (((p5 &&& (3 : Int32)) - (2 : Int32)).toInt64)))])) _
        refine XS.lstore X0.here hx rfl (hb hby at_38) rfl (l' := #[.val (.long q1), .second, .val (.long q2), .second, .val (.long q3), .second, .val (.int p4), .val (.int p5), .val (.int (p4 &&& (3 : Int32))), .val (.long (((p5 &&& (3 : Int32)) - (2 : Int32)).toInt64)), .second, .val (.long ((2592000 : Int64) + (((p5 &&& (3 : Int32)) - (2 : Int32)).toInt64))), .second, .unset, .unset, .unset, .unset]) rfl ?_
        show Steps p.tables e below (s₁.setTop (mkF m 40 #[.val (.long q1), .second, .val (.long q2), .second, .val (.long q3), .second, .val (.int p4), .val (.int p5), .val (.int (p4 &&& (3 : Int32))), .val (.long (((p5 &&& (3 : Int32)) - (2 : Int32)).toInt64)), .second, .val (.long ((2592000 : Int64) + (((p5 &&& (3 : Int32)) - (2 : Int32)).toInt64))), .second, .unset, .unset, .unset, .unset] [])) _
        refine XS.goto X0.here hx rfl (pc0 := 40) (pc' := 74) rfl (hb hby at_40) (by decide) (by decide) ?_
        show Steps p.tables e below (s₁.setTop (mkF m 74 #[.val (.long q1), .second, .val (.long q2), .second, .val (.long q3), .second, .val (.int p4), .val (.int p5), .val (.int (p4 &&& (3 : Int32))), .val (.long (((p5 &&& (3 : Int32)) - (2 : Int32)).toInt64)), .second, .val (.long ((2592000 : Int64) + (((p5 &&& (3 : Int32)) - (2 : Int32)).toInt64))), .second, .unset, .unset, .unset, .unset] [])) _
        simp only [if_neg hb12, if_pos hb13] at hv11; subst hv11
        exact k
      · refine XS.icmpYes X0.here hx rfl (pc0 := 29) (pc' := 43) rfl (hb hby at_29) rfl (feq hb13).2 (by decide) (by decide) ?_
        show Steps p.tables e below (s₁.setTop (mkF m 43 #[.val (.long q1), .second, .val (.long q2), .second, .val (.long q3), .second, .val (.int p4), .val (.int p5), .val (.int (p4 &&& (3 : Int32))), .val (.long (((p5 &&& (3 : Int32)) - (2 : Int32)).toInt64)), .second, .unset, .unset, .unset, .unset, .unset, .unset] [])) _
        refine XS.iload X0.here hx rfl (hb hby at_43) rfl ?_
        show Steps p.tables e below (s₁.setTop (mkF m 45 #[.val (.long q1), .second, .val (.long q2), .second, .val (.long q3), .second, .val (.int p4), .val (.int p5), .val (.int (p4 &&& (3 : Int32))), .val (.long (((p5 &&& (3 : Int32)) - (2 : Int32)).toInt64)), .second, .unset, .unset, .unset, .unset, .unset, .unset] [(.int (p4 &&& (3 : Int32)))])) _
        refine XS.iconst X0.here hx rfl (hb hby at_45) ?_
        show Steps p.tables e below (s₁.setTop (mkF m 46 #[.val (.long q1), .second, .val (.long q2), .second, .val (.long q3), .second, .val (.int p4), .val (.int p5), .val (.int (p4 &&& (3 : Int32))), .val (.long (((p5 &&& (3 : Int32)) - (2 : Int32)).toInt64)), .second, .unset, .unset, .unset, .unset, .unset, .unset] [(.int (2 : Int32)), (.int (p4 &&& (3 : Int32)))])) _
        by_cases hb14 : (p4 &&& (3 : Int32)) = (2 : Int32)
        · refine XS.icmpNo X0.here hx rfl (hb hby at_46) rfl (teq hb14).2 ?_
          show Steps p.tables e below (s₁.setTop (mkF m 49 #[.val (.long q1), .second, .val (.long q2), .second, .val (.long q3), .second, .val (.int p4), .val (.int p5), .val (.int (p4 &&& (3 : Int32))), .val (.long (((p5 &&& (3 : Int32)) - (2 : Int32)).toInt64)), .second, .unset, .unset, .unset, .unset, .unset, .unset] [])) _
          refine XS.lload X0.here hx rfl (hb hby at_49) rfl ?_
          show Steps p.tables e below (s₁.setTop (mkF m 51 #[.val (.long q1), .second, .val (.long q2), .second, .val (.long q3), .second, .val (.int p4), .val (.int p5), .val (.int (p4 &&& (3 : Int32))), .val (.long (((p5 &&& (3 : Int32)) - (2 : Int32)).toInt64)), .second, .unset, .unset, .unset, .unset, .unset, .unset] [(.long (((p5 &&& (3 : Int32)) - (2 : Int32)).toInt64))])) _
          refine XS.lstore X0.here hx rfl (hb hby at_51) rfl (l' := #[.val (.long q1), .second, .val (.long q2), .second, .val (.long q3), .second, .val (.int p4), .val (.int p5), .val (.int (p4 &&& (3 : Int32))), .val (.long (((p5 &&& (3 : Int32)) - (2 : Int32)).toInt64)), .second, .val (.long (((p5 &&& (3 : Int32)) - (2 : Int32)).toInt64)), .second, .unset, .unset, .unset, .unset]) rfl ?_
          show Steps p.tables e below (s₁.setTop (mkF m 53 #[.val (.long q1), .second, .val (.long q2), .second, .val (.long q3), .second, .val (.int p4), .val (.int p5), .val (.int (p4 &&& (3 : Int32))), .val (.long (((p5 &&& (3 : Int32)) - (2 : Int32)).toInt64)), .second, .val (.long (((p5 &&& (3 : Int32)) - (2 : Int32)).toInt64)), .second, .unset, .unset, .unset, .unset] [])) _
          refine XS.goto X0.here hx rfl (pc0 := 53) (pc' := 74) rfl (hb hby at_53) (by decide) (by decide) ?_
          show Steps p.tables e below (s₁.setTop (mkF m 74 #[.val (.long q1), .second, .val (.long q2), .second, .val (.long q3), .second, .val (.int p4), .val (.int p5), .val (.int (p4 &&& (3 : Int32))), .val (.long (((p5 &&& (3 : Int32)) - (2 : Int32)).toInt64)), .second, .val (.long (((p5 &&& (3 : Int32)) - (2 : Int32)).toInt64)), .second, .unset, .unset, .unset, .unset] [])) _
          simp only [if_neg hb12, if_neg hb13, if_pos hb14] at hv11; subst hv11
          exact k
        · refine XS.icmpYes X0.here hx rfl (pc0 := 46) (pc' := 56) rfl (hb hby at_46) rfl (feq hb14).2 (by decide) (by decide) ?_
          show Steps p.tables e below (s₁.setTop (mkF m 56 #[.val (.long q1), .second, .val (.long q2), .second, .val (.long q3), .second, .val (.int p4), .val (.int p5), .val (.int (p4 &&& (3 : Int32))), .val (.long (((p5 &&& (3 : Int32)) - (2 : Int32)).toInt64)), .second, .unset, .unset, .unset, .unset, .unset, .unset] [])) _
          refine XS.iload X0.here hx rfl (hb hby at_56) rfl ?_
          show Steps p.tables e below (s₁.setTop (mkF m 58 #[.val (.long q1), .second, .val (.long q2), .second, .val (.long q3), .second, .val (.int p4), .val (.int p5), .val (.int (p4 &&& (3 : Int32))), .val (.long (((p5 &&& (3 : Int32)) - (2 : Int32)).toInt64)), .second, .unset, .unset, .unset, .unset, .unset, .unset] [(.int p5)])) _
          refine XS.iconst X0.here hx rfl (hb hby at_58) ?_
          show Steps p.tables e below (s₁.setTop (mkF m 59 #[.val (.long q1), .second, .val (.long q2), .second, .val (.long q3), .second, .val (.int p4), .val (.int p5), .val (.int (p4 &&& (3 : Int32))), .val (.long (((p5 &&& (3 : Int32)) - (2 : Int32)).toInt64)), .second, .unset, .unset, .unset, .unset, .unset, .unset] [(.int (1 : Int32)), (.int p5)])) _
          refine XS.iand X0.here hx rfl (hb hby at_59) rfl ?_
          show Steps p.tables e below (s₁.setTop (mkF m 60 #[.val (.long q1), .second, .val (.long q2), .second, .val (.long q3), .second, .val (.int p4), .val (.int p5), .val (.int (p4 &&& (3 : Int32))), .val (.long (((p5 &&& (3 : Int32)) - (2 : Int32)).toInt64)), .second, .unset, .unset, .unset, .unset, .unset, .unset] [(.int (p5 &&& (1 : Int32)))])) _
          by_cases hb15 : (p5 &&& (1 : Int32)) = (0 : Int32)
          · refine XS.ifNo X0.here hx rfl (hb hby at_60) rfl ((if0 _ _).trans (teq hb15).2) ?_
            show Steps p.tables e below (s₁.setTop (mkF m 63 #[.val (.long q1), .second, .val (.long q2), .second, .val (.long q3), .second, .val (.int p4), .val (.int p5), .val (.int (p4 &&& (3 : Int32))), .val (.long (((p5 &&& (3 : Int32)) - (2 : Int32)).toInt64)), .second, .unset, .unset, .unset, .unset, .unset, .unset] [])) _
            refine X0.ldc2Long hx hown (mvT hZ (hw _ (List.mem_of_getElem? (i := 11) rfl))) (g := (mkF m 63 #[.val (.long q1), .second, .val (.long q2), .second, .val (.long q3), .second, .val (.int p4), .val (.int p5), .val (.int (p4 &&& (3 : Int32))), .val (.long (((p5 &&& (3 : Int32)) - (2 : Int32)).toInt64)), .second, .unset, .unset, .unset, .unset, .unset, .unset] [])) rfl (hb hby at_63) _ ?_
            show Steps p.tables e below (s₁.setTop (mkF m 66 #[.val (.long q1), .second, .val (.long q2), .second, .val (.long q3), .second, .val (.int p4), .val (.int p5), .val (.int (p4 &&& (3 : Int32))), .val (.long (((p5 &&& (3 : Int32)) - (2 : Int32)).toInt64)), .second, .unset, .unset, .unset, .unset, .unset, .unset] [(.long (9223372036854775807 : Int64))])) _
            refine XS.goto X0.here hx rfl (pc0 := 66) (pc' := 72) rfl (hb hby at_66) (by decide) (by decide) ?_
            show Steps p.tables e below (s₁.setTop (mkF m 72 #[.val (.long q1), .second, .val (.long q2), .second, .val (.long q3), .second, .val (.int p4), .val (.int p5), .val (.int (p4 &&& (3 : Int32))), .val (.long (((p5 &&& (3 : Int32)) - (2 : Int32)).toInt64)), .second, .unset, .unset, .unset, .unset, .unset, .unset] [(.long (9223372036854775807 : Int64))])) _
            refine XS.lstore X0.here hx rfl (hb hby at_72) rfl (l' := #[.val (.long q1), .second, .val (.long q2), .second, .val (.long q3), .second, .val (.int p4), .val (.int p5), .val (.int (p4 &&& (3 : Int32))), .val (.long (((p5 &&& (3 : Int32)) - (2 : Int32)).toInt64)), .second, .val (.long (9223372036854775807 : Int64)), .second, .unset, .unset, .unset, .unset]) rfl ?_
            show Steps p.tables e below (s₁.setTop (mkF m 74 #[.val (.long q1), .second, .val (.long q2), .second, .val (.long q3), .second, .val (.int p4), .val (.int p5), .val (.int (p4 &&& (3 : Int32))), .val (.long (((p5 &&& (3 : Int32)) - (2 : Int32)).toInt64)), .second, .val (.long (9223372036854775807 : Int64)), .second, .unset, .unset, .unset, .unset] [])) _
            simp only [if_neg hb12, if_neg hb13, if_neg hb14, if_pos hb15] at hv11; subst hv11
            exact k
          · refine XS.ifYes X0.here hx rfl (pc0 := 60) (pc' := 69) rfl (hb hby at_60) rfl ((if0 _ _).trans (feq hb15).2) (by decide) (by decide) ?_
            show Steps p.tables e below (s₁.setTop (mkF m 69 #[.val (.long q1), .second, .val (.long q2), .second, .val (.long q3), .second, .val (.int p4), .val (.int p5), .val (.int (p4 &&& (3 : Int32))), .val (.long (((p5 &&& (3 : Int32)) - (2 : Int32)).toInt64)), .second, .unset, .unset, .unset, .unset, .unset, .unset] [])) _
            refine X0.ldc2Long hx hown (mvT hZ (hw _ (List.mem_of_getElem? (i := 12) rfl))) (g := (mkF m 69 #[.val (.long q1), .second, .val (.long q2), .second, .val (.long q3), .second, .val (.int p4), .val (.int p5), .val (.int (p4 &&& (3 : Int32))), .val (.long (((p5 &&& (3 : Int32)) - (2 : Int32)).toInt64)), .second, .unset, .unset, .unset, .unset, .unset, .unset] [])) rfl (hb hby at_69) _ ?_
            show Steps p.tables e below (s₁.setTop (mkF m 72 #[.val (.long q1), .second, .val (.long q2), .second, .val (.long q3), .second, .val (.int p4), .val (.int p5), .val (.int (p4 &&& (3 : Int32))), .val (.long (((p5 &&& (3 : Int32)) - (2 : Int32)).toInt64)), .second, .unset, .unset, .unset, .unset, .unset, .unset] [(.long (-9223372036854775808 : Int64))])) _
            refine XS.lstore X0.here hx rfl (hb hby at_72) rfl (l' := #[.val (.long q1), .second, .val (.long q2), .second, .val (.long q3), .second, .val (.int p4), .val (.int p5), .val (.int (p4 &&& (3 : Int32))), .val (.long (((p5 &&& (3 : Int32)) - (2 : Int32)).toInt64)), .second, .val (.long (-9223372036854775808 : Int64)), .second, .unset, .unset, .unset, .unset]) rfl ?_
            show Steps p.tables e below (s₁.setTop (mkF m 74 #[.val (.long q1), .second, .val (.long q2), .second, .val (.long q3), .second, .val (.int p4), .val (.int p5), .val (.int (p4 &&& (3 : Int32))), .val (.long (((p5 &&& (3 : Int32)) - (2 : Int32)).toInt64)), .second, .val (.long (-9223372036854775808 : Int64)), .second, .unset, .unset, .unset, .unset] [])) _
            simp only [if_neg hb12, if_neg hb13, if_neg hb14, if_neg hb15] at hv11; subst hv11
            exact k
  show Goes p e below (s₁.setTop (mkF m 74 #[.val (.long q1), .second, .val (.long q2), .second, .val (.long q3), .second, .val (.int p4), .val (.int p5), .val (.int (p4 &&& (3 : Int32))), .val (.long (((p5 &&& (3 : Int32)) - (2 : Int32)).toInt64)), .second, .val (.long v11), .second, .unset, .unset, .unset, .unset] [])) _
  refine Goes.of (fun t k => XS.lload X0.here hx rfl (hb hby at_74) rfl k) ?_
  show Goes p e below (s₁.setTop (mkF m 76 #[.val (.long q1), .second, .val (.long q2), .second, .val (.long q3), .second, .val (.int p4), .val (.int p5), .val (.int (p4 &&& (3 : Int32))), .val (.long (((p5 &&& (3 : Int32)) - (2 : Int32)).toInt64)), .second, .val (.long v11), .second, .unset, .unset, .unset, .unset] [(.long v11)])) _
  refine Goes.of (fun t k => XS.lloadN X0.here hx rfl (hb hby at_76) rfl k) ?_
  show Goes p e below (s₁.setTop (mkF m 77 #[.val (.long q1), .second, .val (.long q2), .second, .val (.long q3), .second, .val (.int p4), .val (.int p5), .val (.int (p4 &&& (3 : Int32))), .val (.long (((p5 &&& (3 : Int32)) - (2 : Int32)).toInt64)), .second, .val (.long v11), .second, .unset, .unset, .unset, .unset] [(.long q2), (.long v11)])) _
  obtain ⟨_, _, ⟨T16, L16, k16, n16⟩, -, X16, ⟨Lc16, hQ16, l16, y16, z16⟩, st16⟩ := Jvm.LawKit.callS X0 hx (y := (⟨"com/example/entries_on_wire/entriesonwire/store/Expiry", "deadline", "(JJ)J"⟩ : MethodName)) hown (mvT hZ (hw _ (List.mem_of_getElem? (i := 0) rfl))) (mvT hZ (hw _ (List.mem_of_getElem? (i := 1) rfl))) (mvT hZ (hw _ (List.mem_of_getElem? (i := 2) rfl))) (mvT hZ (hw _ (List.mem_of_getElem? (i := 3) rfl))) (by decide) (backOf (W := 0) (rm1 l Z a0 hw [] v11 q2  h0 n0 Z0 ) hZ (hw _ (List.mem_of_getElem? (i := 3) rfl)) (hw _ (List.mem_of_getElem? (i := 2) rfl)) (by decide) (by decide)) (g := (mkF m 77 #[.val (.long q1), .second, .val (.long q2), .second, .val (.long q3), .second, .val (.int p4), .val (.int p5), .val (.int (p4 &&& (3 : Int32))), .val (.long (((p5 &&& (3 : Int32)) - (2 : Int32)).toInt64)), .second, .val (.long v11), .second, .unset, .unset, .unset, .unset] [(.long q2), (.long v11)])) rfl (by rw [hml]; rfl) (argsL := [(.long v11), (.long q2)]) (rest := []) (lenOf pd_2 rfl) rfl (by show 2 * 0 + _ ≤ _; exact Nat.le_of_eq rfl) (hb hby at_77) (fun _ _ => ⟨rfl, e0, (by decide : 0 + 0 ≤ _), (by decide : 0 + 0 ≤ _)⟩)
  dsimp only [Pt.U, Pt.locs, Pt.cells, Pt.slots] at X16 l16 y16 z16 st16 hQ16
  subst l16 y16 z16
  obtain ⟨rfl, N16q, e16⟩ := hQ16
  have N16 := Fr.app N0 N16q
  refine Goes.of st16 ?_
  show Goes p e below (T16.setTop (mkF m 80 #[.val (.long q1), .second, .val (.long q2), .second, .val (.long q3), .second, .val (.int p4), .val (.int p5), .val (.int (p4 &&& (3 : Int32))), .val (.long (((p5 &&& (3 : Int32)) - (2 : Int32)).toInt64)), .second, .val (.long v11), .second, .unset, .unset, .unset, .unset] [(.long (f1 v11 q2))])) _
  refine Goes.of (fun t k => XS.lstore X16.here hx rfl (hb hby at_80) rfl (l' := #[.val (.long q1), .second, .val (.long q2), .second, .val (.long q3), .second, .val (.int p4), .val (.int p5), .val (.int (p4 &&& (3 : Int32))), .val (.long (((p5 &&& (3 : Int32)) - (2 : Int32)).toInt64)), .second, .val (.long v11), .second, .val (.long (f1 v11 q2)), .second, .unset, .unset]) rfl k) ?_
  show Goes p e below (T16.setTop (mkF m 82 #[.val (.long q1), .second, .val (.long q2), .second, .val (.long q3), .second, .val (.int p4), .val (.int p5), .val (.int (p4 &&& (3 : Int32))), .val (.long (((p5 &&& (3 : Int32)) - (2 : Int32)).toInt64)), .second, .val (.long v11), .second, .val (.long (f1 v11 q2)), .second, .unset, .unset] [])) _
  refine Goes.of (fun t k => XS.lload X16.here hx rfl (hb hby at_82) rfl k) ?_
  show Goes p e below (T16.setTop (mkF m 84 #[.val (.long q1), .second, .val (.long q2), .second, .val (.long q3), .second, .val (.int p4), .val (.int p5), .val (.int (p4 &&& (3 : Int32))), .val (.long (((p5 &&& (3 : Int32)) - (2 : Int32)).toInt64)), .second, .val (.long v11), .second, .val (.long (f1 v11 q2)), .second, .unset, .unset] [(.long v11)])) _
  refine Goes.of (fun t k => XS.lload X16.here hx rfl (hb hby at_84) rfl k) ?_
  show Goes p e below (T16.setTop (mkF m 86 #[.val (.long q1), .second, .val (.long q2), .second, .val (.long q3), .second, .val (.int p4), .val (.int p5), .val (.int (p4 &&& (3 : Int32))), .val (.long (((p5 &&& (3 : Int32)) - (2 : Int32)).toInt64)), .second, .val (.long v11), .second, .val (.long (f1 v11 q2)), .second, .unset, .unset] [(.long q3), (.long v11)])) _
  obtain ⟨_, _, ⟨T17, L17, k17, n17⟩, -, X17, ⟨Lc17, hQ17, l17, y17, z17⟩, st17⟩ := Jvm.LawKit.callS X16 hx (y := (⟨"com/example/entries_on_wire/entriesonwire/store/Expiry", "deadline", "(JJ)J"⟩ : MethodName)) hown (mvT hZ (hw _ (List.mem_of_getElem? (i := 0) rfl))) (mvT hZ (hw _ (List.mem_of_getElem? (i := 1) rfl))) (mvT hZ (hw _ (List.mem_of_getElem? (i := 2) rfl))) (mvT hZ (hw _ (List.mem_of_getElem? (i := 3) rfl))) (by decide) (backOf (W := 0) (rm1 l Z a0 hw [] v11 q3  h0 n0 Z0 ) hZ (hw _ (List.mem_of_getElem? (i := 3) rfl)) (hw _ (List.mem_of_getElem? (i := 2) rfl)) (by decide) (by decide)) (g := (mkF m 86 #[.val (.long q1), .second, .val (.long q2), .second, .val (.long q3), .second, .val (.int p4), .val (.int p5), .val (.int (p4 &&& (3 : Int32))), .val (.long (((p5 &&& (3 : Int32)) - (2 : Int32)).toInt64)), .second, .val (.long v11), .second, .val (.long (f1 v11 q2)), .second, .unset, .unset] [(.long q3), (.long v11)])) rfl (by rw [hml]; rfl) (argsL := [(.long v11), (.long q3)]) (rest := []) (lenOf pd_2 rfl) rfl (by show 2 * 0 + _ ≤ _; exact Nat.le_of_eq rfl) (hb hby at_86) (fun _ _ => ⟨rfl, e16, (by decide : 0 + 0 ≤ _), (by decide : 0 + 0 ≤ _)⟩)
  dsimp only [Pt.U, Pt.locs, Pt.cells, Pt.slots] at X17 l17 y17 z17 st17 hQ17
  subst l17 y17 z17
  obtain ⟨rfl, N17q, e17⟩ := hQ17
  have N17 := Fr.app N16 N17q
  refine Goes.of st17 ?_
  show Goes p e below (T17.setTop (mkF m 89 #[.val (.long q1), .second, .val (.long q2), .second, .val (.long q3), .second, .val (.int p4), .val (.int p5), .val (.int (p4 &&& (3 : Int32))), .val (.long (((p5 &&& (3 : Int32)) - (2 : Int32)).toInt64)), .second, .val (.long v11), .second, .val (.long (f1 v11 q2)), .second, .unset, .unset] [(.long (f1 v11 q3))])) _
  refine Goes.of (fun t k => XS.lstore X17.here hx rfl (hb hby at_89) rfl (l' := #[.val (.long q1), .second, .val (.long q2), .second, .val (.long q3), .second, .val (.int p4), .val (.int p5), .val (.int (p4 &&& (3 : Int32))), .val (.long (((p5 &&& (3 : Int32)) - (2 : Int32)).toInt64)), .second, .val (.long v11), .second, .val (.long (f1 v11 q2)), .second, .val (.long (f1 v11 q3)), .second]) rfl k) ?_
  show Goes p e below (T17.setTop (mkF m 91 #[.val (.long q1), .second, .val (.long q2), .second, .val (.long q3), .second, .val (.int p4), .val (.int p5), .val (.int (p4 &&& (3 : Int32))), .val (.long (((p5 &&& (3 : Int32)) - (2 : Int32)).toInt64)), .second, .val (.long v11), .second, .val (.long (f1 v11 q2)), .second, .val (.long (f1 v11 q3)), .second] [])) _
  refine Goes.of (fun t k => XS.lload X17.here hx rfl (hb hby at_91) rfl k) ?_
  show Goes p e below (T17.setTop (mkF m 93 #[.val (.long q1), .second, .val (.long q2), .second, .val (.long q3), .second, .val (.int p4), .val (.int p5), .val (.int (p4 &&& (3 : Int32))), .val (.long (((p5 &&& (3 : Int32)) - (2 : Int32)).toInt64)), .second, .val (.long v11), .second, .val (.long (f1 v11 q2)), .second, .val (.long (f1 v11 q3)), .second] [(.long v11)])) _
  refine Goes.of (fun t k => XS.lloadN X17.here hx rfl (hb hby at_93) rfl k) ?_
  show Goes p e below (T17.setTop (mkF m 94 #[.val (.long q1), .second, .val (.long q2), .second, .val (.long q3), .second, .val (.int p4), .val (.int p5), .val (.int (p4 &&& (3 : Int32))), .val (.long (((p5 &&& (3 : Int32)) - (2 : Int32)).toInt64)), .second, .val (.long v11), .second, .val (.long (f1 v11 q2)), .second, .val (.long (f1 v11 q3)), .second] [(.long q2), (.long v11)])) _
  refine Goes.of (fun t k => XS.lload X17.here hx rfl (hb hby at_94) rfl k) ?_
  show Goes p e below (T17.setTop (mkF m 96 #[.val (.long q1), .second, .val (.long q2), .second, .val (.long q3), .second, .val (.int p4), .val (.int p5), .val (.int (p4 &&& (3 : Int32))), .val (.long (((p5 &&& (3 : Int32)) - (2 : Int32)).toInt64)), .second, .val (.long v11), .second, .val (.long (f1 v11 q2)), .second, .val (.long (f1 v11 q3)), .second] [(.long (f1 v11 q2)), (.long q2), (.long v11)])) _
  obtain ⟨_, _, ⟨T18, L18, k18, n18⟩, -, X18, ⟨Lc18, hQ18, l18, y18, z18⟩, st18⟩ := Jvm.LawKit.callS X17 hx (y := (⟨"com/example/entries_on_wire/entriesonwire/store/ExpiryDeadlinePinLaw", "expected", "(JJJ)Z"⟩ : MethodName)) hown (mvT hZ (hw _ (List.mem_of_getElem? (i := 5) rfl))) (mvT hZ (hw _ (List.mem_of_getElem? (i := 6) rfl))) (mvT hZ (hw _ (List.mem_of_getElem? (i := 7) rfl))) (mvT hZ (hw _ (List.mem_of_getElem? (i := 8) rfl))) (by decide) (backOf (W := 0) (rm2 l Z a0 hw [] v11 q2 (f1 v11 q2)  h0 n0 Z0 ) hZ (hw _ (List.mem_of_getElem? (i := 8) rfl)) (hw _ (List.mem_of_getElem? (i := 7) rfl)) (by decide) (by decide)) (g := (mkF m 96 #[.val (.long q1), .second, .val (.long q2), .second, .val (.long q3), .second, .val (.int p4), .val (.int p5), .val (.int (p4 &&& (3 : Int32))), .val (.long (((p5 &&& (3 : Int32)) - (2 : Int32)).toInt64)), .second, .val (.long v11), .second, .val (.long (f1 v11 q2)), .second, .val (.long (f1 v11 q3)), .second] [(.long (f1 v11 q2)), (.long q2), (.long v11)])) rfl (by rw [hml]; rfl) (argsL := [(.long v11), (.long q2), (.long (f1 v11 q2))]) (rest := []) (lenOf pd_3 rfl) rfl (by show 2 * 0 + _ ≤ _; exact Nat.le_of_eq rfl) (hb hby at_96) (fun _ _ => ⟨rfl, e17, (by decide : 0 + 0 ≤ _), (by decide : 0 + 0 ≤ _)⟩)
  dsimp only [Pt.U, Pt.locs, Pt.cells, Pt.slots] at X18 l18 y18 z18 st18 hQ18
  subst l18 y18 z18
  obtain ⟨rfl, N18q, e18⟩ := hQ18
  have N18 := Fr.app N17 N18q
  refine Goes.of st18 ?_
  show Goes p e below (T18.setTop (mkF m 99 #[.val (.long q1), .second, .val (.long q2), .second, .val (.long q3), .second, .val (.int p4), .val (.int p5), .val (.int (p4 &&& (3 : Int32))), .val (.long (((p5 &&& (3 : Int32)) - (2 : Int32)).toInt64)), .second, .val (.long v11), .second, .val (.long (f1 v11 q2)), .second, .val (.long (f1 v11 q3)), .second] [(.int (nar .boolean (f2 v11 q2 (f1 v11 q2))))])) _
  have hd99_19 : ¬ ((nar .boolean (f2 v11 q2 (f1 v11 q2))) = (0 : Int32)) := by rw [own_ok]; decide
  refine Goes.of (fun t k => XS.ifNo X18.here hx rfl (hb hby at_99) rfl ((if0 _ _).trans (feq hd99_19).1) k) ?_
  show Goes p e below (T18.setTop (mkF m 102 #[.val (.long q1), .second, .val (.long q2), .second, .val (.long q3), .second, .val (.int p4), .val (.int p5), .val (.int (p4 &&& (3 : Int32))), .val (.long (((p5 &&& (3 : Int32)) - (2 : Int32)).toInt64)), .second, .val (.long v11), .second, .val (.long (f1 v11 q2)), .second, .val (.long (f1 v11 q3)), .second] [])) _
  refine Goes.of (fun t k => XS.lload X18.here hx rfl (hb hby at_102) rfl k) ?_
  show Goes p e below (T18.setTop (mkF m 104 #[.val (.long q1), .second, .val (.long q2), .second, .val (.long q3), .second, .val (.int p4), .val (.int p5), .val (.int (p4 &&& (3 : Int32))), .val (.long (((p5 &&& (3 : Int32)) - (2 : Int32)).toInt64)), .second, .val (.long v11), .second, .val (.long (f1 v11 q2)), .second, .val (.long (f1 v11 q3)), .second] [(.long v11)])) _
  refine Goes.of (fun t k => XS.lload X18.here hx rfl (hb hby at_104) rfl k) ?_
  show Goes p e below (T18.setTop (mkF m 106 #[.val (.long q1), .second, .val (.long q2), .second, .val (.long q3), .second, .val (.int p4), .val (.int p5), .val (.int (p4 &&& (3 : Int32))), .val (.long (((p5 &&& (3 : Int32)) - (2 : Int32)).toInt64)), .second, .val (.long v11), .second, .val (.long (f1 v11 q2)), .second, .val (.long (f1 v11 q3)), .second] [(.long q3), (.long v11)])) _
  refine Goes.of (fun t k => XS.lload X18.here hx rfl (hb hby at_106) rfl k) ?_
  show Goes p e below (T18.setTop (mkF m 108 #[.val (.long q1), .second, .val (.long q2), .second, .val (.long q3), .second, .val (.int p4), .val (.int p5), .val (.int (p4 &&& (3 : Int32))), .val (.long (((p5 &&& (3 : Int32)) - (2 : Int32)).toInt64)), .second, .val (.long v11), .second, .val (.long (f1 v11 q2)), .second, .val (.long (f1 v11 q3)), .second] [(.long (f1 v11 q3)), (.long q3), (.long v11)])) _
  obtain ⟨_, _, ⟨T20, L20, k20, n20⟩, -, X20, ⟨Lc20, hQ20, l20, y20, z20⟩, st20⟩ := Jvm.LawKit.callS X18 hx (y := (⟨"com/example/entries_on_wire/entriesonwire/store/ExpiryDeadlinePinLaw", "expected", "(JJJ)Z"⟩ : MethodName)) hown (mvT hZ (hw _ (List.mem_of_getElem? (i := 5) rfl))) (mvT hZ (hw _ (List.mem_of_getElem? (i := 6) rfl))) (mvT hZ (hw _ (List.mem_of_getElem? (i := 7) rfl))) (mvT hZ (hw _ (List.mem_of_getElem? (i := 8) rfl))) (by decide) (backOf (W := 0) (rm2 l Z a0 hw [] v11 q3 (f1 v11 q3)  h0 n0 Z0 ) hZ (hw _ (List.mem_of_getElem? (i := 8) rfl)) (hw _ (List.mem_of_getElem? (i := 7) rfl)) (by decide) (by decide)) (g := (mkF m 108 #[.val (.long q1), .second, .val (.long q2), .second, .val (.long q3), .second, .val (.int p4), .val (.int p5), .val (.int (p4 &&& (3 : Int32))), .val (.long (((p5 &&& (3 : Int32)) - (2 : Int32)).toInt64)), .second, .val (.long v11), .second, .val (.long (f1 v11 q2)), .second, .val (.long (f1 v11 q3)), .second] [(.long (f1 v11 q3)), (.long q3), (.long v11)])) rfl (by rw [hml]; rfl) (argsL := [(.long v11), (.long q3), (.long (f1 v11 q3))]) (rest := []) (lenOf pd_3 rfl) rfl (by show 2 * 0 + _ ≤ _; exact Nat.le_of_eq rfl) (hb hby at_108) (fun _ _ => ⟨rfl, e18, (by decide : 0 + 0 ≤ _), (by decide : 0 + 0 ≤ _)⟩)
  dsimp only [Pt.U, Pt.locs, Pt.cells, Pt.slots] at X20 l20 y20 z20 st20 hQ20
  subst l20 y20 z20
  obtain ⟨rfl, N20q, e20⟩ := hQ20
  have N20 := Fr.app N18 N20q
  refine Goes.of st20 ?_
  show Goes p e below (T20.setTop (mkF m 111 #[.val (.long q1), .second, .val (.long q2), .second, .val (.long q3), .second, .val (.int p4), .val (.int p5), .val (.int (p4 &&& (3 : Int32))), .val (.long (((p5 &&& (3 : Int32)) - (2 : Int32)).toInt64)), .second, .val (.long v11), .second, .val (.long (f1 v11 q2)), .second, .val (.long (f1 v11 q3)), .second] [(.int (nar .boolean (f2 v11 q3 (f1 v11 q3))))])) _
  have hd111_21 : ¬ ((nar .boolean (f2 v11 q3 (f1 v11 q3))) = (0 : Int32)) := by rw [own_ok]; decide
  refine Goes.of (fun t k => XS.ifNo X20.here hx rfl (hb hby at_111) rfl ((if0 _ _).trans (feq hd111_21).1) k) ?_
  show Goes p e below (T20.setTop (mkF m 114 #[.val (.long q1), .second, .val (.long q2), .second, .val (.long q3), .second, .val (.int p4), .val (.int p5), .val (.int (p4 &&& (3 : Int32))), .val (.long (((p5 &&& (3 : Int32)) - (2 : Int32)).toInt64)), .second, .val (.long v11), .second, .val (.long (f1 v11 q2)), .second, .val (.long (f1 v11 q3)), .second] [])) _
  refine Goes.of (fun t k => XS.iconst X20.here hx rfl (hb hby at_114) k) ?_
  show Goes p e below (T20.setTop (mkF m 115 #[.val (.long q1), .second, .val (.long q2), .second, .val (.long q3), .second, .val (.int p4), .val (.int p5), .val (.int (p4 &&& (3 : Int32))), .val (.long (((p5 &&& (3 : Int32)) - (2 : Int32)).toInt64)), .second, .val (.long v11), .second, .val (.long (f1 v11 q2)), .second, .val (.long (f1 v11 q3)), .second] [(.int (1 : Int32))])) _
  refine Goes.of (fun t k => XS.goto X20.here hx rfl (pc0 := 115) (pc' := 119) rfl (hb hby at_115) (by decide) (by decide) k) ?_
  show Goes p e below (T20.setTop (mkF m 119 #[.val (.long q1), .second, .val (.long q2), .second, .val (.long q3), .second, .val (.int p4), .val (.int p5), .val (.int (p4 &&& (3 : Int32))), .val (.long (((p5 &&& (3 : Int32)) - (2 : Int32)).toInt64)), .second, .val (.long v11), .second, .val (.long (f1 v11 q2)), .second, .val (.long (f1 v11 q3)), .second] [(.int (1 : Int32))])) _
  exact Goes.retN (t := .boolean) X20 hx Bd.returns (by simp) hlocks (hb hby at_119) (⟨rfl, N20⟩) (by decide) (by decide)
set_option maxRecDepth 65536 in
set_option maxHeartbeats 40000000 in
theorem comes_1 {Post : Tables → Env → Array Value → State → Outcome → State → Prop} (hpost : ∀ tb e args s v u, (limb_1_1.after args s (.returned v) u = true ∧ limb_1_2.after args s (.returned v) u = true ∧ True) → FrameEnd s (.returned v) u (Jvm.fieldLocs frame_1_writes args s ++ Jvm.arrayLocs frame_1_arrays args s ++ Jvm.staticLocs frame_1_statics s) 0 0 → Post tb e args s (.returned v) u) :
    ArmFor flags0 classFile x code maxLocals ret World_1 tables_1 room_1 Calls_1 rest_1 Pre_1 Post := by
  intro l hfl _ _ p e ha hc hk s m args below hf hA hF happ hP
  obtain ⟨hcalls, hrest, hpre⟩ := hP
  obtain ⟨-, -, -, hnamed, -, -, -, hat⟩ := (Spec.applies_iff hf).mp happ
  obtain ⟨hg, hn⟩ := and_e (Cond.before_iff.mp (show (Jvm.Cond.and given_1 narrow_1).before args s = true from hpre))
  obtain ⟨g22, g23⟩ := and_e hg
  obtain ⟨g24, g25⟩ := and_e g23
  obtain ⟨g26, g27⟩ := and_e g25
  obtain ⟨g28, g29⟩ := and_e g27
  obtain ⟨g30, g31⟩ := and_e g29
  obtain ⟨w0, w1, w2, w3, w4, rfl⟩ : ∃ w0 w1 w2 w3 w4 : Value, args = #[w0, w1, w2, w3, w4] := by
    have hs : args.size = 5 := by simpa [Cond.value, given_1] using g22
    obtain ⟨L⟩ := args
    match L, hs with
    | [w0, w1, w2, w3, w4], _ => exact ⟨w0, w1, w2, w3, w4, rfl⟩
  have hw := fun d (hd : d ∈ tables_1) => atoms_spec (ws := Jvm.Cond.code x code maxLocals ret :: tables_1) hat d (List.mem_cons_of_mem _ hd)
  have hfit : Fit s := fun {y c} hc i hi => by
    obtain ⟨ha, rfl⟩ := Array.getElem?_eq_some_iff.mp hc
    have q := List.all_eq_true.mp ((Array.all_eq_true_iff_forall_mem.mp hF) _ (Array.getElem_mem ha)) i (List.mem_range.mpr hi)
    simpa [Array.getElem?_eq_getElem hi] using q
  obtain ⟨i0, ei0⟩ := isL_v g24
  obtain rfl : w0 = (.long i0) := Option.some.inj ei0
  obtain ⟨i1, ei1⟩ := isL_v g26
  obtain rfl : w1 = (.long i1) := Option.some.inj ei1
  obtain ⟨i2, ei2⟩ := isL_v g28
  obtain rfl : w2 = (.long i2) := Option.some.inj ei2
  obtain ⟨i3, ei3⟩ := is_v g30
  obtain rfl : w3 = (.int i3) := Option.some.inj ei3
  obtain ⟨i4, ei4⟩ := is_v g31
  obtain rfl : w4 = (.int i4) := Option.some.inj ei4
  obtain ⟨n, o, h1, h2, h3, _, L, rfl, ⟨rfl, N⟩, hq⟩ := rm0 l s _ hw tables_1 i0 i1 i2 i3 i4  s.heap s.heap.size (Nat.le_refl _)  p e ha hc hk s m _ below hf ((Spec.applies_iff_loose hf).mp happ).1 ⟨rfl, State.Warmed39.refl s, rfl⟩ trivial
  refine ⟨n, _, h1, h2, h3, hpost _ _ _ _ _ _ ⟨Cond.after_iff.mpr rfl, Cond.after_iff.mpr (eq_i res_at (Term.int_eval (1)) rfl), trivial⟩ ⟨hq.1, hq.2.1, (hq.2.2.sift fun y hy => Or.inr (N y hy)).mono (by decide) (by decide)⟩⟩
theorem main_1_1 : Claimed_1_1 := comes_1 fun _ _ _ _ _ _ h hF => ⟨h.1, hF⟩
theorem main_1_2 : Claimed_1_2 := comes_1 fun _ _ _ _ _ _ h hF => ⟨h.2.1, hF⟩
end Jvm.Pilot.@@N@@
namespace Jvm.Pilot.@@N@@
open Jvm Jvm.ClassFile Sem Op Lib Jvm.Free Jvm.Stand Jvm.Pilot.@@N@@.Jvm.D
/-! MADE BY PROGRAM (witnessworld.py) out of the Statement's table words and the real class files: 9 classes; the members and pool entries that the words name. The judged class is class 1, her method 2. -/
namespace start1
open Jvm.ClassFile
def u (s : String) : CpInfo := .utf8 (stringToUtf16 s)
/-- a pool by its gaps: so many unusable entries, then the entry; so many at the end -/
def gap : Nat → List CpInfo → List CpInfo
  | 0, r => r
  | n + 1, r => .unusable :: gap n r
def poolList (es : List (Nat × CpInfo)) (last : Nat) : List CpInfo := es.foldr (fun e r => gap e.1 (e.2 :: r)) (gap last [])
def pool (es : List (Nat × CpInfo)) (last : Nat) : Array CpInfo := ⟨poolList es last⟩
def fileOf (pool : Array CpInfo) (this : Nat) (attrs : Array Attribute := #[]) (ms : Array MethodInfo := #[]) (fl : Nat := 33) (sup : Nat := 0) (ifs : Array Nat := #[]) (fds : Array FieldInfo := #[]) : ClassFile where
  minorVersion := 0
  majorVersion := 65
  constantPool := pool
  accessFlags := fl
  thisClass := this
  superClass := sup
  interfaces := ifs
  fields := fds
  methods := ms
  attributes := attrs
def plain (name : String) (sup : Option ClassId) : Class where
  name := name
  kind := .ordinary
  loader := none
  accessFlags := 33
  super := sup
  interfaces := #[]
  cf := none
  fields := #[]
  methods := #[]
  instanceTypes := #[]
  staticTypes := #[]
  resolved := #[]
  callSites := []
  init := .initialized
  statics := none
  mirror := none

def pool0 : Array CpInfo := pool [(5, u "<init>"), (0, u "()V"), (1, .class_ 10), (1, u "java/lang/Object")] 113

def k0m0 : Method := { name := "<init>", desc := "()V", sig := { parameters := [], returnType := none }, accessFlags := 1, code := none }
/-- java/lang/Object -/
def k0 : Class := { plain "java/lang/Object" none with
  accessFlags := 33
  interfaces := #[]
  cf := some (fileOf pool0 8 #[] #[{ accessFlags := 1, nameIndex := 5, descriptorIndex := 6, attributes := #[] }] 33 0 #[] #[])
  fields := #[]
  methods := #[k0m0]
  instanceTypes := #[]
  staticTypes := #[]
  resolved := Array.replicate 124 none
  statics := none }

def pool1 : Array CpInfo := pool [(2, .class_ 4), (1, u "java/lang/Object"), (0, u "<init>"), (0, u "()V"), (2, .long 9223372036854775808), (1, .long 9223372036854775807), (1, .long 2592000), (1, .methodref 16 17), (0, .class_ 18), (0, .nameAndType 19 20), (0, u "com/example/entries_on_wire/entriesonwire/store/Expiry"), (0, u "deadline"), (0, u "(JJ)J"), (0, .methodref 22 23), (0, .class_ 24), (0, .nameAndType 25 26), (0, u "com/example/entries_on_wire/entriesonwire/store/ExpiryDeadlinePinLaw"), (0, u "expected"), (0, u "(JJJ)Z"), (3, u "law"), (0, u "(JJJII)Z")] 2

def k1m0 : Method := { name := "<init>", desc := "()V", sig := { parameters := [], returnType := none }, accessFlags := 2, code := none }
def k1c1 : Code := { maxStack := 4, maxLocals := 6, code := method_2_code, exceptionTable := #[], attributes := #[] }
def k1m1 : Method := { name := "expected", desc := "(JJJ)Z", sig := { parameters := [.long, .long, .long], returnType := some .boolean }, accessFlags := 10, code := some k1c1 }
def k1c2 : Code := { maxStack := 6, maxLocals := 17, code := code, exceptionTable := #[], attributes := #[] }
def k1m2 : Method := { name := "law", desc := "(JJJII)Z", sig := { parameters := [.long, .long, .long, .int, .int], returnType := some .boolean }, accessFlags := 9, code := some k1c2 }
/-- com/example/entries_on_wire/entriesonwire/store/ExpiryDeadlinePinLaw -/
def k1 : Class := { plain "com/example/entries_on_wire/entriesonwire/store/ExpiryDeadlinePinLaw" (some 0) with
  accessFlags := 49
  interfaces := #[]
  cf := some (fileOf pool1 22 #[] #[{ accessFlags := 2, nameIndex := 5, descriptorIndex := 6, attributes := #[] }, { accessFlags := 10, nameIndex := 25, descriptorIndex := 26, attributes := #[] }, { accessFlags := 9, nameIndex := 30, descriptorIndex := 31, attributes := #[] }] 49 2 #[] #[])
  fields := #[]
  methods := #[k1m0, k1m1, k1m2]
  instanceTypes := #[]
  staticTypes := #[]
  resolved := Array.replicate 34 none
  statics := none }

def pool2 : Array CpInfo := pool [(4, .class_ 6), (1, u "java/lang/Object"), (0, u "<init>"), (0, u "()V"), (0, .class_ 10), (0, u "com/example/entries_on_wire/entriesonwire/store/Expiry"), (0, .long 9223372036854775808), (1, .long 9223372036854775807), (1, .long 2592000), (3, u "deadline"), (0, u "(JJ)J"), (0, u "MAX_RELATIVE_SECONDS"), (0, u "J"), (1, u "NEVER"), (0, u "ALREADY_EXPIRED")] 8

def k2m0 : Method := { name := "<init>", desc := "()V", sig := { parameters := [], returnType := none }, accessFlags := 2, code := none }
def k2c1 : Code := { maxStack := 4, maxLocals := 6, code := prog_36_method_2_code, exceptionTable := #[], attributes := #[] }
def k2m1 : Method := { name := "deadline", desc := "(JJ)J", sig := { parameters := [.long, .long], returnType := some .long }, accessFlags := 9, code := some k2c1 }
/-- com/example/entries_on_wire/entriesonwire/store/Expiry -/
def k2 : Class := { plain "com/example/entries_on_wire/entriesonwire/store/Expiry" (some 0) with
  accessFlags := 33
  interfaces := #[]
  cf := some (fileOf pool2 9 #[] #[{ accessFlags := 2, nameIndex := 7, descriptorIndex := 8, attributes := #[] }, { accessFlags := 9, nameIndex := 19, descriptorIndex := 20, attributes := #[] }] 33 4 #[] #[{ accessFlags := 25, nameIndex := 21, descriptorIndex := 22, attributes := #[] }, { accessFlags := 25, nameIndex := 24, descriptorIndex := 22, attributes := #[] }, { accessFlags := 25, nameIndex := 25, descriptorIndex := 22, attributes := #[] }])
  fields := #[{ name := "MAX_RELATIVE_SECONDS", type := .long, accessFlags := 25, slot := 0, constantValue := 0 }, { name := "NEVER", type := .long, accessFlags := 25, slot := 1, constantValue := 0 }, { name := "ALREADY_EXPIRED", type := .long, accessFlags := 25, slot := 2, constantValue := 0 }]
  methods := #[k2m0, k2m1]
  instanceTypes := #[]
  staticTypes := #[.long, .long, .long]
  resolved := Array.replicate 34 none
  statics := none }

def pool3 : Array CpInfo := pool [(1, u "java/lang/Cloneable"), (0, .class_ 1), (0, u "java/lang/Object"), (0, .class_ 3)] 3

/-- java/lang/Cloneable -/
def k3 : Class := { plain "java/lang/Cloneable" (some 0) with
  accessFlags := 1537
  interfaces := #[]
  cf := some (fileOf pool3 2 #[] #[] 1537 4 #[] #[])
  fields := #[]
  methods := #[]
  instanceTypes := #[]
  staticTypes := #[]
  resolved := Array.replicate 8 none
  statics := none }

def pool4 : Array CpInfo := pool [(1, u "java/io/Serializable"), (0, .class_ 1), (0, u "java/lang/Object"), (0, .class_ 3)] 3

/-- java/io/Serializable -/
def k4 : Class := { plain "java/io/Serializable" (some 0) with
  accessFlags := 1537
  interfaces := #[]
  cf := some (fileOf pool4 2 #[] #[] 1537 4 #[] #[])
  fields := #[]
  methods := #[]
  instanceTypes := #[]
  staticTypes := #[]
  resolved := Array.replicate 8 none
  statics := none }

/-- the primitive byte -/
def k5 : Class := { plain "byte" none with kind := .primitive 'B', accessFlags := 0x411 }
/-- [B -/
def k6 : Class := { plain "[B" (some 0) with kind := .array 5 .byte, interfaces := #[3, 4], accessFlags := 1041 }

/-- the primitive int -/
def k7 : Class := { plain "int" none with kind := .primitive 'I', accessFlags := 0x411 }
/-- [I -/
def k8 : Class := { plain "[I" (some 0) with kind := .array 7 .int, interfaces := #[3, 4], accessFlags := 1041 }

def heap : Heap := #[]
def classes : Array Class := #[k0, k1, k2, k3, k4, k5, k6, k7, k8]
def interned : List (Array UInt16 × Addr) := []
def slotsUsed : Nat := 0
def theMethod : MethodId := ⟨1, 2⟩
def args0 : Array Value := #[.long 5, .long 7, .long 9, .int 1, .int 2]
def aboutOver (below : List Frame) : State where
  vm := { classes := classes, interned := interned.toArray }
  heap := heap
  slotsUsed := slotsUsed
  threads := #[{ frames := .invoking theMethod args0 :: below }]
def below0 : List Frame := [.native { method := ⟨0, 0⟩, args := #[] }]
def about1 : State := aboutOver below0
def p0 : Program := .bare "" "" ""
def e0 : Env := launch0.env 0 0 0
theorem w_frames : about1.frames = Frame.invoking theMethod args0 :: below0 := rfl
set_option maxRecDepth 65536 in
theorem w_args : argsFit about1.vm theMethod args0 = true := by decide +kernel
set_option maxRecDepth 65536 in
theorem w_heap : heapFits about1 = true := by decide +kernel
set_option maxRecDepth 65536 in
theorem w_runnable : about1.curStatus? = some .runnable := by decide +kernel
set_option maxRecDepth 65536 in
theorem w_alone : about1.alone = true := by decide +kernel
set_option maxRecDepth 65536 in
theorem w_named : about1.methodNamed? x = some theMethod := by decide +kernel
set_option maxRecDepth 65536 in
theorem w_hears : about1.hears theMethod below0 = true := by decide +kernel
set_option maxRecDepth 65536 in
theorem w_ripe : about1.ripe theMethod args0 below0 = true := by decide +kernel
theorem w_running : about1.status = .running := rfl
set_option maxRecDepth 65536 in
theorem w_room : about1.hasRoom e0.platform room_1 = true :=
  launch0.hasRoom_least _ room_1 (by decide +kernel) (by decide +kernel) (by decide +kernel) (by decide +kernel) (by decide +kernel) (by decide +kernel)
theorem allAtoms_all (ts : List Jvm.Cond) (a : Array Jvm.Value) (st : Jvm.State) : (allAtoms ts).before a st = ts.all (fun c => c.before a st) := by
  induction ts with
  | nil => rfl
  | cons c t ih =>
    show (Jvm.Cond.and c (allAtoms t)).before a st = _
    rw [Jvm.Cond.before_and, ih, List.all_cons]
def words1 : List Jvm.Cond := Jvm.Cond.code x code maxLocals ret :: tables_1
/-- a 'code' word, met by the world's own term for the bytes: nothing is compared byte by byte -/
theorem code_word {y : MethodName} {bytes : ByteArray} {mx : Nat} {rt : Option FieldType} {a : Array Value} {s : State} {m : MethodId} {meth : Method} {c : Code} (h1 : s.methodNamed? y = some m) (h2 : s.vm.method? m = some meth) (h3 : meth.code = some c) (h4 : c.code = bytes)
    (h5 : (c.maxLocals == mx && c.exceptionTable.isEmpty && decide (c.maxStack ≤ mostOperands) && decide (meth.sig.returnType = rt) && !meth.locks && decide (parseMethodDescriptor y.desc = some meth.sig)) = true) : (Jvm.Cond.code y bytes mx rt).before a s = true := by
  simp only [Bool.and_eq_true, beq_iff_eq, Bool.not_eq_true', decide_eq_true_eq] at h5
  obtain ⟨⟨⟨⟨⟨g1, g2⟩, g3⟩, g4⟩, g5⟩, g6⟩ := h5
  simp [Cond.before, Cond.holds, Cond.value, h1, h2, h3, h4, g1, g2, g3, g4, g5, g6]
def isCode : Jvm.Cond → Bool
  | .code _ _ _ _ => true
  | _ => false
theorem all_split {L : List Jvm.Cond} {P : Jvm.Cond → Bool} (h1 : L.all (fun c => isCode c || P c) = true) (h2 : ∀ c ∈ L.filter isCode, P c = true) : L.all P = true := by
  refine List.all_eq_true.mpr fun c hc => ?_
  have h := List.all_eq_true.mp h1 c hc
  rcases Bool.eq_false_or_eq_true (isCode c) with hi | hi
  · exact h2 c (List.mem_filter.mpr ⟨hc, hi⟩)
  · simpa [hi] using h
set_option maxRecDepth 65536 in
theorem w_c0 : (Jvm.Cond.code x code maxLocals ret).before args0 about1 = true := code_word (m := ⟨1, 2⟩) (meth := k1m2) (c := k1c2) (by decide +kernel) rfl rfl rfl (by decide +kernel)
set_option maxRecDepth 65536 in
theorem w_c1 : (Jvm.Cond.code ({ cls := "com/example/entries_on_wire/entriesonwire/store/Expiry", name := "deadline", desc := "(JJ)J" } : Jvm.MethodName) prog_36_method_2_code (6 : Nat) (Option.some Jvm.ClassFile.FieldType.long)).before args0 about1 = true := code_word (m := ⟨2, 1⟩) (meth := k2m1) (c := k2c1) (by decide +kernel) rfl rfl rfl (by decide +kernel)
set_option maxRecDepth 65536 in
theorem w_c2 : (Jvm.Cond.code ({ cls := "com/example/entries_on_wire/entriesonwire/store/ExpiryDeadlinePinLaw", name := "expected", desc := "(JJJ)Z" } : Jvm.MethodName) method_2_code (6 : Nat) (Option.some Jvm.ClassFile.FieldType.boolean)).before args0 about1 = true := code_word (m := ⟨1, 1⟩) (meth := k1m1) (c := k1c1) (by decide +kernel) rfl rfl rfl (by decide +kernel)
def codes1 : List Jvm.Cond := [Jvm.Cond.code x code maxLocals ret, Jvm.Cond.code ({ cls := "com/example/entries_on_wire/entriesonwire/store/Expiry", name := "deadline", desc := "(JJ)J" } : Jvm.MethodName) prog_36_method_2_code (6 : Nat) (Option.some Jvm.ClassFile.FieldType.long), Jvm.Cond.code ({ cls := "com/example/entries_on_wire/entriesonwire/store/ExpiryDeadlinePinLaw", name := "expected", desc := "(JJJ)Z" } : Jvm.MethodName) method_2_code (6 : Nat) (Option.some Jvm.ClassFile.FieldType.boolean)]
set_option maxRecDepth 65536 in
theorem codes_eq : words1.filter isCode = codes1 := rfl
theorem w_codes : ∀ c ∈ words1.filter isCode, c.before args0 about1 = true := by
  rw [codes_eq]
  intro c hc
  simp only [codes1, List.mem_cons, List.not_mem_nil, or_false] at hc
  rcases hc with rfl | rfl | rfl
  · exact w_c0
  · exact w_c1
  · exact w_c2
set_option maxRecDepth 65536 in
theorem w_t1 : words1.all (fun c => isCode c || c.before args0 about1) = true := by decide +kernel
theorem w_tables : (allAtoms (Jvm.Cond.code x code maxLocals ret :: tables_1)).before args0 about1 = true := by
  rw [allAtoms_all]
  show words1.all (fun c => c.before args0 about1) = true
  refine all_split ?_ w_codes
  rw [w_t1]
set_option maxRecDepth 65536 in
theorem w_case : (Jvm.Cond.and given_1 narrow_1).before args0 about1 = true := by decide +kernel
theorem w_applies : (headSpec (Jvm.Cond.code x code maxLocals ret :: tables_1) room_1).applies x e0.platform about1 = true :=
  (Spec.applies_iff w_frames).mpr ⟨w_running, w_runnable, w_alone, w_named, w_hears, w_ripe, w_room, w_tables⟩
theorem atStart : AtStart classFile x code maxLocals ret World_1 tables_1 room_1 Calls_1 rest_1 Pre_1 launch0 p0 e0 about1 theMethod args0 below0 :=
  ⟨lists_1, trivial, launch0.admits_env _ _ _, launch0.least_env, fairChoices_fair.cas, fairChoices_fair.clock, w_frames, w_args, w_heap, w_applies, trivial, trivial, w_case⟩
end start1
theorem witness_1 : WitnessClaimed_1 := ⟨start1.p0, start1.e0, start1.about1, start1.theMethod, start1.args0, start1.below0, start1.atStart⟩
end Jvm.Pilot.@@N@@
