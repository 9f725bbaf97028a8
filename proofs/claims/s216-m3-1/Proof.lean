import JvmDerived
import JvmDerived.Pilot.@@N@@Statement
import JvmDerived.Pilot.@@N@@Code
set_option linter.unusedVariables false
set_option linter.unusedSimpArgs false
@@BLOCK:NumsL.lean.txt@@
namespace Jvm.OwnN
theorem own_rem32 (x y : Int32) : (x - x / y * y).toInt = x.toInt.tmod y.toInt := by
  have a := (x % y).toInt_lt; have b := (x % y).le_toInt
  rw [Int32.toInt_mod] at a b
  rw [Int32.toInt_sub, Int32.toInt_mul, Int32.toInt_div, Int.bmod_mul_bmod, Int.sub_bmod_bmod, Int.mul_comm, ← Int.tmod_def]
  exact Jvm.Kit.bmod32 b a
theorem own_rem32n {x y : Int32} (hx : 0 ≤ x.toInt) : (x - x / y * y).toInt = x.toInt % y.toInt := by rw [own_rem32, Int.tmod_eq_emod_of_nonneg hx]
end Jvm.OwnN
namespace Jvm.RoadKit
open Sem ClassFile Op Lib Jvm.Stand Jvm.Free Jvm.LawKit
section New
variable {p : Program} {l : Launch} {e : Env} {R : Room} {s : State} {m : MethodId} {args : Array Value} {below : List Frame} {meth : Method} {c : Code} {T : State} {locs : List Loc} {cells slots : Nat}
theorem retI (X : Stand p l e R s m args below meth c T locs cells slots) (hx : p.tables.exec = Jvm.exec) {pc : Nat} {Ls : Array Slot} {z : Int32} {rest : List Value} (hret : meth.sig.returnType = some .int) (hd : decode c.code pc = .ok (.ireturn, 1)) {fs : List Frame}
    (hl : ∀ (f : JFrame) (acts : List Action), f.method = m → f.locked = none → f.entered = [] → (doReturn e (T.setTop f) acts (some (.int z))).1 = T.setFrames fs) : Steps p.tables e below (T.setTop (mkF m pc Ls (.int z :: rest))) (T.setFrames fs) := by
  have hm' : T.vm.method? m = some meth := X.method'
  have hn : narrow .int (.int z) = .int z := rfl
  show Steps p.tables e below (T.setTop { method := m, pc := pc, locals := Ls, stack := _ :: rest, locked := none }) _
  jvm_step X.here [X.here.top, hx, hd, hm', hret, hn]
  first | (intro acts; rw [hl _ acts rfl rfl rfl]) | rw [hl _ _ rfl rfl rfl]
  exact Steps.refl _
/-- the run goes on from S to an end of which P holds -/
def Goes (p : Program) (e : Env) (below : List Frame) (S : State) (P : Outcome → State → Prop) : Prop := ∃ s₂ o, Steps p.tables e below S s₂ ∧ s₂.status = .running ∧ Ended s₂ below o ∧ P o s₂
/-- what every contract here says of the end -/
def Fin (s : State) (Q : Option Value → Heap → List Loc → Prop) (C N : Nat) (o : Outcome) (U : State) : Prop := ∃ v L, o = .returned v ∧ Q v U.heap L ∧ FrameEnd s o U L C N
theorem Goes.of {S S' : State} {P : Outcome → State → Prop} (h : ∀ t, Steps p.tables e below S' t → Steps p.tables e below S t) (g : Goes p e below S' P) : Goes p e below S P := by
  obtain ⟨s₂, o, h1, h2⟩ := g
  exact ⟨s₂, o, h _ h1, h2⟩
theorem Goes.out (X : Stand p l e R s m args below meth c T locs cells slots) {v : Option Value} (hv : meth.sig.returnType = none → v = none) (hlocks : meth.locks = false) {g : JFrame} {Q : Option Value → Heap → List Loc → Prop} {C N : Nat}
    (hst : ∀ fs, (∀ (f : JFrame) (acts : List Action), f.method = m → f.locked = none → f.entered = [] → (doReturn e (T.setTop f) acts v).1 = T.setFrames fs) → Steps p.tables e below (T.setTop g) (T.setFrames fs))
    (hq : Q v T.heap locs) (h1 : cells ≤ C) (h2 : slots ≤ N) : Goes p e below (T.setTop g) (Fin s Q C N) := by
  obtain ⟨fs, hr, hrun, hended, hW, hsame⟩ := X.leave (v := v) hv hlocks
  exact ⟨_, _, hst fs hr, hrun, hended, v, locs, rfl, hq, ⟨_, rfl⟩, hW, hsame.mono h1 h2⟩
theorem Goes.retI (X : Stand p l e R s m args below meth c T locs cells slots) (hx : p.tables.exec = Jvm.exec) (hret : meth.sig.returnType = some .int) (hlocks : meth.locks = false) {pc : Nat} {Ls : Array Slot} {z : Int32} {rest : List Value} (hd : decode c.code pc = .ok (.ireturn, 1)) {Q : Option Value → Heap → List Loc → Prop} {C N : Nat}
    (hq : Q (some (.int z)) T.heap locs) (h1 : cells ≤ C) (h2 : slots ≤ N) : Goes p e below (T.setTop (mkF m pc Ls (.int z :: rest))) (Fin s Q C N) :=
  Goes.out X (v := some (.int z)) (fun h => by rw [hret] at h; cases h) hlocks (fun fs hr => Jvm.RoadKit.retI X hx hret hd hr) hq h1 h2
theorem Goes.retN (X : Stand p l e R s m args below meth c T locs cells slots) (hx : p.tables.exec = Jvm.exec) {t : FieldType} (hret : meth.sig.returnType = some t) (ht : t = .boolean ∨ t = .byte ∨ t = .char ∨ t = .short) (hlocks : meth.locks = false) {pc : Nat} {Ls : Array Slot} {z : Int32} {rest : List Value} (hd : decode c.code pc = .ok (.ireturn, 1)) {Q : Option Value → Heap → List Loc → Prop} {C N : Nat}
    (hq : Q (some (.int (nar t z))) T.heap locs) (h1 : cells ≤ C) (h2 : slots ≤ N) : Goes p e below (T.setTop (mkF m pc Ls (.int z :: rest))) (Fin s Q C N) :=
  Goes.out X (v := some (.int (nar t z))) (fun h => by rw [hret] at h; cases h) hlocks (fun fs hr => Jvm.RoadKit.retN X hx (t := t) hret ht hd hr) hq h1 h2
theorem Goes.retJ (X : Stand p l e R s m args below meth c T locs cells slots) (hx : p.tables.exec = Jvm.exec) (hret : meth.sig.returnType = some .long) (hlocks : meth.locks = false) {pc : Nat} {Ls : Array Slot} {z : Int64} (hd : decode c.code pc = .ok (.lreturn, 1)) {Q : Option Value → Heap → List Loc → Prop} {C N : Nat}
    (hq : Q (some (.long z)) T.heap locs) (h1 : cells ≤ C) (h2 : slots ≤ N) : Goes p e below (T.setTop (mkF m pc Ls [.long z])) (Fin s Q C N) :=
  Goes.out X (v := some (.long z)) (fun h => by rw [hret] at h; cases h) hlocks (fun fs hr => X.lreturnOut hx hret hd hr) hq h1 h2
theorem Goes.retD (X : Stand p l e R s m args below meth c T locs cells slots) (hx : p.tables.exec = Jvm.exec) (hret : meth.sig.returnType = some .double) (hlocks : meth.locks = false) {pc : Nat} {Ls : Array Slot} {z : UInt64} (hd : decode c.code pc = .ok (.dreturn, 1)) {Q : Option Value → Heap → List Loc → Prop} {C N : Nat}
    (hq : Q (some (.double z)) T.heap locs) (h1 : cells ≤ C) (h2 : slots ≤ N) : Goes p e below (T.setTop (mkF m pc Ls [.double z])) (Fin s Q C N) :=
  Goes.out X (v := some (.double z)) (fun h => by rw [hret] at h; cases h) hlocks (fun fs hr => by
    have hm' : T.vm.method? m = some meth := X.method'
    jvm_step X.here [X.here.top, hx, hd, hm', hret, narrow]
    first | (intro acts; rw [hr _ acts rfl rfl rfl]) | rw [hr _ _ rfl rfl rfl]
    exact Steps.refl _) hq h1 h2
theorem Goes.retA (X : Stand p l e R s m args below meth c T locs cells slots) (hx : p.tables.exec = Jvm.exec) {w : Value} {t : FieldType} (hw : w.isRef = true) (hret : meth.sig.returnType = some t) (ht : t.isReference = true) (hlocks : meth.locks = false) {pc : Nat} {Ls : Array Slot} (hd : decode c.code pc = .ok (.areturn, 1)) {Q : Option Value → Heap → List Loc → Prop} {C N : Nat}
    (hq : Q (some w) T.heap locs) (h1 : cells ≤ C) (h2 : slots ≤ N) : Goes p e below (T.setTop (mkF m pc Ls [w])) (Fin s Q C N) :=
  Goes.out X (v := some w) (fun h => by rw [hret] at h; cases h) hlocks (fun fs hr => X.areturnOut hx hw hret ht hd hr) hq h1 h2
theorem Goes.retV (X : Stand p l e R s m args below meth c T locs cells slots) (hx : p.tables.exec = Jvm.exec) (hret : meth.sig.returnType = none) (hlocks : meth.locks = false) {pc : Nat} {Ls : Array Slot} (hd : decode c.code pc = .ok (.return_, 1)) {Q : Option Value → Heap → List Loc → Prop} {C N : Nat}
    (hq : Q none T.heap locs) (h1 : cells ≤ C) (h2 : slots ≤ N) : Goes p e below (T.setTop (mkF m pc Ls [])) (Fin s Q C N) :=
  Goes.out X (v := none) (fun _ => rfl) hlocks (fun fs hr => X.returnOut hx hret hd hr) hq h1 h2
end New
theorem selPriv {s : State} {args : Array Value} {y : MethodName} {n : Nat} (hpriv : s.PrivateAt y) (hinst : (Cond.instanceMethod y).before args s = true) (hi : (Cond.instantiable y.cls n).before args s = true) (hy : y.cls ≠ "java/lang/invoke/MethodHandle" ∧ y.cls ≠ "java/lang/invoke/VarHandle") : (Cond.selects y.cls y y).before args s = true := by
  obtain ⟨c, k, h1, h2, -, h3, -⟩ := Cond.instantiable_spec hi
  exact Jvm.Stand.selects_self_of_private h1 h2 (by cases hk : k.isInterface <;> simp_all) hpriv hinst hy
end Jvm.RoadKit
namespace Jvm.Pilot.@@N@@
open Jvm Jvm.ClassFile Sem Op Lib Jvm.Free Jvm.Stand Jvm.LawKit Jvm.RoadKit Bundle Jvm.OwnN Jvm.Pilot.@@N@@.Jvm.D
theorem d1_0 : decode method_2_code 0 = .ok (.iload_n 0, 1) := by decide +kernel
theorem d1_1 : decode method_2_code 1 = .ok (.ifCond .ne 7, 3) := by decide +kernel
theorem d1_4 : decode method_2_code 4 = .ok (.getstatic 7, 3) := by decide +kernel
theorem d1_7 : decode method_2_code 7 = .ok (.areturn, 1) := by decide +kernel
theorem d1_8 : decode method_2_code 8 = .ok (.iload_n 0, 1) := by decide +kernel
theorem d1_9 : decode method_2_code 9 = .ok (.iconst 1, 1) := by decide +kernel
theorem d1_10 : decode method_2_code 10 = .ok (.if_icmp .ne 7, 3) := by decide +kernel
theorem d1_13 : decode method_2_code 13 = .ok (.getstatic 13, 3) := by decide +kernel
theorem d1_16 : decode method_2_code 16 = .ok (.areturn, 1) := by decide +kernel
theorem d1_17 : decode method_2_code 17 = .ok (.getstatic 16, 3) := by decide +kernel
theorem d1_20 : decode method_2_code 20 = .ok (.areturn, 1) := by decide +kernel
theorem pn_0 : plainName "com/example/strict_xslt/strictxslt/xpath/TruthAndPinLaw" = true := by first | (simp [plainName, overriddenIn]; done) | decide +kernel
theorem d2_0 : decode prog_293_method_4_code 0 = .ok (.aload_n 0, 1) := by decide +kernel
theorem d2_1 : decode prog_293_method_4_code 1 = .ok (.getstatic 3, 3) := by decide +kernel
theorem d2_4 : decode prog_293_method_4_code 4 = .ok (.if_acmp .eq 10, 3) := by decide +kernel
theorem d2_7 : decode prog_293_method_4_code 7 = .ok (.aload_n 1, 1) := by decide +kernel
theorem d2_8 : decode prog_293_method_4_code 8 = .ok (.getstatic 3, 3) := by decide +kernel
theorem d2_11 : decode prog_293_method_4_code 11 = .ok (.if_acmp .ne 10, 3) := by decide +kernel
theorem d2_14 : decode prog_293_method_4_code 14 = .ok (.getstatic 3, 3) := by decide +kernel
theorem d2_17 : decode prog_293_method_4_code 17 = .ok (.astore_n 2, 1) := by decide +kernel
theorem d2_18 : decode prog_293_method_4_code 18 = .ok (.goto 28, 3) := by decide +kernel
theorem d2_21 : decode prog_293_method_4_code 21 = .ok (.aload_n 0, 1) := by decide +kernel
theorem d2_22 : decode prog_293_method_4_code 22 = .ok (.getstatic 7, 3) := by decide +kernel
theorem d2_25 : decode prog_293_method_4_code 25 = .ok (.if_acmp .ne 17, 3) := by decide +kernel
theorem d2_28 : decode prog_293_method_4_code 28 = .ok (.aload_n 1, 1) := by decide +kernel
theorem d2_29 : decode prog_293_method_4_code 29 = .ok (.getstatic 7, 3) := by decide +kernel
theorem d2_32 : decode prog_293_method_4_code 32 = .ok (.if_acmp .ne 10, 3) := by decide +kernel
theorem d2_35 : decode prog_293_method_4_code 35 = .ok (.getstatic 7, 3) := by decide +kernel
theorem d2_38 : decode prog_293_method_4_code 38 = .ok (.astore_n 2, 1) := by decide +kernel
theorem d2_39 : decode prog_293_method_4_code 39 = .ok (.goto 7, 3) := by decide +kernel
theorem d2_42 : decode prog_293_method_4_code 42 = .ok (.getstatic 10, 3) := by decide +kernel
theorem d2_45 : decode prog_293_method_4_code 45 = .ok (.astore_n 2, 1) := by decide +kernel
theorem d2_46 : decode prog_293_method_4_code 46 = .ok (.aload_n 2, 1) := by decide +kernel
theorem d2_47 : decode prog_293_method_4_code 47 = .ok (.areturn, 1) := by decide +kernel
theorem pn_1 : plainName "com/example/strict_xslt/strictxslt/xpath/Truth" = true := by first | (simp [plainName, overriddenIn]; done) | decide +kernel
theorem d3_0 : decode jdk_29_method_69_code 0 = .ok (.iload_n 0, 1) := by decide +kernel
theorem d3_1 : decode jdk_29_method_69_code 1 = .ok (.iload_n 1, 1) := by decide +kernel
theorem d3_2 : decode jdk_29_method_69_code 2 = .ok (.if_icmp .gt 7, 3) := by decide +kernel
theorem d3_5 : decode jdk_29_method_69_code 5 = .ok (.iload_n 0, 1) := by decide +kernel
theorem d3_6 : decode jdk_29_method_69_code 6 = .ok (.goto 4, 3) := by decide +kernel
theorem d3_9 : decode jdk_29_method_69_code 9 = .ok (.iload_n 1, 1) := by decide +kernel
theorem d3_10 : decode jdk_29_method_69_code 10 = .ok (.ireturn, 1) := by decide +kernel
theorem pd_2 : parseMethodDescriptor "(I)Lcom/example/strict_xslt/strictxslt/xpath/Truth;" = some ⟨[.int], some (.object "com/example/strict_xslt/strictxslt/xpath/Truth")⟩ := by decide +kernel
theorem pd_3 : parseMethodDescriptor "(Lcom/example/strict_xslt/strictxslt/xpath/Truth;)Lcom/example/strict_xslt/strictxslt/xpath/Truth;" = some ⟨[(.object "com/example/strict_xslt/strictxslt/xpath/Truth")], some (.object "com/example/strict_xslt/strictxslt/xpath/Truth")⟩ := by decide +kernel
theorem pd_4 : parseMethodDescriptor "(II)I" = some ⟨[.int, .int], some .int⟩ := by decide +kernel
def own_pk (k : Int32) (f u t : Addr) : Addr := if k = 0 then f else if k = 1 then u else t
def own_and (x y f u t : Addr) : Addr := if x = f then f else if y = f then f else if x = t then (if y = t then t else u) else u
theorem own_pk_exa {Z : State} {h : Heap} {f u t : Addr} {C : String} (k : Int32) (F : Exa Z h f C) (U : Exa Z h u C) (T : Exa Z h t C) : Exa Z h (own_pk k f u t) C := by
  unfold own_pk; split
  · exact F
  · split
    · exact U
    · exact T
theorem own_i3 (a : Int32) : ((a &&& 2147483647) - (a &&& 2147483647) / 3 * 3 = 0 ∨ (a &&& 2147483647) - (a &&& 2147483647) / 3 * 3 = 1 ∨ (a &&& 2147483647) - (a &&& 2147483647) / 3 * 3 = 2) := by
  have e1 : (a &&& 2147483647).toInt = a.toInt % 2 ^ 31 := Jvm.Kit.i32_mask a 2147483647 (k := 31) (by decide) (by decide)
  have e2 : ((a &&& 2147483647) - (a &&& 2147483647) / 3 * 3).toInt = (a &&& 2147483647).toInt % (3 : Int32).toInt := own_rem32n (by omega)
  have e3 : (3 : Int32).toInt = 3 := by decide
  rw [e3] at e2
  generalize (a &&& 2147483647) - (a &&& 2147483647) / 3 * 3 = z at *
  have : z.toInt = 0 ∨ z.toInt = 1 ∨ z.toInt = 2 := by omega
  rcases this with h | h | h
  · left; apply Int32.toInt_inj.mp; rw [h]; decide
  · right; left; apply Int32.toInt_inj.mp; rw [h]; decide
  · right; right; apply Int32.toInt_inj.mp; rw [h]; decide
theorem ef_1 (m : MethodId) (x0 : Int32) : entryFrame m #[(.int x0)] 1 = mkF m 0 #[.val (.int x0)] [] := by first | (simp [entryFrame, mkF, argsToLocals, Value.category]; done) | rfl
def Q1 (Z : State) (p1 : Int32) (aF : Addr) (aU : Addr) (aT : Addr) (h0 : Heap) (n0 : Nat) (v : Option Value) (h : Heap) (L : List Loc) : Prop := v = some (.ref (own_pk p1 aF aU aT)) ∧ Fr n0 L ∧ h = h0
set_option maxRecDepth 65536 in
set_option maxHeartbeats 40000000 in
theorem rm1 (l : Launch) (Z : State) (a0 : Array Value) (hw : ∀ d ∈ tables_1, d.before a0 Z = true) (ws : List Jvm.Cond) (p1 : Int32) (aF : Addr) (aU : Addr) (aT : Addr) (h0 : Heap) (n0 : Nat) (Z0 : n0 ≤ h0.size) (SF : Sta Z h0 "com/example/strict_xslt/strictxslt/xpath/Truth" "FALSE" "Lcom/example/strict_xslt/strictxslt/xpath/Truth;" (.ref aF)) (SU : Sta Z h0 "com/example/strict_xslt/strictxslt/xpath/Truth" "UNKNOWN" "Lcom/example/strict_xslt/strictxslt/xpath/Truth;" (.ref aU)) (ST : Sta Z h0 "com/example/strict_xslt/strictxslt/xpath/Truth" "TRUE" "Lcom/example/strict_xslt/strictxslt/xpath/Truth;" (.ref aT)) :
    MetFree l (⟨"com/example/strict_xslt/strictxslt/xpath/TruthAndPinLaw", "pick", "(I)Lcom/example/strict_xslt/strictxslt/xpath/Truth;"⟩ : MethodName) (head1 (Jvm.Cond.code (⟨"com/example/strict_xslt/strictxslt/xpath/TruthAndPinLaw", "pick", "(I)Lcom/example/strict_xslt/strictxslt/xpath/Truth;"⟩ : MethodName) method_2_code 1 (some (.object "com/example/strict_xslt/strictxslt/xpath/Truth")) :: ws) ({ frames := 0, cells := 0, slots := 0, locals := 0 } : Room)) (fun a U => a = #[(.int p1)] ∧ Z.Warmed39 U.vm ∧ U.heap = h0) (fun _ _ _ _ _ => True) (fun _ U o U' => ∃ v L, o = .returned v ∧ Q1 Z p1 aF aU aT h0 n0 v U'.heap L ∧ FrameEnd U o U' L ({ frames := 0, cells := 0, slots := 0, locals := 0 } : Room).cells ({ frames := 0, cells := 0, slots := 0, locals := 0 } : Room).slots) := by
  refine MetFree.of_bodySF (plainFor_of_name pn_0) hisR ?_
  intro p e s m args below meth c s₁ Bd hml0 hP hK
  obtain ⟨rfl, hZ, hh⟩ := hP
  have hx := Bd.exec
  have hby := Bd.bytes
  have hml : c.maxLocals = 1 := hml0
  have hown : s.vm.findClass "com/example/strict_xslt/strictxslt/xpath/TruthAndPinLaw" = some m.cls := findClass_of_methodNamed Bd.named
  have hnm := (name_of_methodNamed Bd.named Bd.method).1
  have hlocks : meth.locks = false := BodyLoose.notSynchronized Bd
  have X0 : Stand p l e ({ frames := 0, cells := 0, slots := 0, locals := 0 } : Room) s m #[(.int p1)] below meth c s₁ [] 0 0 := Stand.of_body Bd
  have e0 : s₁.heap = h0 := by rw [← hh, Bd.state]; rfl
  have N0 := Fr.nil n0
  show Goes p e below (s₁.setTop (entryFrame m #[(.int p1)] 1)) (Fin s (Q1 Z p1 aF aU aT h0 n0) ({ frames := 0, cells := 0, slots := 0, locals := 0 } : Room).cells ({ frames := 0, cells := 0, slots := 0, locals := 0 } : Room).slots)
  refine Goes.of (fun t k => castTop (ef_1 m p1) k) ?_
  show Goes p e below (s₁.setTop (mkF m 0 #[.val (.int p1)] [])) _
  refine Goes.of (fun t k => XS.iloadN X0.here hx rfl (hb hby d1_0) rfl k) ?_
  show Goes p e below (s₁.setTop (mkF m 1 #[.val (.int p1)] [(.int p1)])) _
  by_cases hc1_1 : p1 = (0 : Int32)
  · refine Goes.of (fun t k => XS.ifNo X0.here hx rfl (hb hby d1_1) rfl ((if0 _ _).trans (teq hc1_1).2) k) ?_
    show Goes p e below (s₁.setTop (mkF m 4 #[.val (.int p1)] [])) _
    obtain ⟨T2, X2, e2, st2⟩ := getS2 X0 hx hZ hown (host := "") (Or.inl (hw _ (List.mem_of_getElem? (i := 5) rfl))) Via.refl e0 SF (g := (mkF m 4 #[.val (.int p1)] [])) rfl (hb hby d1_4)
    refine Goes.of st2 ?_
    show Goes p e below (T2.setTop (mkF m 7 #[.val (.int p1)] [(.ref aF)])) _
    have hv : own_pk p1 aF aU aT = aF := by simp only [own_pk, if_pos hc1_1]
    exact Goes.retA X2 hx (by rfl) Bd.returns (by rfl) hlocks (hb hby d1_7) (⟨by rw [hv], N0, e2⟩) (by decide) (by decide)
  · refine Goes.of (fun t k => XS.ifYes X0.here hx rfl (pc0 := 1) (pc' := 8) rfl (hb hby d1_1) rfl ((if0 _ _).trans (feq hc1_1).2) (by decide) (by decide) k) ?_
    show Goes p e below (s₁.setTop (mkF m 8 #[.val (.int p1)] [])) _
    refine Goes.of (fun t k => XS.iloadN X0.here hx rfl (hb hby d1_8) rfl k) ?_
    show Goes p e below (s₁.setTop (mkF m 9 #[.val (.int p1)] [(.int p1)])) _
    refine Goes.of (fun t k => XS.iconst X0.here hx rfl (hb hby d1_9) k) ?_
    show Goes p e below (s₁.setTop (mkF m 10 #[.val (.int p1)] [(.int (1 : Int32)), (.int p1)])) _
    by_cases hc10_3 : p1 = (1 : Int32)
    · refine Goes.of (fun t k => XS.icmpNo X0.here hx rfl (hb hby d1_10) rfl (teq hc10_3).2 k) ?_
      show Goes p e below (s₁.setTop (mkF m 13 #[.val (.int p1)] [])) _
      obtain ⟨T4, X4, e4, st4⟩ := getS2 X0 hx hZ hown (host := "") (Or.inl (hw _ (List.mem_of_getElem? (i := 20) rfl))) Via.refl e0 SU (g := (mkF m 13 #[.val (.int p1)] [])) rfl (hb hby d1_13)
      refine Goes.of st4 ?_
      show Goes p e below (T4.setTop (mkF m 16 #[.val (.int p1)] [(.ref aU)])) _
      have hv : own_pk p1 aF aU aT = aU := by simp only [own_pk, if_neg hc1_1, if_pos hc10_3]
      exact Goes.retA X4 hx (by rfl) Bd.returns (by rfl) hlocks (hb hby d1_16) (⟨by rw [hv], N0, e4⟩) (by decide) (by decide)
    · refine Goes.of (fun t k => XS.icmpYes X0.here hx rfl (pc0 := 10) (pc' := 17) rfl (hb hby d1_10) rfl (feq hc10_3).2 (by decide) (by decide) k) ?_
      show Goes p e below (s₁.setTop (mkF m 17 #[.val (.int p1)] [])) _
      obtain ⟨T5, X5, e5, st5⟩ := getS2 X0 hx hZ hown (host := "") (Or.inl (hw _ (List.mem_of_getElem? (i := 18) rfl))) Via.refl e0 ST (g := (mkF m 17 #[.val (.int p1)] [])) rfl (hb hby d1_17)
      refine Goes.of st5 ?_
      show Goes p e below (T5.setTop (mkF m 20 #[.val (.int p1)] [(.ref aT)])) _
      have hv : own_pk p1 aF aU aT = aT := by simp only [own_pk, if_neg hc1_1, if_neg hc10_3]
      exact Goes.retA X5 hx (by rfl) Bd.returns (by rfl) hlocks (hb hby d1_20) (⟨by rw [hv], N0, e5⟩) (by decide) (by decide)
theorem ef_2 (m : MethodId) (x0 : Addr) (x1 : Addr) : entryFrame m #[(.ref x0), (.ref x1)] 3 = mkF m 0 #[.val (.ref x0), .val (.ref x1), .unset] [] := by first | (simp [entryFrame, mkF, argsToLocals, Value.category]; done) | rfl
def Q2 (Z : State) (a1 : Addr) (a2 : Addr) (aF : Addr) (aU : Addr) (aT : Addr) (h0 : Heap) (n0 : Nat) (v : Option Value) (h : Heap) (L : List Loc) : Prop := v = some (.ref (own_and a1 a2 aF aU aT)) ∧ Fr n0 L ∧ h = h0
set_option maxRecDepth 65536 in
set_option maxHeartbeats 40000000 in
theorem rm2 (l : Launch) (Z : State) (a0 : Array Value) (hw : ∀ d ∈ tables_1, d.before a0 Z = true) (ws : List Jvm.Cond) (a1 : Addr) (a2 : Addr) (aF : Addr) (aU : Addr) (aT : Addr) (h0 : Heap) (n0 : Nat) (Z0 : n0 ≤ h0.size) (SF : Sta Z h0 "com/example/strict_xslt/strictxslt/xpath/Truth" "FALSE" "Lcom/example/strict_xslt/strictxslt/xpath/Truth;" (.ref aF)) (SU : Sta Z h0 "com/example/strict_xslt/strictxslt/xpath/Truth" "UNKNOWN" "Lcom/example/strict_xslt/strictxslt/xpath/Truth;" (.ref aU)) (ST : Sta Z h0 "com/example/strict_xslt/strictxslt/xpath/Truth" "TRUE" "Lcom/example/strict_xslt/strictxslt/xpath/Truth;" (.ref aT)) :
    MetFree l (⟨"com/example/strict_xslt/strictxslt/xpath/Truth", "and", "(Lcom/example/strict_xslt/strictxslt/xpath/Truth;)Lcom/example/strict_xslt/strictxslt/xpath/Truth;"⟩ : MethodName) (head1 (Jvm.Cond.code (⟨"com/example/strict_xslt/strictxslt/xpath/Truth", "and", "(Lcom/example/strict_xslt/strictxslt/xpath/Truth;)Lcom/example/strict_xslt/strictxslt/xpath/Truth;"⟩ : MethodName) prog_293_method_4_code 3 (some (.object "com/example/strict_xslt/strictxslt/xpath/Truth")) :: ws) ({ frames := 0, cells := 0, slots := 0, locals := 0 } : Room)) (fun a U => a = #[(.ref a1), (.ref a2)] ∧ Z.Warmed39 U.vm ∧ U.heap = h0) (fun _ _ _ _ _ => True) (fun _ U o U' => ∃ v L, o = .returned v ∧ Q2 Z a1 a2 aF aU aT h0 n0 v U'.heap L ∧ FrameEnd U o U' L ({ frames := 0, cells := 0, slots := 0, locals := 0 } : Room).cells ({ frames := 0, cells := 0, slots := 0, locals := 0 } : Room).slots) := by
  refine MetFree.of_bodySF (plainFor_of_name pn_1) hisR ?_
  intro p e s m args below meth c s₁ Bd hml0 hP hK
  obtain ⟨rfl, hZ, hh⟩ := hP
  have hx := Bd.exec
  have hby := Bd.bytes
  have hml : c.maxLocals = 3 := hml0
  have hown : s.vm.findClass "com/example/strict_xslt/strictxslt/xpath/Truth" = some m.cls := findClass_of_methodNamed Bd.named
  have hnm := (name_of_methodNamed Bd.named Bd.method).1
  have hlocks : meth.locks = false := BodyLoose.notSynchronized Bd
  have X0 : Stand p l e ({ frames := 0, cells := 0, slots := 0, locals := 0 } : Room) s m #[(.ref a1), (.ref a2)] below meth c s₁ [] 0 0 := Stand.of_body Bd
  have e0 : s₁.heap = h0 := by rw [← hh, Bd.state]; rfl
  have N0 := Fr.nil n0
  show Goes p e below (s₁.setTop (entryFrame m #[(.ref a1), (.ref a2)] 3)) (Fin s (Q2 Z a1 a2 aF aU aT h0 n0) ({ frames := 0, cells := 0, slots := 0, locals := 0 } : Room).cells ({ frames := 0, cells := 0, slots := 0, locals := 0 } : Room).slots)
  refine Goes.of (fun t k => castTop (ef_2 m a1 a2) k) ?_
  show Goes p e below (s₁.setTop (mkF m 0 #[.val (.ref a1), .val (.ref a2), .unset] [])) _
  refine Goes.of (fun t k => XS.aloadN X0.here hx rfl (hb hby d2_0) rfl rfl k) ?_
  show Goes p e below (s₁.setTop (mkF m 1 #[.val (.ref a1), .val (.ref a2), .unset] [(.ref a1)])) _
  obtain ⟨T6, X6, e6, st6⟩ := getS2 X0 hx hZ hown (host := "") (Or.inl (hw _ (List.mem_of_getElem? (i := 13) rfl))) Via.refl e0 SF (g := (mkF m 1 #[.val (.ref a1), .val (.ref a2), .unset] [(.ref a1)])) rfl (hb hby d2_1)
  refine Goes.of st6 ?_
  show Goes p e below (T6.setTop (mkF m 4 #[.val (.ref a1), .val (.ref a2), .unset] [(.ref aF), (.ref a1)])) _
  by_cases hc4_7 : a1 = aF
  · refine Goes.of (fun t k => Jvm.RoadKit.acmp (g := (mkF m 4 #[.val (.ref a1), .val (.ref a2), .unset] [(.ref aF), (.ref a1)])) X6 hx rfl rfl rfl (pc0 := 4) (pc' := 14) (same := true) rfl (hb hby d2_4) rfl (decide_eq_true (congrArg Value.ref hc4_7)) (by decide) (by decide) k) ?_
    show Goes p e below (T6.setTop (mkF m 14 #[.val (.ref a1), .val (.ref a2), .unset] [])) _
    obtain ⟨T8, X8, e8, st8⟩ := getS2 X6 hx hZ hown (host := "") (Or.inl (hw _ (List.mem_of_getElem? (i := 13) rfl))) Via.refl e6 SF (g := (mkF m 14 #[.val (.ref a1), .val (.ref a2), .unset] [])) rfl (hb hby d2_14)
    refine Goes.of st8 ?_
    show Goes p e below (T8.setTop (mkF m 17 #[.val (.ref a1), .val (.ref a2), .unset] [(.ref aF)])) _
    refine Goes.of (fun t k => XS.astoreN X8.here hx rfl (hb hby d2_17) rfl rfl (l' := #[.val (.ref a1), .val (.ref a2), .val (.ref aF)]) rfl k) ?_
    show Goes p e below (T8.setTop (mkF m 18 #[.val (.ref a1), .val (.ref a2), .val (.ref aF)] [])) _
    refine Goes.of (fun t k => XS.goto X8.here hx rfl (pc0 := 18) (pc' := 46) rfl (hb hby d2_18) (by decide) (by decide) k) ?_
    show Goes p e below (T8.setTop (mkF m 46 #[.val (.ref a1), .val (.ref a2), .val (.ref aF)] [])) _
    refine Goes.of (fun t k => XS.aloadN X8.here hx rfl (hb hby d2_46) rfl rfl k) ?_
    show Goes p e below (T8.setTop (mkF m 47 #[.val (.ref a1), .val (.ref a2), .val (.ref aF)] [(.ref aF)])) _
    have hv : own_and a1 a2 aF aU aT = aF := by simp only [own_and, if_pos hc4_7]
    exact Goes.retA X8 hx (by rfl) Bd.returns (by rfl) hlocks (hb hby d2_47) (⟨by rw [hv], N0, e8⟩) (by decide) (by decide)
  · refine Goes.of (fun t k => Jvm.RoadKit.acmp (g := (mkF m 4 #[.val (.ref a1), .val (.ref a2), .unset] [(.ref aF), (.ref a1)])) X6 hx rfl rfl rfl (pc0 := 4) (pc' := 7) (same := false) rfl (hb hby d2_4) rfl (decide_eq_false (fun q => hc4_7 (Value.ref.inj q))) (by decide) (by decide) k) ?_
    show Goes p e below (T6.setTop (mkF m 7 #[.val (.ref a1), .val (.ref a2), .unset] [])) _
    refine Goes.of (fun t k => XS.aloadN X6.here hx rfl (hb hby d2_7) rfl rfl k) ?_
    show Goes p e below (T6.setTop (mkF m 8 #[.val (.ref a1), .val (.ref a2), .unset] [(.ref a2)])) _
    obtain ⟨T9, X9, e9, st9⟩ := getS2 X6 hx hZ hown (host := "") (Or.inl (hw _ (List.mem_of_getElem? (i := 13) rfl))) Via.refl e6 SF (g := (mkF m 8 #[.val (.ref a1), .val (.ref a2), .unset] [(.ref a2)])) rfl (hb hby d2_8)
    refine Goes.of st9 ?_
    show Goes p e below (T9.setTop (mkF m 11 #[.val (.ref a1), .val (.ref a2), .unset] [(.ref aF), (.ref a2)])) _
    by_cases hc11_10 : a2 = aF
    · refine Goes.of (fun t k => Jvm.RoadKit.acmp (g := (mkF m 11 #[.val (.ref a1), .val (.ref a2), .unset] [(.ref aF), (.ref a2)])) X9 hx rfl rfl rfl (pc0 := 11) (pc' := 14) (same := true) rfl (hb hby d2_11) rfl (decide_eq_true (congrArg Value.ref hc11_10)) (by decide) (by decide) k) ?_
      show Goes p e below (T9.setTop (mkF m 14 #[.val (.ref a1), .val (.ref a2), .unset] [])) _
      obtain ⟨T11, X11, e11, st11⟩ := getS2 X9 hx hZ hown (host := "") (Or.inl (hw _ (List.mem_of_getElem? (i := 13) rfl))) Via.refl e9 SF (g := (mkF m 14 #[.val (.ref a1), .val (.ref a2), .unset] [])) rfl (hb hby d2_14)
      refine Goes.of st11 ?_
      show Goes p e below (T11.setTop (mkF m 17 #[.val (.ref a1), .val (.ref a2), .unset] [(.ref aF)])) _
      refine Goes.of (fun t k => XS.astoreN X11.here hx rfl (hb hby d2_17) rfl rfl (l' := #[.val (.ref a1), .val (.ref a2), .val (.ref aF)]) rfl k) ?_
      show Goes p e below (T11.setTop (mkF m 18 #[.val (.ref a1), .val (.ref a2), .val (.ref aF)] [])) _
      refine Goes.of (fun t k => XS.goto X11.here hx rfl (pc0 := 18) (pc' := 46) rfl (hb hby d2_18) (by decide) (by decide) k) ?_
      show Goes p e below (T11.setTop (mkF m 46 #[.val (.ref a1), .val (.ref a2), .val (.ref aF)] [])) _
      refine Goes.of (fun t k => XS.aloadN X11.here hx rfl (hb hby d2_46) rfl rfl k) ?_
      show Goes p e below (T11.setTop (mkF m 47 #[.val (.ref a1), .val (.ref a2), .val (.ref aF)] [(.ref aF)])) _
      have hv : own_and a1 a2 aF aU aT = aF := by simp only [own_and, if_neg hc4_7, if_pos hc11_10]
      exact Goes.retA X11 hx (by rfl) Bd.returns (by rfl) hlocks (hb hby d2_47) (⟨by rw [hv], N0, e11⟩) (by decide) (by decide)
    · refine Goes.of (fun t k => Jvm.RoadKit.acmp (g := (mkF m 11 #[.val (.ref a1), .val (.ref a2), .unset] [(.ref aF), (.ref a2)])) X9 hx rfl rfl rfl (pc0 := 11) (pc' := 21) (same := false) rfl (hb hby d2_11) rfl (decide_eq_false (fun q => hc11_10 (Value.ref.inj q))) (by decide) (by decide) k) ?_
      show Goes p e below (T9.setTop (mkF m 21 #[.val (.ref a1), .val (.ref a2), .unset] [])) _
      refine Goes.of (fun t k => XS.aloadN X9.here hx rfl (hb hby d2_21) rfl rfl k) ?_
      show Goes p e below (T9.setTop (mkF m 22 #[.val (.ref a1), .val (.ref a2), .unset] [(.ref a1)])) _
      obtain ⟨T12, X12, e12, st12⟩ := getS2 X9 hx hZ hown (host := "") (Or.inl (hw _ (List.mem_of_getElem? (i := 22) rfl))) Via.refl e9 ST (g := (mkF m 22 #[.val (.ref a1), .val (.ref a2), .unset] [(.ref a1)])) rfl (hb hby d2_22)
      refine Goes.of st12 ?_
      show Goes p e below (T12.setTop (mkF m 25 #[.val (.ref a1), .val (.ref a2), .unset] [(.ref aT), (.ref a1)])) _
      by_cases hc25_13 : a1 = aT
      · refine Goes.of (fun t k => Jvm.RoadKit.acmp (g := (mkF m 25 #[.val (.ref a1), .val (.ref a2), .unset] [(.ref aT), (.ref a1)])) X12 hx rfl rfl rfl (pc0 := 25) (pc' := 28) (same := true) rfl (hb hby d2_25) rfl (decide_eq_true (congrArg Value.ref hc25_13)) (by decide) (by decide) k) ?_
        show Goes p e below (T12.setTop (mkF m 28 #[.val (.ref a1), .val (.ref a2), .unset] [])) _
        refine Goes.of (fun t k => XS.aloadN X12.here hx rfl (hb hby d2_28) rfl rfl k) ?_
        show Goes p e below (T12.setTop (mkF m 29 #[.val (.ref a1), .val (.ref a2), .unset] [(.ref a2)])) _
        obtain ⟨T14, X14, e14, st14⟩ := getS2 X12 hx hZ hown (host := "") (Or.inl (hw _ (List.mem_of_getElem? (i := 22) rfl))) Via.refl e12 ST (g := (mkF m 29 #[.val (.ref a1), .val (.ref a2), .unset] [(.ref a2)])) rfl (hb hby d2_29)
        refine Goes.of st14 ?_
        show Goes p e below (T14.setTop (mkF m 32 #[.val (.ref a1), .val (.ref a2), .unset] [(.ref aT), (.ref a2)])) _
        by_cases hc32_15 : a2 = aT
        · refine Goes.of (fun t k => Jvm.RoadKit.acmp (g := (mkF m 32 #[.val (.ref a1), .val (.ref a2), .unset] [(.ref aT), (.ref a2)])) X14 hx rfl rfl rfl (pc0 := 32) (pc' := 35) (same := true) rfl (hb hby d2_32) rfl (decide_eq_true (congrArg Value.ref hc32_15)) (by decide) (by decide) k) ?_
          show Goes p e below (T14.setTop (mkF m 35 #[.val (.ref a1), .val (.ref a2), .unset] [])) _
          obtain ⟨T16, X16, e16, st16⟩ := getS2 X14 hx hZ hown (host := "") (Or.inl (hw _ (List.mem_of_getElem? (i := 22) rfl))) Via.refl e14 ST (g := (mkF m 35 #[.val (.ref a1), .val (.ref a2), .unset] [])) rfl (hb hby d2_35)
          refine Goes.of st16 ?_
          show Goes p e below (T16.setTop (mkF m 38 #[.val (.ref a1), .val (.ref a2), .unset] [(.ref aT)])) _
          refine Goes.of (fun t k => XS.astoreN X16.here hx rfl (hb hby d2_38) rfl rfl (l' := #[.val (.ref a1), .val (.ref a2), .val (.ref aT)]) rfl k) ?_
          show Goes p e below (T16.setTop (mkF m 39 #[.val (.ref a1), .val (.ref a2), .val (.ref aT)] [])) _
          refine Goes.of (fun t k => XS.goto X16.here hx rfl (pc0 := 39) (pc' := 46) rfl (hb hby d2_39) (by decide) (by decide) k) ?_
          show Goes p e below (T16.setTop (mkF m 46 #[.val (.ref a1), .val (.ref a2), .val (.ref aT)] [])) _
          refine Goes.of (fun t k => XS.aloadN X16.here hx rfl (hb hby d2_46) rfl rfl k) ?_
          show Goes p e below (T16.setTop (mkF m 47 #[.val (.ref a1), .val (.ref a2), .val (.ref aT)] [(.ref aT)])) _
          have hv : own_and a1 a2 aF aU aT = aT := by simp only [own_and, if_neg hc4_7, if_neg hc11_10, if_pos hc25_13, if_pos hc32_15]
          exact Goes.retA X16 hx (by rfl) Bd.returns (by rfl) hlocks (hb hby d2_47) (⟨by rw [hv], N0, e16⟩) (by decide) (by decide)
        · refine Goes.of (fun t k => Jvm.RoadKit.acmp (g := (mkF m 32 #[.val (.ref a1), .val (.ref a2), .unset] [(.ref aT), (.ref a2)])) X14 hx rfl rfl rfl (pc0 := 32) (pc' := 42) (same := false) rfl (hb hby d2_32) rfl (decide_eq_false (fun q => hc32_15 (Value.ref.inj q))) (by decide) (by decide) k) ?_
          show Goes p e below (T14.setTop (mkF m 42 #[.val (.ref a1), .val (.ref a2), .unset] [])) _
          obtain ⟨T17, X17, e17, st17⟩ := getS2 X14 hx hZ hown (host := "") (Or.inl (hw _ (List.mem_of_getElem? (i := 23) rfl))) Via.refl e14 SU (g := (mkF m 42 #[.val (.ref a1), .val (.ref a2), .unset] [])) rfl (hb hby d2_42)
          refine Goes.of st17 ?_
          show Goes p e below (T17.setTop (mkF m 45 #[.val (.ref a1), .val (.ref a2), .unset] [(.ref aU)])) _
          refine Goes.of (fun t k => XS.astoreN X17.here hx rfl (hb hby d2_45) rfl rfl (l' := #[.val (.ref a1), .val (.ref a2), .val (.ref aU)]) rfl k) ?_
          show Goes p e below (T17.setTop (mkF m 46 #[.val (.ref a1), .val (.ref a2), .val (.ref aU)] [])) _
          refine Goes.of (fun t k => XS.aloadN X17.here hx rfl (hb hby d2_46) rfl rfl k) ?_
          show Goes p e below (T17.setTop (mkF m 47 #[.val (.ref a1), .val (.ref a2), .val (.ref aU)] [(.ref aU)])) _
          have hv : own_and a1 a2 aF aU aT = aU := by simp only [own_and, if_neg hc4_7, if_neg hc11_10, if_pos hc25_13, if_neg hc32_15]
          exact Goes.retA X17 hx (by rfl) Bd.returns (by rfl) hlocks (hb hby d2_47) (⟨by rw [hv], N0, e17⟩) (by decide) (by decide)
      · refine Goes.of (fun t k => Jvm.RoadKit.acmp (g := (mkF m 25 #[.val (.ref a1), .val (.ref a2), .unset] [(.ref aT), (.ref a1)])) X12 hx rfl rfl rfl (pc0 := 25) (pc' := 42) (same := false) rfl (hb hby d2_25) rfl (decide_eq_false (fun q => hc25_13 (Value.ref.inj q))) (by decide) (by decide) k) ?_
        show Goes p e below (T12.setTop (mkF m 42 #[.val (.ref a1), .val (.ref a2), .unset] [])) _
        obtain ⟨T18, X18, e18, st18⟩ := getS2 X12 hx hZ hown (host := "") (Or.inl (hw _ (List.mem_of_getElem? (i := 23) rfl))) Via.refl e12 SU (g := (mkF m 42 #[.val (.ref a1), .val (.ref a2), .unset] [])) rfl (hb hby d2_42)
        refine Goes.of st18 ?_
        show Goes p e below (T18.setTop (mkF m 45 #[.val (.ref a1), .val (.ref a2), .unset] [(.ref aU)])) _
        refine Goes.of (fun t k => XS.astoreN X18.here hx rfl (hb hby d2_45) rfl rfl (l' := #[.val (.ref a1), .val (.ref a2), .val (.ref aU)]) rfl k) ?_
        show Goes p e below (T18.setTop (mkF m 46 #[.val (.ref a1), .val (.ref a2), .val (.ref aU)] [])) _
        refine Goes.of (fun t k => XS.aloadN X18.here hx rfl (hb hby d2_46) rfl rfl k) ?_
        show Goes p e below (T18.setTop (mkF m 47 #[.val (.ref a1), .val (.ref a2), .val (.ref aU)] [(.ref aU)])) _
        have hv : own_and a1 a2 aF aU aT = aU := by simp only [own_and, if_neg hc4_7, if_neg hc11_10, if_neg hc25_13]
        exact Goes.retA X18 hx (by rfl) Bd.returns (by rfl) hlocks (hb hby d2_47) (⟨by rw [hv], N0, e18⟩) (by decide) (by decide)
def f3 (p1 : Int32) (p2 : Int32) : Int32 := (if p2 < p1 then p2 else p1)
theorem ef_3 (m : MethodId) (x0 : Int32) (x1 : Int32) : entryFrame m #[(.int x0), (.int x1)] 2 = mkF m 0 #[.val (.int x0), .val (.int x1)] [] := by first | (simp [entryFrame, mkF, argsToLocals, Value.category]; done) | rfl
def Q3 (Z : State) (p1 : Int32) (p2 : Int32) (h0 : Heap) (n0 : Nat) (v : Option Value) (h : Heap) (L : List Loc) : Prop := v = some (.int (f3 p1 p2)) ∧ Fr n0 L ∧ h = h0
set_option maxRecDepth 65536 in
set_option maxHeartbeats 40000000 in
theorem rm3 (l : Launch) (Z : State) (a0 : Array Value) (hw : ∀ d ∈ tables_1, d.before a0 Z = true) (ws : List Jvm.Cond) (p1 : Int32) (p2 : Int32) (h0 : Heap) (n0 : Nat) (Z0 : n0 ≤ h0.size)  :
    MetFree l (⟨"java/lang/Math", "min", "(II)I"⟩ : MethodName) (head1 (Jvm.Cond.code (⟨"java/lang/Math", "min", "(II)I"⟩ : MethodName) jdk_29_method_69_code 2 (some .int) :: ws) ({ frames := 0, cells := 0, slots := 0, locals := 0 } : Room)) (fun a U => a = #[(.int p1), (.int p2)] ∧ Z.Warmed39 U.vm ∧ U.heap = h0) (fun _ _ _ _ _ => True) (fun _ U o U' => ∃ v L, o = .returned v ∧ Q3 Z p1 p2 h0 n0 v U'.heap L ∧ FrameEnd U o U' L ({ frames := 0, cells := 0, slots := 0, locals := 0 } : Room).cells ({ frames := 0, cells := 0, slots := 0, locals := 0 } : Room).slots) := by
  refine MetFree.of_bodySF (Jvm.Free.JP.mathPlain rfl (by decide +kernel)) hisR ?_
  intro p e s m args below meth c s₁ Bd hml0 hP hK
  obtain ⟨rfl, hZ, hh⟩ := hP
  have hx := Bd.exec
  have hby := Bd.bytes
  have hml : c.maxLocals = 2 := hml0
  have hown : s.vm.findClass "java/lang/Math" = some m.cls := findClass_of_methodNamed Bd.named
  have hnm := (name_of_methodNamed Bd.named Bd.method).1
  have hlocks : meth.locks = false := BodyLoose.notSynchronized Bd
  have X0 : Stand p l e ({ frames := 0, cells := 0, slots := 0, locals := 0 } : Room) s m #[(.int p1), (.int p2)] below meth c s₁ [] 0 0 := Stand.of_body Bd
  have e0 : s₁.heap = h0 := by rw [← hh, Bd.state]; rfl
  have N0 := Fr.nil n0
  show Goes p e below (s₁.setTop (entryFrame m #[(.int p1), (.int p2)] 2)) (Fin s (Q3 Z p1 p2 h0 n0) ({ frames := 0, cells := 0, slots := 0, locals := 0 } : Room).cells ({ frames := 0, cells := 0, slots := 0, locals := 0 } : Room).slots)
  refine Goes.of (fun t k => castTop (ef_3 m p1 p2) k) ?_
  show Goes p e below (s₁.setTop (mkF m 0 #[.val (.int p1), .val (.int p2)] [])) _
  refine Goes.of (fun t k => XS.iloadN X0.here hx rfl (hb hby d3_0) rfl k) ?_
  show Goes p e below (s₁.setTop (mkF m 1 #[.val (.int p1), .val (.int p2)] [(.int p1)])) _
  refine Goes.of (fun t k => XS.iloadN X0.here hx rfl (hb hby d3_1) rfl k) ?_
  show Goes p e below (s₁.setTop (mkF m 2 #[.val (.int p1), .val (.int p2)] [(.int p2), (.int p1)])) _
  by_cases hc2_19 : p2 < p1
  · refine Goes.of (fun t k => XS.icmpYes X0.here hx rfl (pc0 := 2) (pc' := 9) rfl (hb hby d3_2) rfl (tlt hc2_19).2.2.1 (by decide) (by decide) k) ?_
    show Goes p e below (s₁.setTop (mkF m 9 #[.val (.int p1), .val (.int p2)] [])) _
    refine Goes.of (fun t k => XS.iloadN X0.here hx rfl (hb hby d3_9) rfl k) ?_
    show Goes p e below (s₁.setTop (mkF m 10 #[.val (.int p1), .val (.int p2)] [(.int p2)])) _
    have hv : f3 p1 p2 = p2 := by simp only [f3, if_pos hc2_19]
    exact Goes.retI X0 hx Bd.returns hlocks (hb hby d3_10) (⟨by rw [hv], N0, e0⟩) (by decide) (by decide)
  · refine Goes.of (fun t k => XS.icmpNo X0.here hx rfl (hb hby d3_2) rfl (flt hc2_19).2.2.1 k) ?_
    show Goes p e below (s₁.setTop (mkF m 5 #[.val (.int p1), .val (.int p2)] [])) _
    refine Goes.of (fun t k => XS.iloadN X0.here hx rfl (hb hby d3_5) rfl k) ?_
    show Goes p e below (s₁.setTop (mkF m 6 #[.val (.int p1), .val (.int p2)] [(.int p1)])) _
    refine Goes.of (fun t k => XS.goto X0.here hx rfl (pc0 := 6) (pc' := 10) rfl (hb hby d3_6) (by decide) (by decide) k) ?_
    show Goes p e below (s₁.setTop (mkF m 10 #[.val (.int p1), .val (.int p2)] [(.int p1)])) _
    have hv : f3 p1 p2 = p1 := by simp only [f3, if_neg hc2_19]
    exact Goes.retI X0 hx Bd.returns hlocks (hb hby d3_10) (⟨by rw [hv], N0, e0⟩) (by decide) (by decide)
theorem own_fin {f u t : Addr} (h1 : f ≠ u) (h2 : f ≠ t) (h3 : u ≠ t) {i j : Int32} (hi : i = 0 ∨ i = 1 ∨ i = 2) (hj : j = 0 ∨ j = 1 ∨ j = 2) : own_and (own_pk i f u t) (own_pk j f u t) f u t = own_pk (f3 i j) f u t := by
  rcases hi with rfl | rfl | rfl <;> rcases hj with rfl | rfl | rfl <;> simp [own_and, own_pk, f3, h1, h2, h3, h1.symm, h2.symm, h3.symm]
theorem ef_0 (m : MethodId) (x0 : Int32) (x1 : Int32) : entryFrame m #[(.int x0), (.int x1)] maxLocals = mkF m 0 #[.val (.int x0), .val (.int x1), .unset, .unset, .unset, .unset, .unset, .unset] [] := by first | (simp [entryFrame, mkF, argsToLocals, Value.category, maxLocals]; done) | rfl
def Q0 (Z : State) (p1 : Int32) (p2 : Int32) (aF : Addr) (aU : Addr) (aT : Addr) (h0 : Heap) (n0 : Nat) (v : Option Value) (h : Heap) (L : List Loc) : Prop := v = some (.int 1) ∧ Fr n0 L
set_option maxRecDepth 65536 in
set_option maxHeartbeats 40000000 in
theorem rm0 (l : Launch) (Z : State) (a0 : Array Value) (hw : ∀ d ∈ tables_1, d.before a0 Z = true) (ws : List Jvm.Cond) (p1 : Int32) (p2 : Int32) (aF : Addr) (aU : Addr) (aT : Addr) (h0 : Heap) (n0 : Nat) (Z0 : n0 ≤ h0.size) (SF : Sta Z h0 "com/example/strict_xslt/strictxslt/xpath/Truth" "FALSE" "Lcom/example/strict_xslt/strictxslt/xpath/Truth;" (.ref aF)) (SU : Sta Z h0 "com/example/strict_xslt/strictxslt/xpath/Truth" "UNKNOWN" "Lcom/example/strict_xslt/strictxslt/xpath/Truth;" (.ref aU)) (ST : Sta Z h0 "com/example/strict_xslt/strictxslt/xpath/Truth" "TRUE" "Lcom/example/strict_xslt/strictxslt/xpath/Truth;" (.ref aT)) (EF : Exa Z h0 aF "com/example/strict_xslt/strictxslt/xpath/Truth") (EU : Exa Z h0 aU "com/example/strict_xslt/strictxslt/xpath/Truth") (ET : Exa Z h0 aT "com/example/strict_xslt/strictxslt/xpath/Truth") (nFU : aF ≠ aU) (nFT : aF ≠ aT) (nUT : aU ≠ aT) :
    MetFree l x (head1 (Jvm.Cond.code x code maxLocals ret :: ws) room_1) (fun a U => a = #[(.int p1), (.int p2)] ∧ Z.Warmed39 U.vm ∧ U.heap = h0) (fun _ _ _ _ _ => True) (fun _ U o U' => ∃ v L, o = .returned v ∧ Q0 Z p1 p2 aF aU aT h0 n0 v U'.heap L ∧ FrameEnd U o U' L room_1.cells room_1.slots) := by
  refine MetFree.of_bodySF (plainFor_of_name pn_0) hisR ?_
  intro p e s m args below meth c s₁ Bd hml0 hP hK
  obtain ⟨rfl, hZ, hh⟩ := hP
  have hx := Bd.exec
  have hby := Bd.bytes
  have hml : c.maxLocals = 8 := hml0
  have hown : s.vm.findClass "com/example/strict_xslt/strictxslt/xpath/TruthAndPinLaw" = some m.cls := findClass_of_methodNamed Bd.named
  have hnm := (name_of_methodNamed Bd.named Bd.method).1
  have hlocks : meth.locks = false := BodyLoose.notSynchronized Bd
  have X0 : Stand p l e room_1 s m #[(.int p1), (.int p2)] below meth c s₁ [] 0 0 := Stand.of_body Bd
  have e0 : s₁.heap = h0 := by rw [← hh, Bd.state]; rfl
  have N0 := Fr.nil n0
  show Goes p e below (s₁.setTop (entryFrame m #[(.int p1), (.int p2)] maxLocals)) (Fin s (Q0 Z p1 p2 aF aU aT h0 n0) room_1.cells room_1.slots)
  refine Goes.of (fun t k => castTop (ef_0 m p1 p2) k) ?_
  show Goes p e below (s₁.setTop (mkF m 0 #[.val (.int p1), .val (.int p2), .unset, .unset, .unset, .unset, .unset, .unset] [])) _
  refine Goes.of (fun t k => XS.iloadN X0.here hx rfl (hb hby at_0) rfl k) ?_
  show Goes p e below (s₁.setTop (mkF m 1 #[.val (.int p1), .val (.int p2), .unset, .unset, .unset, .unset, .unset, .unset] [(.int p1)])) _
  refine Goes.of (fun t k => X0.ldcInt hx hown (mvT hZ (hw _ (List.mem_of_getElem? (i := 0) rfl))) (g := (mkF m 1 #[.val (.int p1), .val (.int p2), .unset, .unset, .unset, .unset, .unset, .unset] [(.int p1)])) rfl (hb hby at_1) _ k) ?_
  show Goes p e below (s₁.setTop (mkF m 3 #[.val (.int p1), .val (.int p2), .unset, .unset, .unset, .unset, .unset, .unset] [(.int (2147483647 : Int32)), (.int p1)])) _
  refine Goes.of (fun t k => XS.iand X0.here hx rfl (hb hby at_3) rfl k) ?_
  show Goes p e below (s₁.setTop (mkF m 4 #[.val (.int p1), .val (.int p2), .unset, .unset, .unset, .unset, .unset, .unset] [(.int (p1 &&& (2147483647 : Int32)))])) _
  refine Goes.of (fun t k => XS.iconst X0.here hx rfl (hb hby at_4) k) ?_
  show Goes p e below (s₁.setTop (mkF m 5 #[.val (.int p1), .val (.int p2), .unset, .unset, .unset, .unset, .unset, .unset] [(.int (3 : Int32)), (.int (p1 &&& (2147483647 : Int32)))])) _
  refine Goes.of (fun t k => XS.irem X0.here hx rfl (hb hby at_5) rfl (by decide) k) ?_
  show Goes p e below (s₁.setTop (mkF m 6 #[.val (.int p1), .val (.int p2), .unset, .unset, .unset, .unset, .unset, .unset] [(.int ((p1 &&& (2147483647 : Int32)) - (p1 &&& (2147483647 : Int32)) / (3 : Int32) * (3 : Int32)))])) _
  refine Goes.of (fun t k => XS.istoreN X0.here hx rfl (hb hby at_6) rfl (l' := #[.val (.int p1), .val (.int p2), .val (.int ((p1 &&& (2147483647 : Int32)) - (p1 &&& (2147483647 : Int32)) / (3 : Int32) * (3 : Int32))), .unset, .unset, .unset, .unset, .unset]) rfl k) ?_
  show Goes p e below (s₁.setTop (mkF m 7 #[.val (.int p1), .val (.int p2), .val (.int ((p1 &&& (2147483647 : Int32)) - (p1 &&& (2147483647 : Int32)) / (3 : Int32) * (3 : Int32))), .unset, .unset, .unset, .unset, .unset] [])) _
  refine Goes.of (fun t k => XS.iloadN X0.here hx rfl (hb hby at_7) rfl k) ?_
  show Goes p e below (s₁.setTop (mkF m 8 #[.val (.int p1), .val (.int p2), .val (.int ((p1 &&& (2147483647 : Int32)) - (p1 &&& (2147483647 : Int32)) / (3 : Int32) * (3 : Int32))), .unset, .unset, .unset, .unset, .unset] [(.int p2)])) _
  refine Goes.of (fun t k => X0.ldcInt hx hown (mvT hZ (hw _ (List.mem_of_getElem? (i := 0) rfl))) (g := (mkF m 8 #[.val (.int p1), .val (.int p2), .val (.int ((p1 &&& (2147483647 : Int32)) - (p1 &&& (2147483647 : Int32)) / (3 : Int32) * (3 : Int32))), .unset, .unset, .unset, .unset, .unset] [(.int p2)])) rfl (hb hby at_8) _ k) ?_
  show Goes p e below (s₁.setTop (mkF m 10 #[.val (.int p1), .val (.int p2), .val (.int ((p1 &&& (2147483647 : Int32)) - (p1 &&& (2147483647 : Int32)) / (3 : Int32) * (3 : Int32))), .unset, .unset, .unset, .unset, .unset] [(.int (2147483647 : Int32)), (.int p2)])) _
  refine Goes.of (fun t k => XS.iand X0.here hx rfl (hb hby at_10) rfl k) ?_
  show Goes p e below (s₁.setTop (mkF m 11 #[.val (.int p1), .val (.int p2), .val (.int ((p1 &&& (2147483647 : Int32)) - (p1 &&& (2147483647 : Int32)) / (3 : Int32) * (3 : Int32))), .unset, .unset, .unset, .unset, .unset] [(.int (p2 &&& (2147483647 : Int32)))])) _
  refine Goes.of (fun t k => XS.iconst X0.here hx rfl (hb hby at_11) k) ?_
  show Goes p e below (s₁.setTop (mkF m 12 #[.val (.int p1), .val (.int p2), .val (.int ((p1 &&& (2147483647 : Int32)) - (p1 &&& (2147483647 : Int32)) / (3 : Int32) * (3 : Int32))), .unset, .unset, .unset, .unset, .unset] [(.int (3 : Int32)), (.int (p2 &&& (2147483647 : Int32)))])) _
  refine Goes.of (fun t k => XS.irem X0.here hx rfl (hb hby at_12) rfl (by decide) k) ?_
  show Goes p e below (s₁.setTop (mkF m 13 #[.val (.int p1), .val (.int p2), .val (.int ((p1 &&& (2147483647 : Int32)) - (p1 &&& (2147483647 : Int32)) / (3 : Int32) * (3 : Int32))), .unset, .unset, .unset, .unset, .unset] [(.int ((p2 &&& (2147483647 : Int32)) - (p2 &&& (2147483647 : Int32)) / (3 : Int32) * (3 : Int32)))])) _
  refine Goes.of (fun t k => XS.istoreN X0.here hx rfl (hb hby at_13) rfl (l' := #[.val (.int p1), .val (.int p2), .val (.int ((p1 &&& (2147483647 : Int32)) - (p1 &&& (2147483647 : Int32)) / (3 : Int32) * (3 : Int32))), .val (.int ((p2 &&& (2147483647 : Int32)) - (p2 &&& (2147483647 : Int32)) / (3 : Int32) * (3 : Int32))), .unset, .unset, .unset, .unset]) rfl k) ?_
  show Goes p e below (s₁.setTop (mkF m 14 #[.val (.int p1), .val (.int p2), .val (.int ((p1 &&& (2147483647 : Int32)) - (p1 &&& (2147483647 : Int32)) / (3 : Int32) * (3 : Int32))), .val (.int ((p2 &&& (2147483647 : Int32)) - (p2 &&& (2147483647 : Int32)) / (3 : Int32) * (3 : Int32))), .unset, .unset, .unset, .unset] [])) _
  refine Goes.of (fun t k => XS.iloadN X0.here hx rfl (hb hby at_14) rfl k) ?_
  show Goes p e below (s₁.setTop (mkF m 15 #[.val (.int p1), .val (.int p2), .val (.int ((p1 &&& (2147483647 : Int32)) - (p1 &&& (2147483647 : Int32)) / (3 : Int32) * (3 : Int32))), .val (.int ((p2 &&& (2147483647 : Int32)) - (p2 &&& (2147483647 : Int32)) / (3 : Int32) * (3 : Int32))), .unset, .unset, .unset, .unset] [(.int ((p1 &&& (2147483647 : Int32)) - (p1 &&& (2147483647 : Int32)) / (3 : Int32) * (3 : Int32)))])) _
  obtain ⟨_, _, ⟨T20, L20, k20, n20⟩, -, X20, ⟨Lc20, hQ20, l20, y20, z20⟩, st20⟩ := Jvm.LawKit.callS X0 hx (y := (⟨"com/example/strict_xslt/strictxslt/xpath/TruthAndPinLaw", "pick", "(I)Lcom/example/strict_xslt/strictxslt/xpath/Truth;"⟩ : MethodName)) hown (mvT hZ (hw _ (List.mem_of_getElem? (i := 1) rfl))) (mvT hZ (hw _ (List.mem_of_getElem? (i := 2) rfl))) (mvT hZ (hw _ (List.mem_of_getElem? (i := 3) rfl))) (mvT hZ (hw _ (List.mem_of_getElem? (i := 4) rfl))) (by decide) (backOf (W := 0) (rm1 l Z a0 hw [] ((p1 &&& (2147483647 : Int32)) - (p1 &&& (2147483647 : Int32)) / (3 : Int32) * (3 : Int32)) aF aU aT h0 n0 Z0 SF SU ST) hZ (hw _ (List.mem_of_getElem? (i := 4) rfl)) (hw _ (List.mem_of_getElem? (i := 3) rfl)) (by decide) (by decide)) (g := (mkF m 15 #[.val (.int p1), .val (.int p2), .val (.int ((p1 &&& (2147483647 : Int32)) - (p1 &&& (2147483647 : Int32)) / (3 : Int32) * (3 : Int32))), .val (.int ((p2 &&& (2147483647 : Int32)) - (p2 &&& (2147483647 : Int32)) / (3 : Int32) * (3 : Int32))), .unset, .unset, .unset, .unset] [(.int ((p1 &&& (2147483647 : Int32)) - (p1 &&& (2147483647 : Int32)) / (3 : Int32) * (3 : Int32)))])) rfl (by rw [hml]; rfl) (argsL := [(.int ((p1 &&& (2147483647 : Int32)) - (p1 &&& (2147483647 : Int32)) / (3 : Int32) * (3 : Int32)))]) (rest := []) (lenOf pd_2 rfl) rfl (by show 2 * 0 + _ ≤ _; exact Nat.le_of_eq rfl) (hb hby at_15) (fun _ _ => ⟨rfl, e0, (by decide : 0 + 0 ≤ _), (by decide : 0 + 0 ≤ _)⟩)
  dsimp only [Pt.U, Pt.locs, Pt.cells, Pt.slots] at X20 l20 y20 z20 st20 hQ20
  subst l20 y20 z20
  obtain ⟨rfl, N20q, e20⟩ := hQ20
  have N20 := Fr.app N0 N20q
  refine Goes.of st20 ?_
  show Goes p e below (T20.setTop (mkF m 18 #[.val (.int p1), .val (.int p2), .val (.int ((p1 &&& (2147483647 : Int32)) - (p1 &&& (2147483647 : Int32)) / (3 : Int32) * (3 : Int32))), .val (.int ((p2 &&& (2147483647 : Int32)) - (p2 &&& (2147483647 : Int32)) / (3 : Int32) * (3 : Int32))), .unset, .unset, .unset, .unset] [(.ref (own_pk ((p1 &&& (2147483647 : Int32)) - (p1 &&& (2147483647 : Int32)) / (3 : Int32) * (3 : Int32)) aF aU aT))])) _
  refine Goes.of (fun t k => XS.astore X20.here hx rfl (hb hby at_18) rfl rfl (l' := #[.val (.int p1), .val (.int p2), .val (.int ((p1 &&& (2147483647 : Int32)) - (p1 &&& (2147483647 : Int32)) / (3 : Int32) * (3 : Int32))), .val (.int ((p2 &&& (2147483647 : Int32)) - (p2 &&& (2147483647 : Int32)) / (3 : Int32) * (3 : Int32))), .val (.ref (own_pk ((p1 &&& (2147483647 : Int32)) - (p1 &&& (2147483647 : Int32)) / (3 : Int32) * (3 : Int32)) aF aU aT)), .unset, .unset, .unset]) rfl k) ?_
  show Goes p e below (T20.setTop (mkF m 20 #[.val (.int p1), .val (.int p2), .val (.int ((p1 &&& (2147483647 : Int32)) - (p1 &&& (2147483647 : Int32)) / (3 : Int32) * (3 : Int32))), .val (.int ((p2 &&& (2147483647 : Int32)) - (p2 &&& (2147483647 : Int32)) / (3 : Int32) * (3 : Int32))), .val (.ref (own_pk ((p1 &&& (2147483647 : Int32)) - (p1 &&& (2147483647 : Int32)) / (3 : Int32) * (3 : Int32)) aF aU aT)), .unset, .unset, .unset] [])) _
  refine Goes.of (fun t k => XS.iloadN X20.here hx rfl (hb hby at_20) rfl k) ?_
  show Goes p e below (T20.setTop (mkF m 21 #[.val (.int p1), .val (.int p2), .val (.int ((p1 &&& (2147483647 : Int32)) - (p1 &&& (2147483647 : Int32)) / (3 : Int32) * (3 : Int32))), .val (.int ((p2 &&& (2147483647 : Int32)) - (p2 &&& (2147483647 : Int32)) / (3 : Int32) * (3 : Int32))), .val (.ref (own_pk ((p1 &&& (2147483647 : Int32)) - (p1 &&& (2147483647 : Int32)) / (3 : Int32) * (3 : Int32)) aF aU aT)), .unset, .unset, .unset] [(.int ((p2 &&& (2147483647 : Int32)) - (p2 &&& (2147483647 : Int32)) / (3 : Int32) * (3 : Int32)))])) _
  obtain ⟨_, _, ⟨T21, L21, k21, n21⟩, -, X21, ⟨Lc21, hQ21, l21, y21, z21⟩, st21⟩ := Jvm.LawKit.callS X20 hx (y := (⟨"com/example/strict_xslt/strictxslt/xpath/TruthAndPinLaw", "pick", "(I)Lcom/example/strict_xslt/strictxslt/xpath/Truth;"⟩ : MethodName)) hown (mvT hZ (hw _ (List.mem_of_getElem? (i := 1) rfl))) (mvT hZ (hw _ (List.mem_of_getElem? (i := 2) rfl))) (mvT hZ (hw _ (List.mem_of_getElem? (i := 3) rfl))) (mvT hZ (hw _ (List.mem_of_getElem? (i := 4) rfl))) (by decide) (backOf (W := 0) (rm1 l Z a0 hw [] ((p2 &&& (2147483647 : Int32)) - (p2 &&& (2147483647 : Int32)) / (3 : Int32) * (3 : Int32)) aF aU aT h0 n0 Z0 SF SU ST) hZ (hw _ (List.mem_of_getElem? (i := 4) rfl)) (hw _ (List.mem_of_getElem? (i := 3) rfl)) (by decide) (by decide)) (g := (mkF m 21 #[.val (.int p1), .val (.int p2), .val (.int ((p1 &&& (2147483647 : Int32)) - (p1 &&& (2147483647 : Int32)) / (3 : Int32) * (3 : Int32))), .val (.int ((p2 &&& (2147483647 : Int32)) - (p2 &&& (2147483647 : Int32)) / (3 : Int32) * (3 : Int32))), .val (.ref (own_pk ((p1 &&& (2147483647 : Int32)) - (p1 &&& (2147483647 : Int32)) / (3 : Int32) * (3 : Int32)) aF aU aT)), .unset, .unset, .unset] [(.int ((p2 &&& (2147483647 : Int32)) - (p2 &&& (2147483647 : Int32)) / (3 : Int32) * (3 : Int32)))])) rfl (by rw [hml]; rfl) (argsL := [(.int ((p2 &&& (2147483647 : Int32)) - (p2 &&& (2147483647 : Int32)) / (3 : Int32) * (3 : Int32)))]) (rest := []) (lenOf pd_2 rfl) rfl (by show 2 * 0 + _ ≤ _; exact Nat.le_of_eq rfl) (hb hby at_21) (fun _ _ => ⟨rfl, e20, (by decide : 0 + 0 ≤ _), (by decide : 0 + 0 ≤ _)⟩)
  dsimp only [Pt.U, Pt.locs, Pt.cells, Pt.slots] at X21 l21 y21 z21 st21 hQ21
  subst l21 y21 z21
  obtain ⟨rfl, N21q, e21⟩ := hQ21
  have N21 := Fr.app N20 N21q
  refine Goes.of st21 ?_
  show Goes p e below (T21.setTop (mkF m 24 #[.val (.int p1), .val (.int p2), .val (.int ((p1 &&& (2147483647 : Int32)) - (p1 &&& (2147483647 : Int32)) / (3 : Int32) * (3 : Int32))), .val (.int ((p2 &&& (2147483647 : Int32)) - (p2 &&& (2147483647 : Int32)) / (3 : Int32) * (3 : Int32))), .val (.ref (own_pk ((p1 &&& (2147483647 : Int32)) - (p1 &&& (2147483647 : Int32)) / (3 : Int32) * (3 : Int32)) aF aU aT)), .unset, .unset, .unset] [(.ref (own_pk ((p2 &&& (2147483647 : Int32)) - (p2 &&& (2147483647 : Int32)) / (3 : Int32) * (3 : Int32)) aF aU aT))])) _
  refine Goes.of (fun t k => XS.astore X21.here hx rfl (hb hby at_24) rfl rfl (l' := #[.val (.int p1), .val (.int p2), .val (.int ((p1 &&& (2147483647 : Int32)) - (p1 &&& (2147483647 : Int32)) / (3 : Int32) * (3 : Int32))), .val (.int ((p2 &&& (2147483647 : Int32)) - (p2 &&& (2147483647 : Int32)) / (3 : Int32) * (3 : Int32))), .val (.ref (own_pk ((p1 &&& (2147483647 : Int32)) - (p1 &&& (2147483647 : Int32)) / (3 : Int32) * (3 : Int32)) aF aU aT)), .val (.ref (own_pk ((p2 &&& (2147483647 : Int32)) - (p2 &&& (2147483647 : Int32)) / (3 : Int32) * (3 : Int32)) aF aU aT)), .unset, .unset]) rfl k) ?_
  show Goes p e below (T21.setTop (mkF m 26 #[.val (.int p1), .val (.int p2), .val (.int ((p1 &&& (2147483647 : Int32)) - (p1 &&& (2147483647 : Int32)) / (3 : Int32) * (3 : Int32))), .val (.int ((p2 &&& (2147483647 : Int32)) - (p2 &&& (2147483647 : Int32)) / (3 : Int32) * (3 : Int32))), .val (.ref (own_pk ((p1 &&& (2147483647 : Int32)) - (p1 &&& (2147483647 : Int32)) / (3 : Int32) * (3 : Int32)) aF aU aT)), .val (.ref (own_pk ((p2 &&& (2147483647 : Int32)) - (p2 &&& (2147483647 : Int32)) / (3 : Int32) * (3 : Int32)) aF aU aT)), .unset, .unset] [])) _
  refine Goes.of (fun t k => XS.aload X21.here hx rfl (hb hby at_26) rfl rfl k) ?_
  show Goes p e below (T21.setTop (mkF m 28 #[.val (.int p1), .val (.int p2), .val (.int ((p1 &&& (2147483647 : Int32)) - (p1 &&& (2147483647 : Int32)) / (3 : Int32) * (3 : Int32))), .val (.int ((p2 &&& (2147483647 : Int32)) - (p2 &&& (2147483647 : Int32)) / (3 : Int32) * (3 : Int32))), .val (.ref (own_pk ((p1 &&& (2147483647 : Int32)) - (p1 &&& (2147483647 : Int32)) / (3 : Int32) * (3 : Int32)) aF aU aT)), .val (.ref (own_pk ((p2 &&& (2147483647 : Int32)) - (p2 &&& (2147483647 : Int32)) / (3 : Int32) * (3 : Int32)) aF aU aT)), .unset, .unset] [(.ref (own_pk ((p1 &&& (2147483647 : Int32)) - (p1 &&& (2147483647 : Int32)) / (3 : Int32) * (3 : Int32)) aF aU aT))])) _
  refine Goes.of (fun t k => XS.aload X21.here hx rfl (hb hby at_28) rfl rfl k) ?_
  show Goes p e below (T21.setTop (mkF m 30 #[.val (.int p1), .val (.int p2), .val (.int ((p1 &&& (2147483647 : Int32)) - (p1 &&& (2147483647 : Int32)) / (3 : Int32) * (3 : Int32))), .val (.int ((p2 &&& (2147483647 : Int32)) - (p2 &&& (2147483647 : Int32)) / (3 : Int32) * (3 : Int32))), .val (.ref (own_pk ((p1 &&& (2147483647 : Int32)) - (p1 &&& (2147483647 : Int32)) / (3 : Int32) * (3 : Int32)) aF aU aT)), .val (.ref (own_pk ((p2 &&& (2147483647 : Int32)) - (p2 &&& (2147483647 : Int32)) / (3 : Int32) * (3 : Int32)) aF aU aT)), .unset, .unset] [(.ref (own_pk ((p2 &&& (2147483647 : Int32)) - (p2 &&& (2147483647 : Int32)) / (3 : Int32) * (3 : Int32)) aF aU aT)), (.ref (own_pk ((p1 &&& (2147483647 : Int32)) - (p1 &&& (2147483647 : Int32)) / (3 : Int32) * (3 : Int32)) aF aU aT))])) _
  obtain ⟨cq22, kq22, q22a, q22b, q22c⟩ := isOf hZ e21 (own_pk_exa _ EF EU ET)
  obtain ⟨_, _, ⟨T22, L22, k22, n22⟩, -, X22, ⟨Lc22, hQ22, l22, y22, z22⟩, st22⟩ := X21.virtualBack hx (y := (⟨"com/example/strict_xslt/strictxslt/xpath/Truth", "and", "(Lcom/example/strict_xslt/strictxslt/xpath/Truth;)Lcom/example/strict_xslt/strictxslt/xpath/Truth;"⟩ : MethodName)) (z := (⟨"com/example/strict_xslt/strictxslt/xpath/Truth", "and", "(Lcom/example/strict_xslt/strictxslt/xpath/Truth;)Lcom/example/strict_xslt/strictxslt/xpath/Truth;"⟩ : MethodName)) hown (mvT hZ (hw _ (List.mem_of_getElem? (i := 8) rfl))) (mvT hZ (hw _ (List.mem_of_getElem? (i := 9) rfl))) (notFace_of_selects (args := #[]) (mvT hZ (hw _ (List.mem_of_getElem? (i := 11) rfl)))) (mvT hZ (hw _ (List.mem_of_getElem? (i := 11) rfl))) (mvT hZ (hw _ (List.mem_of_getElem? (i := 10) rfl))) (by decide) (backOf (W := 0) (rm2 l Z a0 hw [] (own_pk ((p1 &&& (2147483647 : Int32)) - (p1 &&& (2147483647 : Int32)) / (3 : Int32) * (3 : Int32)) aF aU aT) (own_pk ((p2 &&& (2147483647 : Int32)) - (p2 &&& (2147483647 : Int32)) / (3 : Int32) * (3 : Int32)) aF aU aT) aF aU aT h0 n0 Z0 SF SU ST) hZ (hw _ (List.mem_of_getElem? (i := 12) rfl)) (hw _ (List.mem_of_getElem? (i := 6) rfl)) (by decide) (by decide)) q22a q22c (g := (mkF m 30 #[.val (.int p1), .val (.int p2), .val (.int ((p1 &&& (2147483647 : Int32)) - (p1 &&& (2147483647 : Int32)) / (3 : Int32) * (3 : Int32))), .val (.int ((p2 &&& (2147483647 : Int32)) - (p2 &&& (2147483647 : Int32)) / (3 : Int32) * (3 : Int32))), .val (.ref (own_pk ((p1 &&& (2147483647 : Int32)) - (p1 &&& (2147483647 : Int32)) / (3 : Int32) * (3 : Int32)) aF aU aT)), .val (.ref (own_pk ((p2 &&& (2147483647 : Int32)) - (p2 &&& (2147483647 : Int32)) / (3 : Int32) * (3 : Int32)) aF aU aT)), .unset, .unset] [(.ref (own_pk ((p2 &&& (2147483647 : Int32)) - (p2 &&& (2147483647 : Int32)) / (3 : Int32) * (3 : Int32)) aF aU aT)), (.ref (own_pk ((p1 &&& (2147483647 : Int32)) - (p1 &&& (2147483647 : Int32)) / (3 : Int32) * (3 : Int32)) aF aU aT))])) rfl (by rw [hml]; rfl) (Steps.refl _) (argsL := [(.ref (own_pk ((p2 &&& (2147483647 : Int32)) - (p2 &&& (2147483647 : Int32)) / (3 : Int32) * (3 : Int32)) aF aU aT))]) (rest := []) (lenOf pd_3 rfl) rfl (by show 2 * 0 + _ ≤ _; exact Nat.le_of_eq rfl) (hb hby at_30) (fun _ _ => ⟨rfl, e21, (by decide : 0 + 0 ≤ _), (by decide : 0 + 0 ≤ _)⟩)
  dsimp only [Pt.U, Pt.locs, Pt.cells, Pt.slots] at X22 l22 y22 z22 st22 hQ22
  subst l22 y22 z22
  obtain ⟨rfl, N22q, e22⟩ := hQ22
  have N22 := Fr.app N21 N22q
  refine Goes.of (fun t k => st22.trans k) ?_
  show Goes p e below (T22.setTop (mkF m 33 #[.val (.int p1), .val (.int p2), .val (.int ((p1 &&& (2147483647 : Int32)) - (p1 &&& (2147483647 : Int32)) / (3 : Int32) * (3 : Int32))), .val (.int ((p2 &&& (2147483647 : Int32)) - (p2 &&& (2147483647 : Int32)) / (3 : Int32) * (3 : Int32))), .val (.ref (own_pk ((p1 &&& (2147483647 : Int32)) - (p1 &&& (2147483647 : Int32)) / (3 : Int32) * (3 : Int32)) aF aU aT)), .val (.ref (own_pk ((p2 &&& (2147483647 : Int32)) - (p2 &&& (2147483647 : Int32)) / (3 : Int32) * (3 : Int32)) aF aU aT)), .unset, .unset] [(.ref (own_and (own_pk ((p1 &&& (2147483647 : Int32)) - (p1 &&& (2147483647 : Int32)) / (3 : Int32) * (3 : Int32)) aF aU aT) (own_pk ((p2 &&& (2147483647 : Int32)) - (p2 &&& (2147483647 : Int32)) / (3 : Int32) * (3 : Int32)) aF aU aT) aF aU aT))])) _
  refine Goes.of (fun t k => XS.astore X22.here hx rfl (hb hby at_33) rfl rfl (l' := #[.val (.int p1), .val (.int p2), .val (.int ((p1 &&& (2147483647 : Int32)) - (p1 &&& (2147483647 : Int32)) / (3 : Int32) * (3 : Int32))), .val (.int ((p2 &&& (2147483647 : Int32)) - (p2 &&& (2147483647 : Int32)) / (3 : Int32) * (3 : Int32))), .val (.ref (own_pk ((p1 &&& (2147483647 : Int32)) - (p1 &&& (2147483647 : Int32)) / (3 : Int32) * (3 : Int32)) aF aU aT)), .val (.ref (own_pk ((p2 &&& (2147483647 : Int32)) - (p2 &&& (2147483647 : Int32)) / (3 : Int32) * (3 : Int32)) aF aU aT)), .val (.ref (own_and (own_pk ((p1 &&& (2147483647 : Int32)) - (p1 &&& (2147483647 : Int32)) / (3 : Int32) * (3 : Int32)) aF aU aT) (own_pk ((p2 &&& (2147483647 : Int32)) - (p2 &&& (2147483647 : Int32)) / (3 : Int32) * (3 : Int32)) aF aU aT) aF aU aT)), .unset]) rfl k) ?_
  show Goes p e below (T22.setTop (mkF m 35 #[.val (.int p1), .val (.int p2), .val (.int ((p1 &&& (2147483647 : Int32)) - (p1 &&& (2147483647 : Int32)) / (3 : Int32) * (3 : Int32))), .val (.int ((p2 &&& (2147483647 : Int32)) - (p2 &&& (2147483647 : Int32)) / (3 : Int32) * (3 : Int32))), .val (.ref (own_pk ((p1 &&& (2147483647 : Int32)) - (p1 &&& (2147483647 : Int32)) / (3 : Int32) * (3 : Int32)) aF aU aT)), .val (.ref (own_pk ((p2 &&& (2147483647 : Int32)) - (p2 &&& (2147483647 : Int32)) / (3 : Int32) * (3 : Int32)) aF aU aT)), .val (.ref (own_and (own_pk ((p1 &&& (2147483647 : Int32)) - (p1 &&& (2147483647 : Int32)) / (3 : Int32) * (3 : Int32)) aF aU aT) (own_pk ((p2 &&& (2147483647 : Int32)) - (p2 &&& (2147483647 : Int32)) / (3 : Int32) * (3 : Int32)) aF aU aT) aF aU aT)), .unset] [])) _
  refine Goes.of (fun t k => XS.iloadN X22.here hx rfl (hb hby at_35) rfl k) ?_
  show Goes p e below (T22.setTop (mkF m 36 #[.val (.int p1), .val (.int p2), .val (.int ((p1 &&& (2147483647 : Int32)) - (p1 &&& (2147483647 : Int32)) / (3 : Int32) * (3 : Int32))), .val (.int ((p2 &&& (2147483647 : Int32)) - (p2 &&& (2147483647 : Int32)) / (3 : Int32) * (3 : Int32))), .val (.ref (own_pk ((p1 &&& (2147483647 : Int32)) - (p1 &&& (2147483647 : Int32)) / (3 : Int32) * (3 : Int32)) aF aU aT)), .val (.ref (own_pk ((p2 &&& (2147483647 : Int32)) - (p2 &&& (2147483647 : Int32)) / (3 : Int32) * (3 : Int32)) aF aU aT)), .val (.ref (own_and (own_pk ((p1 &&& (2147483647 : Int32)) - (p1 &&& (2147483647 : Int32)) / (3 : Int32) * (3 : Int32)) aF aU aT) (own_pk ((p2 &&& (2147483647 : Int32)) - (p2 &&& (2147483647 : Int32)) / (3 : Int32) * (3 : Int32)) aF aU aT) aF aU aT)), .unset] [(.int ((p1 &&& (2147483647 : Int32)) - (p1 &&& (2147483647 : Int32)) / (3 : Int32) * (3 : Int32)))])) _
  refine Goes.of (fun t k => XS.iloadN X22.here hx rfl (hb hby at_36) rfl k) ?_
  show Goes p e below (T22.setTop (mkF m 37 #[.val (.int p1), .val (.int p2), .val (.int ((p1 &&& (2147483647 : Int32)) - (p1 &&& (2147483647 : Int32)) / (3 : Int32) * (3 : Int32))), .val (.int ((p2 &&& (2147483647 : Int32)) - (p2 &&& (2147483647 : Int32)) / (3 : Int32) * (3 : Int32))), .val (.ref (own_pk ((p1 &&& (2147483647 : Int32)) - (p1 &&& (2147483647 : Int32)) / (3 : Int32) * (3 : Int32)) aF aU aT)), .val (.ref (own_pk ((p2 &&& (2147483647 : Int32)) - (p2 &&& (2147483647 : Int32)) / (3 : Int32) * (3 : Int32)) aF aU aT)), .val (.ref (own_and (own_pk ((p1 &&& (2147483647 : Int32)) - (p1 &&& (2147483647 : Int32)) / (3 : Int32) * (3 : Int32)) aF aU aT) (own_pk ((p2 &&& (2147483647 : Int32)) - (p2 &&& (2147483647 : Int32)) / (3 : Int32) * (3 : Int32)) aF aU aT) aF aU aT)), .unset] [(.int ((p2 &&& (2147483647 : Int32)) - (p2 &&& (2147483647 : Int32)) / (3 : Int32) * (3 : Int32))), (.int ((p1 &&& (2147483647 : Int32)) - (p1 &&& (2147483647 : Int32)) / (3 : Int32) * (3 : Int32)))])) _
  obtain ⟨_, _, ⟨T23, L23, k23, n23⟩, -, X23, ⟨Lc23, hQ23, l23, y23, z23⟩, st23⟩ := Jvm.LawKit.callS X22 hx (y := (⟨"java/lang/Math", "min", "(II)I"⟩ : MethodName)) hown (mvT hZ (hw _ (List.mem_of_getElem? (i := 14) rfl))) (mvT hZ (hw _ (List.mem_of_getElem? (i := 15) rfl))) (mvT hZ (hw _ (List.mem_of_getElem? (i := 16) rfl))) (mvT hZ (hw _ (List.mem_of_getElem? (i := 17) rfl))) (by decide) (backOf (W := 0) (rm3 l Z a0 hw [] ((p1 &&& (2147483647 : Int32)) - (p1 &&& (2147483647 : Int32)) / (3 : Int32) * (3 : Int32)) ((p2 &&& (2147483647 : Int32)) - (p2 &&& (2147483647 : Int32)) / (3 : Int32) * (3 : Int32))  h0 n0 Z0 ) hZ (hw _ (List.mem_of_getElem? (i := 17) rfl)) (hw _ (List.mem_of_getElem? (i := 16) rfl)) (by decide) (by decide)) (g := (mkF m 37 #[.val (.int p1), .val (.int p2), .val (.int ((p1 &&& (2147483647 : Int32)) - (p1 &&& (2147483647 : Int32)) / (3 : Int32) * (3 : Int32))), .val (.int ((p2 &&& (2147483647 : Int32)) - (p2 &&& (2147483647 : Int32)) / (3 : Int32) * (3 : Int32))), .val (.ref (own_pk ((p1 &&& (2147483647 : Int32)) - (p1 &&& (2147483647 : Int32)) / (3 : Int32) * (3 : Int32)) aF aU aT)), .val (.ref (own_pk ((p2 &&& (2147483647 : Int32)) - (p2 &&& (2147483647 : Int32)) / (3 : Int32) * (3 : Int32)) aF aU aT)), .val (.ref (own_and (own_pk ((p1 &&& (2147483647 : Int32)) - (p1 &&& (2147483647 : Int32)) / (3 : Int32) * (3 : Int32)) aF aU aT) (own_pk ((p2 &&& (2147483647 : Int32)) - (p2 &&& (2147483647 : Int32)) / (3 : Int32) * (3 : Int32)) aF aU aT) aF aU aT)), .unset] [(.int ((p2 &&& (2147483647 : Int32)) - (p2 &&& (2147483647 : Int32)) / (3 : Int32) * (3 : Int32))), (.int ((p1 &&& (2147483647 : Int32)) - (p1 &&& (2147483647 : Int32)) / (3 : Int32) * (3 : Int32)))])) rfl (by rw [hml]; rfl) (argsL := [(.int ((p1 &&& (2147483647 : Int32)) - (p1 &&& (2147483647 : Int32)) / (3 : Int32) * (3 : Int32))), (.int ((p2 &&& (2147483647 : Int32)) - (p2 &&& (2147483647 : Int32)) / (3 : Int32) * (3 : Int32)))]) (rest := []) (lenOf pd_4 rfl) rfl (by show 2 * 0 + _ ≤ _; exact Nat.le_of_eq rfl) (hb hby at_37) (fun _ _ => ⟨rfl, e22, (by decide : 0 + 0 ≤ _), (by decide : 0 + 0 ≤ _)⟩)
  dsimp only [Pt.U, Pt.locs, Pt.cells, Pt.slots] at X23 l23 y23 z23 st23 hQ23
  subst l23 y23 z23
  obtain ⟨rfl, N23q, e23⟩ := hQ23
  have N23 := Fr.app N22 N23q
  refine Goes.of st23 ?_
  show Goes p e below (T23.setTop (mkF m 40 #[.val (.int p1), .val (.int p2), .val (.int ((p1 &&& (2147483647 : Int32)) - (p1 &&& (2147483647 : Int32)) / (3 : Int32) * (3 : Int32))), .val (.int ((p2 &&& (2147483647 : Int32)) - (p2 &&& (2147483647 : Int32)) / (3 : Int32) * (3 : Int32))), .val (.ref (own_pk ((p1 &&& (2147483647 : Int32)) - (p1 &&& (2147483647 : Int32)) / (3 : Int32) * (3 : Int32)) aF aU aT)), .val (.ref (own_pk ((p2 &&& (2147483647 : Int32)) - (p2 &&& (2147483647 : Int32)) / (3 : Int32) * (3 : Int32)) aF aU aT)), .val (.ref (own_and (own_pk ((p1 &&& (2147483647 : Int32)) - (p1 &&& (2147483647 : Int32)) / (3 : Int32) * (3 : Int32)) aF aU aT) (own_pk ((p2 &&& (2147483647 : Int32)) - (p2 &&& (2147483647 : Int32)) / (3 : Int32) * (3 : Int32)) aF aU aT) aF aU aT)), .unset] [(.int (f3 ((p1 &&& (2147483647 : Int32)) - (p1 &&& (2147483647 : Int32)) / (3 : Int32) * (3 : Int32)) ((p2 &&& (2147483647 : Int32)) - (p2 &&& (2147483647 : Int32)) / (3 : Int32) * (3 : Int32))))])) _
  obtain ⟨_, _, ⟨T24, L24, k24, n24⟩, -, X24, ⟨Lc24, hQ24, l24, y24, z24⟩, st24⟩ := Jvm.LawKit.callS X23 hx (y := (⟨"com/example/strict_xslt/strictxslt/xpath/TruthAndPinLaw", "pick", "(I)Lcom/example/strict_xslt/strictxslt/xpath/Truth;"⟩ : MethodName)) hown (mvT hZ (hw _ (List.mem_of_getElem? (i := 1) rfl))) (mvT hZ (hw _ (List.mem_of_getElem? (i := 2) rfl))) (mvT hZ (hw _ (List.mem_of_getElem? (i := 3) rfl))) (mvT hZ (hw _ (List.mem_of_getElem? (i := 4) rfl))) (by decide) (backOf (W := 0) (rm1 l Z a0 hw [] (f3 ((p1 &&& (2147483647 : Int32)) - (p1 &&& (2147483647 : Int32)) / (3 : Int32) * (3 : Int32)) ((p2 &&& (2147483647 : Int32)) - (p2 &&& (2147483647 : Int32)) / (3 : Int32) * (3 : Int32))) aF aU aT h0 n0 Z0 SF SU ST) hZ (hw _ (List.mem_of_getElem? (i := 4) rfl)) (hw _ (List.mem_of_getElem? (i := 3) rfl)) (by decide) (by decide)) (g := (mkF m 40 #[.val (.int p1), .val (.int p2), .val (.int ((p1 &&& (2147483647 : Int32)) - (p1 &&& (2147483647 : Int32)) / (3 : Int32) * (3 : Int32))), .val (.int ((p2 &&& (2147483647 : Int32)) - (p2 &&& (2147483647 : Int32)) / (3 : Int32) * (3 : Int32))), .val (.ref (own_pk ((p1 &&& (2147483647 : Int32)) - (p1 &&& (2147483647 : Int32)) / (3 : Int32) * (3 : Int32)) aF aU aT)), .val (.ref (own_pk ((p2 &&& (2147483647 : Int32)) - (p2 &&& (2147483647 : Int32)) / (3 : Int32) * (3 : Int32)) aF aU aT)), .val (.ref (own_and (own_pk ((p1 &&& (2147483647 : Int32)) - (p1 &&& (2147483647 : Int32)) / (3 : Int32) * (3 : Int32)) aF aU aT) (own_pk ((p2 &&& (2147483647 : Int32)) - (p2 &&& (2147483647 : Int32)) / (3 : Int32) * (3 : Int32)) aF aU aT) aF aU aT)), .unset] [(.int (f3 ((p1 &&& (2147483647 : Int32)) - (p1 &&& (2147483647 : Int32)) / (3 : Int32) * (3 : Int32)) ((p2 &&& (2147483647 : Int32)) - (p2 &&& (2147483647 : Int32)) / (3 : Int32) * (3 : Int32))))])) rfl (by rw [hml]; rfl) (argsL := [(.int (f3 ((p1 &&& (2147483647 : Int32)) - (p1 &&& (2147483647 : Int32)) / (3 : Int32) * (3 : Int32)) ((p2 &&& (2147483647 : Int32)) - (p2 &&& (2147483647 : Int32)) / (3 : Int32) * (3 : Int32))))]) (rest := []) (lenOf pd_2 rfl) rfl (by show 2 * 0 + _ ≤ _; exact Nat.le_of_eq rfl) (hb hby at_40) (fun _ _ => ⟨rfl, e23, (by decide : 0 + 0 ≤ _), (by decide : 0 + 0 ≤ _)⟩)
  dsimp only [Pt.U, Pt.locs, Pt.cells, Pt.slots] at X24 l24 y24 z24 st24 hQ24
  subst l24 y24 z24
  obtain ⟨rfl, N24q, e24⟩ := hQ24
  have N24 := Fr.app N23 N24q
  refine Goes.of st24 ?_
  show Goes p e below (T24.setTop (mkF m 43 #[.val (.int p1), .val (.int p2), .val (.int ((p1 &&& (2147483647 : Int32)) - (p1 &&& (2147483647 : Int32)) / (3 : Int32) * (3 : Int32))), .val (.int ((p2 &&& (2147483647 : Int32)) - (p2 &&& (2147483647 : Int32)) / (3 : Int32) * (3 : Int32))), .val (.ref (own_pk ((p1 &&& (2147483647 : Int32)) - (p1 &&& (2147483647 : Int32)) / (3 : Int32) * (3 : Int32)) aF aU aT)), .val (.ref (own_pk ((p2 &&& (2147483647 : Int32)) - (p2 &&& (2147483647 : Int32)) / (3 : Int32) * (3 : Int32)) aF aU aT)), .val (.ref (own_and (own_pk ((p1 &&& (2147483647 : Int32)) - (p1 &&& (2147483647 : Int32)) / (3 : Int32) * (3 : Int32)) aF aU aT) (own_pk ((p2 &&& (2147483647 : Int32)) - (p2 &&& (2147483647 : Int32)) / (3 : Int32) * (3 : Int32)) aF aU aT) aF aU aT)), .unset] [(.ref (own_pk (f3 ((p1 &&& (2147483647 : Int32)) - (p1 &&& (2147483647 : Int32)) / (3 : Int32) * (3 : Int32)) ((p2 &&& (2147483647 : Int32)) - (p2 &&& (2147483647 : Int32)) / (3 : Int32) * (3 : Int32))) aF aU aT))])) _
  refine Goes.of (fun t k => XS.astore X24.here hx rfl (hb hby at_43) rfl rfl (l' := #[.val (.int p1), .val (.int p2), .val (.int ((p1 &&& (2147483647 : Int32)) - (p1 &&& (2147483647 : Int32)) / (3 : Int32) * (3 : Int32))), .val (.int ((p2 &&& (2147483647 : Int32)) - (p2 &&& (2147483647 : Int32)) / (3 : Int32) * (3 : Int32))), .val (.ref (own_pk ((p1 &&& (2147483647 : Int32)) - (p1 &&& (2147483647 : Int32)) / (3 : Int32) * (3 : Int32)) aF aU aT)), .val (.ref (own_pk ((p2 &&& (2147483647 : Int32)) - (p2 &&& (2147483647 : Int32)) / (3 : Int32) * (3 : Int32)) aF aU aT)), .val (.ref (own_and (own_pk ((p1 &&& (2147483647 : Int32)) - (p1 &&& (2147483647 : Int32)) / (3 : Int32) * (3 : Int32)) aF aU aT) (own_pk ((p2 &&& (2147483647 : Int32)) - (p2 &&& (2147483647 : Int32)) / (3 : Int32) * (3 : Int32)) aF aU aT) aF aU aT)), .val (.ref (own_pk (f3 ((p1 &&& (2147483647 : Int32)) - (p1 &&& (2147483647 : Int32)) / (3 : Int32) * (3 : Int32)) ((p2 &&& (2147483647 : Int32)) - (p2 &&& (2147483647 : Int32)) / (3 : Int32) * (3 : Int32))) aF aU aT))]) rfl k) ?_
  show Goes p e below (T24.setTop (mkF m 45 #[.val (.int p1), .val (.int p2), .val (.int ((p1 &&& (2147483647 : Int32)) - (p1 &&& (2147483647 : Int32)) / (3 : Int32) * (3 : Int32))), .val (.int ((p2 &&& (2147483647 : Int32)) - (p2 &&& (2147483647 : Int32)) / (3 : Int32) * (3 : Int32))), .val (.ref (own_pk ((p1 &&& (2147483647 : Int32)) - (p1 &&& (2147483647 : Int32)) / (3 : Int32) * (3 : Int32)) aF aU aT)), .val (.ref (own_pk ((p2 &&& (2147483647 : Int32)) - (p2 &&& (2147483647 : Int32)) / (3 : Int32) * (3 : Int32)) aF aU aT)), .val (.ref (own_and (own_pk ((p1 &&& (2147483647 : Int32)) - (p1 &&& (2147483647 : Int32)) / (3 : Int32) * (3 : Int32)) aF aU aT) (own_pk ((p2 &&& (2147483647 : Int32)) - (p2 &&& (2147483647 : Int32)) / (3 : Int32) * (3 : Int32)) aF aU aT) aF aU aT)), .val (.ref (own_pk (f3 ((p1 &&& (2147483647 : Int32)) - (p1 &&& (2147483647 : Int32)) / (3 : Int32) * (3 : Int32)) ((p2 &&& (2147483647 : Int32)) - (p2 &&& (2147483647 : Int32)) / (3 : Int32) * (3 : Int32))) aF aU aT))] [])) _
  refine Goes.of (fun t k => XS.aload X24.here hx rfl (hb hby at_45) rfl rfl k) ?_
  show Goes p e below (T24.setTop (mkF m 47 #[.val (.int p1), .val (.int p2), .val (.int ((p1 &&& (2147483647 : Int32)) - (p1 &&& (2147483647 : Int32)) / (3 : Int32) * (3 : Int32))), .val (.int ((p2 &&& (2147483647 : Int32)) - (p2 &&& (2147483647 : Int32)) / (3 : Int32) * (3 : Int32))), .val (.ref (own_pk ((p1 &&& (2147483647 : Int32)) - (p1 &&& (2147483647 : Int32)) / (3 : Int32) * (3 : Int32)) aF aU aT)), .val (.ref (own_pk ((p2 &&& (2147483647 : Int32)) - (p2 &&& (2147483647 : Int32)) / (3 : Int32) * (3 : Int32)) aF aU aT)), .val (.ref (own_and (own_pk ((p1 &&& (2147483647 : Int32)) - (p1 &&& (2147483647 : Int32)) / (3 : Int32) * (3 : Int32)) aF aU aT) (own_pk ((p2 &&& (2147483647 : Int32)) - (p2 &&& (2147483647 : Int32)) / (3 : Int32) * (3 : Int32)) aF aU aT) aF aU aT)), .val (.ref (own_pk (f3 ((p1 &&& (2147483647 : Int32)) - (p1 &&& (2147483647 : Int32)) / (3 : Int32) * (3 : Int32)) ((p2 &&& (2147483647 : Int32)) - (p2 &&& (2147483647 : Int32)) / (3 : Int32) * (3 : Int32))) aF aU aT))] [(.ref (own_and (own_pk ((p1 &&& (2147483647 : Int32)) - (p1 &&& (2147483647 : Int32)) / (3 : Int32) * (3 : Int32)) aF aU aT) (own_pk ((p2 &&& (2147483647 : Int32)) - (p2 &&& (2147483647 : Int32)) / (3 : Int32) * (3 : Int32)) aF aU aT) aF aU aT))])) _
  refine Goes.of (fun t k => XS.aload X24.here hx rfl (hb hby at_47) rfl rfl k) ?_
  show Goes p e below (T24.setTop (mkF m 49 #[.val (.int p1), .val (.int p2), .val (.int ((p1 &&& (2147483647 : Int32)) - (p1 &&& (2147483647 : Int32)) / (3 : Int32) * (3 : Int32))), .val (.int ((p2 &&& (2147483647 : Int32)) - (p2 &&& (2147483647 : Int32)) / (3 : Int32) * (3 : Int32))), .val (.ref (own_pk ((p1 &&& (2147483647 : Int32)) - (p1 &&& (2147483647 : Int32)) / (3 : Int32) * (3 : Int32)) aF aU aT)), .val (.ref (own_pk ((p2 &&& (2147483647 : Int32)) - (p2 &&& (2147483647 : Int32)) / (3 : Int32) * (3 : Int32)) aF aU aT)), .val (.ref (own_and (own_pk ((p1 &&& (2147483647 : Int32)) - (p1 &&& (2147483647 : Int32)) / (3 : Int32) * (3 : Int32)) aF aU aT) (own_pk ((p2 &&& (2147483647 : Int32)) - (p2 &&& (2147483647 : Int32)) / (3 : Int32) * (3 : Int32)) aF aU aT) aF aU aT)), .val (.ref (own_pk (f3 ((p1 &&& (2147483647 : Int32)) - (p1 &&& (2147483647 : Int32)) / (3 : Int32) * (3 : Int32)) ((p2 &&& (2147483647 : Int32)) - (p2 &&& (2147483647 : Int32)) / (3 : Int32) * (3 : Int32))) aF aU aT))] [(.ref (own_pk (f3 ((p1 &&& (2147483647 : Int32)) - (p1 &&& (2147483647 : Int32)) / (3 : Int32) * (3 : Int32)) ((p2 &&& (2147483647 : Int32)) - (p2 &&& (2147483647 : Int32)) / (3 : Int32) * (3 : Int32))) aF aU aT)), (.ref (own_and (own_pk ((p1 &&& (2147483647 : Int32)) - (p1 &&& (2147483647 : Int32)) / (3 : Int32) * (3 : Int32)) aF aU aT) (own_pk ((p2 &&& (2147483647 : Int32)) - (p2 &&& (2147483647 : Int32)) / (3 : Int32) * (3 : Int32)) aF aU aT) aF aU aT))])) _
  have hd49_25 : (own_and (own_pk ((p1 &&& (2147483647 : Int32)) - (p1 &&& (2147483647 : Int32)) / (3 : Int32) * (3 : Int32)) aF aU aT) (own_pk ((p2 &&& (2147483647 : Int32)) - (p2 &&& (2147483647 : Int32)) / (3 : Int32) * (3 : Int32)) aF aU aT) aF aU aT) = (own_pk (f3 ((p1 &&& (2147483647 : Int32)) - (p1 &&& (2147483647 : Int32)) / (3 : Int32) * (3 : Int32)) ((p2 &&& (2147483647 : Int32)) - (p2 &&& (2147483647 : Int32)) / (3 : Int32) * (3 : Int32))) aF aU aT) := own_fin nFU nFT nUT (own_i3 p1) (own_i3 p2)
  refine Goes.of (fun t k => Jvm.RoadKit.acmp (g := (mkF m 49 #[.val (.int p1), .val (.int p2), .val (.int ((p1 &&& (2147483647 : Int32)) - (p1 &&& (2147483647 : Int32)) / (3 : Int32) * (3 : Int32))), .val (.int ((p2 &&& (2147483647 : Int32)) - (p2 &&& (2147483647 : Int32)) / (3 : Int32) * (3 : Int32))), .val (.ref (own_pk ((p1 &&& (2147483647 : Int32)) - (p1 &&& (2147483647 : Int32)) / (3 : Int32) * (3 : Int32)) aF aU aT)), .val (.ref (own_pk ((p2 &&& (2147483647 : Int32)) - (p2 &&& (2147483647 : Int32)) / (3 : Int32) * (3 : Int32)) aF aU aT)), .val (.ref (own_and (own_pk ((p1 &&& (2147483647 : Int32)) - (p1 &&& (2147483647 : Int32)) / (3 : Int32) * (3 : Int32)) aF aU aT) (own_pk ((p2 &&& (2147483647 : Int32)) - (p2 &&& (2147483647 : Int32)) / (3 : Int32) * (3 : Int32)) aF aU aT) aF aU aT)), .val (.ref (own_pk (f3 ((p1 &&& (2147483647 : Int32)) - (p1 &&& (2147483647 : Int32)) / (3 : Int32) * (3 : Int32)) ((p2 &&& (2147483647 : Int32)) - (p2 &&& (2147483647 : Int32)) / (3 : Int32) * (3 : Int32))) aF aU aT))] [(.ref (own_pk (f3 ((p1 &&& (2147483647 : Int32)) - (p1 &&& (2147483647 : Int32)) / (3 : Int32) * (3 : Int32)) ((p2 &&& (2147483647 : Int32)) - (p2 &&& (2147483647 : Int32)) / (3 : Int32) * (3 : Int32))) aF aU aT)), (.ref (own_and (own_pk ((p1 &&& (2147483647 : Int32)) - (p1 &&& (2147483647 : Int32)) / (3 : Int32) * (3 : Int32)) aF aU aT) (own_pk ((p2 &&& (2147483647 : Int32)) - (p2 &&& (2147483647 : Int32)) / (3 : Int32) * (3 : Int32)) aF aU aT) aF aU aT))])) X24 hx rfl rfl rfl (pc0 := 49) (pc' := 52) (same := true) rfl (hb hby at_49) rfl (decide_eq_true (congrArg Value.ref hd49_25)) (by decide) (by decide) k) ?_
  show Goes p e below (T24.setTop (mkF m 52 #[.val (.int p1), .val (.int p2), .val (.int ((p1 &&& (2147483647 : Int32)) - (p1 &&& (2147483647 : Int32)) / (3 : Int32) * (3 : Int32))), .val (.int ((p2 &&& (2147483647 : Int32)) - (p2 &&& (2147483647 : Int32)) / (3 : Int32) * (3 : Int32))), .val (.ref (own_pk ((p1 &&& (2147483647 : Int32)) - (p1 &&& (2147483647 : Int32)) / (3 : Int32) * (3 : Int32)) aF aU aT)), .val (.ref (own_pk ((p2 &&& (2147483647 : Int32)) - (p2 &&& (2147483647 : Int32)) / (3 : Int32) * (3 : Int32)) aF aU aT)), .val (.ref (own_and (own_pk ((p1 &&& (2147483647 : Int32)) - (p1 &&& (2147483647 : Int32)) / (3 : Int32) * (3 : Int32)) aF aU aT) (own_pk ((p2 &&& (2147483647 : Int32)) - (p2 &&& (2147483647 : Int32)) / (3 : Int32) * (3 : Int32)) aF aU aT) aF aU aT)), .val (.ref (own_pk (f3 ((p1 &&& (2147483647 : Int32)) - (p1 &&& (2147483647 : Int32)) / (3 : Int32) * (3 : Int32)) ((p2 &&& (2147483647 : Int32)) - (p2 &&& (2147483647 : Int32)) / (3 : Int32) * (3 : Int32))) aF aU aT))] [])) _
  refine Goes.of (fun t k => XS.iconst X24.here hx rfl (hb hby at_52) k) ?_
  show Goes p e below (T24.setTop (mkF m 53 #[.val (.int p1), .val (.int p2), .val (.int ((p1 &&& (2147483647 : Int32)) - (p1 &&& (2147483647 : Int32)) / (3 : Int32) * (3 : Int32))), .val (.int ((p2 &&& (2147483647 : Int32)) - (p2 &&& (2147483647 : Int32)) / (3 : Int32) * (3 : Int32))), .val (.ref (own_pk ((p1 &&& (2147483647 : Int32)) - (p1 &&& (2147483647 : Int32)) / (3 : Int32) * (3 : Int32)) aF aU aT)), .val (.ref (own_pk ((p2 &&& (2147483647 : Int32)) - (p2 &&& (2147483647 : Int32)) / (3 : Int32) * (3 : Int32)) aF aU aT)), .val (.ref (own_and (own_pk ((p1 &&& (2147483647 : Int32)) - (p1 &&& (2147483647 : Int32)) / (3 : Int32) * (3 : Int32)) aF aU aT) (own_pk ((p2 &&& (2147483647 : Int32)) - (p2 &&& (2147483647 : Int32)) / (3 : Int32) * (3 : Int32)) aF aU aT) aF aU aT)), .val (.ref (own_pk (f3 ((p1 &&& (2147483647 : Int32)) - (p1 &&& (2147483647 : Int32)) / (3 : Int32) * (3 : Int32)) ((p2 &&& (2147483647 : Int32)) - (p2 &&& (2147483647 : Int32)) / (3 : Int32) * (3 : Int32))) aF aU aT))] [(.int (1 : Int32))])) _
  refine Goes.of (fun t k => XS.goto X24.here hx rfl (pc0 := 53) (pc' := 57) rfl (hb hby at_53) (by decide) (by decide) k) ?_
  show Goes p e below (T24.setTop (mkF m 57 #[.val (.int p1), .val (.int p2), .val (.int ((p1 &&& (2147483647 : Int32)) - (p1 &&& (2147483647 : Int32)) / (3 : Int32) * (3 : Int32))), .val (.int ((p2 &&& (2147483647 : Int32)) - (p2 &&& (2147483647 : Int32)) / (3 : Int32) * (3 : Int32))), .val (.ref (own_pk ((p1 &&& (2147483647 : Int32)) - (p1 &&& (2147483647 : Int32)) / (3 : Int32) * (3 : Int32)) aF aU aT)), .val (.ref (own_pk ((p2 &&& (2147483647 : Int32)) - (p2 &&& (2147483647 : Int32)) / (3 : Int32) * (3 : Int32)) aF aU aT)), .val (.ref (own_and (own_pk ((p1 &&& (2147483647 : Int32)) - (p1 &&& (2147483647 : Int32)) / (3 : Int32) * (3 : Int32)) aF aU aT) (own_pk ((p2 &&& (2147483647 : Int32)) - (p2 &&& (2147483647 : Int32)) / (3 : Int32) * (3 : Int32)) aF aU aT) aF aU aT)), .val (.ref (own_pk (f3 ((p1 &&& (2147483647 : Int32)) - (p1 &&& (2147483647 : Int32)) / (3 : Int32) * (3 : Int32)) ((p2 &&& (2147483647 : Int32)) - (p2 &&& (2147483647 : Int32)) / (3 : Int32) * (3 : Int32))) aF aU aT))] [(.int (1 : Int32))])) _
  exact Goes.retN (t := .boolean) X24 hx Bd.returns (by simp) hlocks (hb hby at_57) (⟨rfl, N24⟩) (by decide) (by decide)
theorem own_ord {t : Term} {C n d : String} {k : Int32} {args : Array Value} {s : State} {a : Addr} (ht : t.eval args s none [] s = some (.ref a)) (h : (Jvm.Cond.eq (.field t C n d) (.int k)).value args s none s [] = some true) : s.fieldOf? a C n d = some (.int k) := by
  obtain ⟨x, y, e1, e2, hk⟩ := cmp_v (Or.inl h)
  rw [fld_at ht] at e1
  have e3 : (Term.int k).eval args s none [] s = some (.int k) := rfl
  rw [e3] at e2; cases e2
  rw [e1]
  simp only [Cond.value, fld_at ht, e1, e3] at h
  cases x <;> simp_all
set_option maxRecDepth 65536 in
set_option maxHeartbeats 40000000 in
theorem comes_1 {Post : Tables → Env → Array Value → State → Outcome → State → Prop} (hpost : ∀ tb e args s v u, (limb_1_1.after args s (.returned v) u = true ∧ limb_1_2.after args s (.returned v) u = true ∧ True) → FrameEnd s (.returned v) u (Jvm.fieldLocs frame_1_writes args s ++ Jvm.arrayLocs frame_1_arrays args s ++ Jvm.staticLocs frame_1_statics s) 0 0 → Post tb e args s (.returned v) u) :
    ArmFor flags0 classFile x code maxLocals ret World_1 tables_1 room_1 Calls_1 rest_1 Pre_1 Post := by
  intro l hfl _ _ p e ha hc hk s m args below hf hA hF happ hP
  obtain ⟨hcalls, hrest, hpre⟩ := hP
  obtain ⟨-, -, -, hnamed, -, -, -, hat⟩ := (Spec.applies_iff hf).mp happ
  obtain ⟨hg, hn⟩ := and_e (Cond.before_iff.mp (show (Jvm.Cond.and given_1 narrow_1).before args s = true from hpre))
  obtain ⟨g26, g27⟩ := and_e hg
  obtain ⟨g28, g29⟩ := and_e g27
  obtain ⟨w0, w1, rfl⟩ : ∃ w0 w1 : Value, args = #[w0, w1] := by
    have hs : args.size = 2 := by simpa [Cond.value, given_1] using g26
    obtain ⟨L⟩ := args
    match L, hs with
    | [w0, w1], _ => exact ⟨w0, w1, rfl⟩
  have hw := fun d (hd : d ∈ tables_1) => atoms_spec (ws := Jvm.Cond.code x code maxLocals ret :: tables_1) hat d (List.mem_cons_of_mem _ hd)
  have hfit : Fit s := fun {y c} hc i hi => by
    obtain ⟨ha, rfl⟩ := Array.getElem?_eq_some_iff.mp hc
    have q := List.all_eq_true.mp ((Array.all_eq_true_iff_forall_mem.mp hF) _ (Array.getElem_mem ha)) i (List.mem_range.mpr hi)
    simpa [Array.getElem?_eq_getElem hi] using q
  obtain ⟨i0, ei0⟩ := is_v g28
  obtain rfl : w0 = (.int i0) := Option.some.inj ei0
  obtain ⟨i1, ei1⟩ := is_v g29
  obtain rfl : w1 = (.int i1) := Option.some.inj ei1
  obtain ⟨nF, hn⟩ := and_e hn
  obtain ⟨nT, hn⟩ := and_e hn
  obtain ⟨nU, hn⟩ := and_e hn
  obtain ⟨oT, hn⟩ := and_e hn
  obtain ⟨oF, oU⟩ := and_e hn
  obtain ⟨aF, vF⟩ := exa_v nF
  obtain ⟨aT, vT⟩ := exa_v nT
  obtain ⟨aU, vU⟩ := exa_v nU
  have SF := Sta.start vF (Or.inr ⟨(hw _ (List.mem_of_getElem? (i := 6) rfl)), (hw _ (List.mem_of_getElem? (i := 7) rfl))⟩)
  have ST := Sta.start vT (Or.inr ⟨(hw _ (List.mem_of_getElem? (i := 6) rfl)), (hw _ (List.mem_of_getElem? (i := 19) rfl))⟩)
  have SU := Sta.start vU (Or.inr ⟨(hw _ (List.mem_of_getElem? (i := 6) rfl)), (hw _ (List.mem_of_getElem? (i := 21) rfl))⟩)
  have EF := Exa.start vF nF
  have ET := Exa.start vT nT
  have EU := Exa.start vU nU
  have qF := own_ord vF oF
  have qT := own_ord vT oT
  have qU := own_ord vU oU
  have nFU : aF ≠ aU := fun q => by rw [q, qU] at qF; revert qF; decide
  have nFT : aF ≠ aT := fun q => by rw [q, qT] at qF; revert qF; decide
  have nUT : aU ≠ aT := fun q => by rw [q, qT] at qU; revert qU; decide
  obtain ⟨n, o, h1, h2, h3, _, L, rfl, ⟨rfl, N⟩, hq⟩ := rm0 l s _ hw tables_1 i0 i1 aF aU aT s.heap s.heap.size (Nat.le_refl _) SF SU ST EF EU ET nFU nFT nUT p e ha hc hk s m _ below hf ((Spec.applies_iff_loose hf).mp happ).1 ⟨rfl, State.Warmed39.refl s, rfl⟩ trivial
  refine ⟨n, _, h1, h2, h3, hpost _ _ _ _ _ _ ⟨Cond.after_iff.mpr rfl, Cond.after_iff.mpr (eq_i res_at (Term.int_eval (1)) rfl), trivial⟩ ⟨hq.1, hq.2.1, (hq.2.2.sift fun y hy => Or.inr (N y hy)).mono (by decide) (by decide)⟩⟩
theorem main_1_1 : Claimed_1_1 := comes_1 fun _ _ _ _ _ _ h hF => ⟨h.1, hF⟩
theorem main_1_2 : Claimed_1_2 := comes_1 fun _ _ _ _ _ _ h hF => ⟨h.2.1, hF⟩
end Jvm.Pilot.@@N@@
namespace Jvm.Pilot.@@N@@
open Jvm Jvm.ClassFile Sem Op Lib Jvm.Free Jvm.Stand Jvm.Pilot.@@N@@.Jvm.D
/-! MADE BY PROGRAM (witnessworld.py) out of the Statement's table words and the real class files: 13 classes; the members and pool entries that the words name. The judged class is class 1, her method 2. -/
namespace start1
open Jvm.ClassFile
def u (s : String) : CpInfo := .utf8 (stringToUtf16 s)
/-- a pool by its gaps: so many unusable entries, then the entry; so many at the end -/
def gap : Nat → List CpInfo → List CpInfo
  | 0, r => r
  | n + 1, r => .unusable :: gap n r
def poolList (es : List (Nat × CpInfo)) (last : Nat) : List CpInfo := es.foldr (fun e r => gap e.1 (e.2 :: r)) (gap last [])
def pool (es : List (Nat × CpInfo)) (last : Nat) : Array CpInfo := ⟨poolList es last⟩
def fileOf (pool : Array CpInfo) (this : Nat) (attrs : Array Attribute := #[]) (ms : Array MethodInfo := #[]) (fl : Nat := 33) (sup : Nat := 0) (ifs : Array Nat := #[]) (fds : Array FieldInfo := #[]) : ClassFile where
  minorVersion := 0
  majorVersion := 65
  constantPool := pool
  accessFlags := fl
  thisClass := this
  superClass := sup
  interfaces := ifs
  fields := fds
  methods := ms
  attributes := attrs
def plain (name : String) (sup : Option ClassId) : Class where
  name := name
  kind := .ordinary
  loader := none
  accessFlags := 33
  super := sup
  interfaces := #[]
  cf := none
  fields := #[]
  methods := #[]
  instanceTypes := #[]
  staticTypes := #[]
  resolved := #[]
  callSites := []
  init := .initialized
  statics := none
  mirror := none

def pool0 : Array CpInfo := pool [(5, u "<init>"), (0, u "()V"), (1, .class_ 10), (1, u "java/lang/Object")] 113

def k0m0 : Method := { name := "<init>", desc := "()V", sig := { parameters := [], returnType := none }, accessFlags := 1, code := none }
/-- java/lang/Object -/
def k0 : Class := { plain "java/lang/Object" none with
  accessFlags := 33
  interfaces := #[]
  cf := some (fileOf pool0 8 #[] #[{ accessFlags := 1, nameIndex := 5, descriptorIndex := 6, attributes := #[] }] 33 0 #[] #[])
  fields := #[]
  methods := #[k0m0]
  instanceTypes := #[]
  staticTypes := #[]
  resolved := Array.replicate 124 none
  statics := none }

def pool1 : Array CpInfo := pool [(2, .class_ 4), (1, u "java/lang/Object"), (0, u "<init>"), (0, u "()V"), (0, .fieldref 8 9), (0, .class_ 10), (0, .nameAndType 11 12), (0, u "com/example/strict_xslt/strictxslt/xpath/Truth"), (0, u "FALSE"), (0, u "Lcom/example/strict_xslt/strictxslt/xpath/Truth;"), (0, .fieldref 8 14), (0, .nameAndType 15 12), (0, u "UNKNOWN"), (0, .fieldref 8 17), (0, .nameAndType 18 12), (0, u "TRUE"), (0, .integer 2147483647), (0, .methodref 21 22), (0, .class_ 23), (0, .nameAndType 24 25), (0, u "com/example/strict_xslt/strictxslt/xpath/TruthAndPinLaw"), (0, u "pick"), (0, u "(I)Lcom/example/strict_xslt/strictxslt/xpath/Truth;"), (0, .methodref 8 27), (0, .nameAndType 28 29), (0, u "and"), (0, u "(Lcom/example/strict_xslt/strictxslt/xpath/Truth;)Lcom/example/strict_xslt/strictxslt/xpath/Truth;"), (0, .methodref 31 32), (0, .class_ 33), (0, .nameAndType 34 35), (0, u "java/lang/Math"), (0, u "min"), (0, u "(II)I"), (3, u "law"), (0, u "(II)Z")] 2

def k1m0 : Method := { name := "<init>", desc := "()V", sig := { parameters := [], returnType := none }, accessFlags := 2, code := none }
def k1c1 : Code := { maxStack := 2, maxLocals := 1, code := method_2_code, exceptionTable := #[], attributes := #[] }
def k1m1 : Method := { name := "pick", desc := "(I)Lcom/example/strict_xslt/strictxslt/xpath/Truth;", sig := { parameters := [.int], returnType := some (.object "com/example/strict_xslt/strictxslt/xpath/Truth") }, accessFlags := 10, code := some k1c1 }
def k1c2 : Code := { maxStack := 2, maxLocals := 8, code := code, exceptionTable := #[], attributes := #[] }
def k1m2 : Method := { name := "law", desc := "(II)Z", sig := { parameters := [.int, .int], returnType := some .boolean }, accessFlags := 9, code := some k1c2 }
/-- com/example/strict_xslt/strictxslt/xpath/TruthAndPinLaw -/
def k1 : Class := { plain "com/example/strict_xslt/strictxslt/xpath/TruthAndPinLaw" (some 0) with
  accessFlags := 49
  interfaces := #[]
  cf := some (fileOf pool1 21 #[] #[{ accessFlags := 2, nameIndex := 5, descriptorIndex := 6, attributes := #[] }, { accessFlags := 10, nameIndex := 24, descriptorIndex := 25, attributes := #[] }, { accessFlags := 9, nameIndex := 39, descriptorIndex := 40, attributes := #[] }] 49 2 #[] #[])
  fields := #[]
  methods := #[k1m0, k1m1, k1m2]
  instanceTypes := #[]
  staticTypes := #[]
  resolved := Array.replicate 43 none
  statics := none }

def pool2 : Array CpInfo := pool [(1, .class_ 2), (0, u "java/lang/constant/Constable"), (0, .class_ 4), (0, u "java/lang/Object")] 6

/-- java/lang/constant/Constable -/
def k2 : Class := { plain "java/lang/constant/Constable" (some 0) with
  accessFlags := 1537
  interfaces := #[]
  cf := some (fileOf pool2 1 #[] #[] 1537 3 #[] #[])
  fields := #[]
  methods := #[]
  instanceTypes := #[]
  staticTypes := #[]
  resolved := Array.replicate 11 none
  statics := none }

def pool3 : Array CpInfo := pool [(1, .class_ 2), (0, u "java/lang/Comparable"), (0, .class_ 4), (0, u "java/lang/Object")] 7

/-- java/lang/Comparable -/
def k3 : Class := { plain "java/lang/Comparable" (some 0) with
  accessFlags := 1537
  interfaces := #[]
  cf := some (fileOf pool3 1 #[] #[] 1537 3 #[] #[])
  fields := #[]
  methods := #[]
  instanceTypes := #[]
  staticTypes := #[]
  resolved := Array.replicate 12 none
  statics := none }

def pool4 : Array CpInfo := pool [(1, .class_ 2), (0, u "java/io/Serializable"), (0, .class_ 4), (0, u "java/lang/Object")] 2

/-- java/io/Serializable -/
def k4 : Class := { plain "java/io/Serializable" (some 0) with
  accessFlags := 1537
  interfaces := #[]
  cf := some (fileOf pool4 1 #[] #[] 1537 3 #[] #[])
  fields := #[]
  methods := #[]
  instanceTypes := #[]
  staticTypes := #[]
  resolved := Array.replicate 7 none
  statics := none }

def pool5 : Array CpInfo := pool [(2, .class_ 4), (1, u "java/lang/Enum"), (0, u "name"), (0, u "Ljava/lang/String;"), (2, u "ordinal"), (0, u "I"), (1, .class_ 14), (1, u "java/lang/Object"), (4, u "hash"), (86, .class_ 108), (1, u "java/lang/Enum$EnumDesc"), (2, .class_ 112), (0, u "java/lang/constant/Constable"), (0, .class_ 114), (0, u "java/lang/Comparable"), (0, .class_ 116), (0, u "java/io/Serializable")] 87

/-- java/lang/Enum -/
def k5 : Class := { plain "java/lang/Enum" (some 0) with
  accessFlags := 1057
  interfaces := #[2, 3, 4]
  cf := some (fileOf pool5 2 #[.nestMembers #[106]] #[] 1057 12 #[111, 113, 115] #[{ accessFlags := 18, nameIndex := 5, descriptorIndex := 6, attributes := #[] }, { accessFlags := 18, nameIndex := 9, descriptorIndex := 10, attributes := #[] }, { accessFlags := 2, nameIndex := 19, descriptorIndex := 10, attributes := #[] }])
  fields := #[{ name := "name", type := (.object "java/lang/String"), accessFlags := 18, slot := 0, constantValue := 0 }, { name := "ordinal", type := .int, accessFlags := 18, slot := 1, constantValue := 0 }, { name := "hash", type := .int, accessFlags := 2, slot := 2, constantValue := 0 }]
  methods := #[]
  instanceTypes := #[(.object "java/lang/String"), .int, .int]
  staticTypes := #[]
  resolved := Array.replicate 204 none
  statics := none }

def pool6 : Array CpInfo := pool [(1, .class_ 2), (0, u "com/example/strict_xslt/strictxslt/xpath/Truth"), (0, .fieldref 1 4), (0, .nameAndType 5 6), (0, u "FALSE"), (0, u "Lcom/example/strict_xslt/strictxslt/xpath/Truth;"), (0, .fieldref 1 8), (0, .nameAndType 9 6), (0, u "TRUE"), (0, .fieldref 1 11), (0, .nameAndType 12 6), (0, u "UNKNOWN"), (2, u "$VALUES"), (0, u "[Lcom/example/strict_xslt/strictxslt/xpath/Truth;"), (6, .class_ 25), (1, u "java/lang/Enum"), (12, u "and"), (0, u "(Lcom/example/strict_xslt/strictxslt/xpath/Truth;)Lcom/example/strict_xslt/strictxslt/xpath/Truth;")] 30

def k6c0 : Code := { maxStack := 2, maxLocals := 3, code := prog_293_method_4_code, exceptionTable := #[], attributes := #[] }
def k6m0 : Method := { name := "and", desc := "(Lcom/example/strict_xslt/strictxslt/xpath/Truth;)Lcom/example/strict_xslt/strictxslt/xpath/Truth;", sig := { parameters := [(.object "com/example/strict_xslt/strictxslt/xpath/Truth")], returnType := some (.object "com/example/strict_xslt/strictxslt/xpath/Truth") }, accessFlags := 1, code := some k6c0 }
/-- com/example/strict_xslt/strictxslt/xpath/Truth -/
def k6 : Class := { plain "com/example/strict_xslt/strictxslt/xpath/Truth" (some 5) with
  accessFlags := 16433
  interfaces := #[]
  cf := some (fileOf pool6 1 #[] #[{ accessFlags := 1, nameIndex := 38, descriptorIndex := 39, attributes := #[] }] 16433 23 #[] #[{ accessFlags := 16409, nameIndex := 5, descriptorIndex := 6, attributes := #[] }, { accessFlags := 16409, nameIndex := 9, descriptorIndex := 6, attributes := #[] }, { accessFlags := 16409, nameIndex := 12, descriptorIndex := 6, attributes := #[] }, { accessFlags := 4122, nameIndex := 15, descriptorIndex := 16, attributes := #[] }])
  fields := #[{ name := "FALSE", type := (.object "com/example/strict_xslt/strictxslt/xpath/Truth"), accessFlags := 16409, slot := 0, constantValue := 0 }, { name := "TRUE", type := (.object "com/example/strict_xslt/strictxslt/xpath/Truth"), accessFlags := 16409, slot := 1, constantValue := 0 }, { name := "UNKNOWN", type := (.object "com/example/strict_xslt/strictxslt/xpath/Truth"), accessFlags := 16409, slot := 2, constantValue := 0 }, { name := "$VALUES", type := (.array (.object "com/example/strict_xslt/strictxslt/xpath/Truth")), accessFlags := 4122, slot := 3, constantValue := 0 }]
  methods := #[k6m0]
  instanceTypes := #[(.object "java/lang/String"), .int, .int]
  staticTypes := #[(.object "com/example/strict_xslt/strictxslt/xpath/Truth"), (.object "com/example/strict_xslt/strictxslt/xpath/Truth"), (.object "com/example/strict_xslt/strictxslt/xpath/Truth"), (.array (.object "com/example/strict_xslt/strictxslt/xpath/Truth"))]
  resolved := Array.replicate 70 none
  statics := some 0 }

def pool7 : Array CpInfo := pool [(1, .class_ 2), (0, u "java/lang/Math"), (1, .class_ 6), (1, u "java/lang/Object"), (0, u "<init>"), (0, u "()V"), (89, .class_ 100), (1, u "java/lang/Math$RandomNumberGeneratorHolder"), (71, u "negativeZeroFloatBits"), (0, u "J"), (2, u "negativeZeroDoubleBits"), (24, u "min"), (43, u "$assertionsDisabled"), (0, u "Z"), (88, u "(II)I"), (2, u "twoToTheDoubleScaleDown"), (0, u "D"), (4, u "twoToTheDoubleScaleUp"), (9, u "E"), (3, u "PI"), (2, u "TAU"), (2, u "DEGREES_TO_RADIANS"), (0, u "RADIANS_TO_DEGREES")] 94

def k7m0 : Method := { name := "<init>", desc := "()V", sig := { parameters := [], returnType := none }, accessFlags := 2, code := none }
def k7c1 : Code := { maxStack := 2, maxLocals := 2, code := jdk_29_method_69_code, exceptionTable := #[], attributes := #[] }
def k7m1 : Method := { name := "min", desc := "(II)I", sig := { parameters := [.int, .int], returnType := some .int }, accessFlags := 9, code := some k7c1 }
/-- java/lang/Math -/
def k7 : Class := { plain "java/lang/Math" (some 0) with
  accessFlags := 49
  interfaces := #[]
  cf := some (fileOf pool7 1 #[.nestMembers #[98]] #[{ accessFlags := 2, nameIndex := 7, descriptorIndex := 8, attributes := #[] }, { accessFlags := 9, nameIndex := 201, descriptorIndex := 335, attributes := #[] }] 49 4 #[] #[{ accessFlags := 25, nameIndex := 354, descriptorIndex := 339, attributes := #[] }, { accessFlags := 25, nameIndex := 358, descriptorIndex := 339, attributes := #[] }, { accessFlags := 25, nameIndex := 361, descriptorIndex := 339, attributes := #[] }, { accessFlags := 26, nameIndex := 364, descriptorIndex := 339, attributes := #[] }, { accessFlags := 26, nameIndex := 365, descriptorIndex := 339, attributes := #[] }, { accessFlags := 26, nameIndex := 172, descriptorIndex := 173, attributes := #[] }, { accessFlags := 26, nameIndex := 176, descriptorIndex := 173, attributes := #[] }, { accessFlags := 8, nameIndex := 344, descriptorIndex := 339, attributes := #[] }, { accessFlags := 8, nameIndex := 338, descriptorIndex := 339, attributes := #[] }, { accessFlags := 4120, nameIndex := 245, descriptorIndex := 246, attributes := #[] }])
  fields := #[{ name := "E", type := .double, accessFlags := 25, slot := 0, constantValue := 0 }, { name := "PI", type := .double, accessFlags := 25, slot := 1, constantValue := 0 }, { name := "TAU", type := .double, accessFlags := 25, slot := 2, constantValue := 0 }, { name := "DEGREES_TO_RADIANS", type := .double, accessFlags := 26, slot := 3, constantValue := 0 }, { name := "RADIANS_TO_DEGREES", type := .double, accessFlags := 26, slot := 4, constantValue := 0 }, { name := "negativeZeroFloatBits", type := .long, accessFlags := 26, slot := 5, constantValue := 0 }, { name := "negativeZeroDoubleBits", type := .long, accessFlags := 26, slot := 6, constantValue := 0 }, { name := "twoToTheDoubleScaleUp", type := .double, accessFlags := 8, slot := 7, constantValue := 0 }, { name := "twoToTheDoubleScaleDown", type := .double, accessFlags := 8, slot := 8, constantValue := 0 }, { name := "$assertionsDisabled", type := .boolean, accessFlags := 4120, slot := 9, constantValue := 0 }]
  methods := #[k7m0, k7m1]
  instanceTypes := #[]
  staticTypes := #[.double, .double, .double, .double, .double, .long, .long, .double, .double, .boolean]
  resolved := Array.replicate 460 none
  statics := none }

def pool8 : Array CpInfo := pool [(1, u "java/lang/Cloneable"), (0, .class_ 1), (0, u "java/lang/Object"), (0, .class_ 3)] 3

/-- java/lang/Cloneable -/
def k8 : Class := { plain "java/lang/Cloneable" (some 0) with
  accessFlags := 1537
  interfaces := #[]
  cf := some (fileOf pool8 2 #[] #[] 1537 4 #[] #[])
  fields := #[]
  methods := #[]
  instanceTypes := #[]
  staticTypes := #[]
  resolved := Array.replicate 8 none
  statics := none }

/-- the primitive byte -/
def k9 : Class := { plain "byte" none with kind := .primitive 'B', accessFlags := 0x411 }
/-- [B -/
def k10 : Class := { plain "[B" (some 0) with kind := .array 9 .byte, interfaces := #[8, 4], accessFlags := 1041 }

/-- the primitive int -/
def k11 : Class := { plain "int" none with kind := .primitive 'I', accessFlags := 0x411 }
/-- [I -/
def k12 : Class := { plain "[I" (some 0) with kind := .array 11 .int, interfaces := #[8, 4], accessFlags := 1041 }

def heap : Heap := #[{ cls := 6, slots := #[.ref 1, .ref 2, .ref 3, .null], vm := .statics 6 },
  { cls := 6, slots := #[.null, .int 0, .int 0], vm := .none },
  { cls := 6, slots := #[.null, .int 1, .int 0], vm := .none },
  { cls := 6, slots := #[.null, .int 2, .int 0], vm := .none }]
def classes : Array Class := #[k0, k1, k2, k3, k4, k5, k6, k7, k8, k9, k10, k11, k12]
def interned : List (Array UInt16 × Addr) := []
def slotsUsed : Nat := 13
def theMethod : MethodId := ⟨1, 2⟩
def args0 : Array Value := #[.int 5, .int 7]
def aboutOver (below : List Frame) : State where
  vm := { classes := classes, interned := interned.toArray }
  heap := heap
  slotsUsed := slotsUsed
  threads := #[{ frames := .invoking theMethod args0 :: below }]
def below0 : List Frame := [.native { method := ⟨0, 0⟩, args := #[] }]
def about1 : State := aboutOver below0
def p0 : Program := .bare "" "" ""
def e0 : Env := launch0.env 0 0 0
theorem w_frames : about1.frames = Frame.invoking theMethod args0 :: below0 := rfl
set_option maxRecDepth 65536 in
theorem w_args : argsFit about1.vm theMethod args0 = true := by decide +kernel
set_option maxRecDepth 65536 in
theorem w_heap : heapFits about1 = true := by decide +kernel
set_option maxRecDepth 65536 in
theorem w_runnable : about1.curStatus? = some .runnable := by decide +kernel
set_option maxRecDepth 65536 in
theorem w_alone : about1.alone = true := by decide +kernel
set_option maxRecDepth 65536 in
theorem w_named : about1.methodNamed? x = some theMethod := by decide +kernel
set_option maxRecDepth 65536 in
theorem w_hears : about1.hears theMethod below0 = true := by decide +kernel
set_option maxRecDepth 65536 in
theorem w_ripe : about1.ripe theMethod args0 below0 = true := by decide +kernel
theorem w_running : about1.status = .running := rfl
set_option maxRecDepth 65536 in
theorem w_room : about1.hasRoom e0.platform room_1 = true :=
  launch0.hasRoom_least _ room_1 (by decide +kernel) (by decide +kernel) (by decide +kernel) (by decide +kernel) (by decide +kernel) (by decide +kernel)
theorem allAtoms_all (ts : List Jvm.Cond) (a : Array Jvm.Value) (st : Jvm.State) : (allAtoms ts).before a st = ts.all (fun c => c.before a st) := by
  induction ts with
  | nil => rfl
  | cons c t ih =>
    show (Jvm.Cond.and c (allAtoms t)).before a st = _
    rw [Jvm.Cond.before_and, ih, List.all_cons]
def words1 : List Jvm.Cond := Jvm.Cond.code x code maxLocals ret :: tables_1
/-- a 'code' word, met by the world's own term for the bytes: nothing is compared byte by byte -/
theorem code_word {y : MethodName} {bytes : ByteArray} {mx : Nat} {rt : Option FieldType} {a : Array Value} {s : State} {m : MethodId} {meth : Method} {c : Code} (h1 : s.methodNamed? y = some m) (h2 : s.vm.method? m = some meth) (h3 : meth.code = some c) (h4 : c.code = bytes)
    (h5 : (c.maxLocals == mx && c.exceptionTable.isEmpty && decide (c.maxStack ≤ mostOperands) && decide (meth.sig.returnType = rt) && !meth.locks && decide (parseMethodDescriptor y.desc = some meth.sig)) = true) : (Jvm.Cond.code y bytes mx rt).before a s = true := by
  simp only [Bool.and_eq_true, beq_iff_eq, Bool.not_eq_true', decide_eq_true_eq] at h5
  obtain ⟨⟨⟨⟨⟨g1, g2⟩, g3⟩, g4⟩, g5⟩, g6⟩ := h5
  simp [Cond.before, Cond.holds, Cond.value, h1, h2, h3, h4, g1, g2, g3, g4, g5, g6]
def isCode : Jvm.Cond → Bool
  | .code _ _ _ _ => true
  | _ => false
theorem all_split {L : List Jvm.Cond} {P : Jvm.Cond → Bool} (h1 : L.all (fun c => isCode c || P c) = true) (h2 : ∀ c ∈ L.filter isCode, P c = true) : L.all P = true := by
  refine List.all_eq_true.mpr fun c hc => ?_
  have h := List.all_eq_true.mp h1 c hc
  rcases Bool.eq_false_or_eq_true (isCode c) with hi | hi
  · exact h2 c (List.mem_filter.mpr ⟨hc, hi⟩)
  · simpa [hi] using h
set_option maxRecDepth 65536 in
theorem w_c0 : (Jvm.Cond.code x code maxLocals ret).before args0 about1 = true := code_word (m := ⟨1, 2⟩) (meth := k1m2) (c := k1c2) (by decide +kernel) rfl rfl rfl (by decide +kernel)
set_option maxRecDepth 65536 in
theorem w_c1 : (Jvm.Cond.code ({ cls := "com/example/strict_xslt/strictxslt/xpath/TruthAndPinLaw", name := "pick", desc := "(I)Lcom/example/strict_xslt/strictxslt/xpath/Truth;" } : Jvm.MethodName) method_2_code (1 : Nat) (Option.some (Jvm.ClassFile.FieldType.object "com/example/strict_xslt/strictxslt/xpath/Truth"))).before args0 about1 = true := code_word (m := ⟨1, 1⟩) (meth := k1m1) (c := k1c1) (by decide +kernel) rfl rfl rfl (by decide +kernel)
set_option maxRecDepth 65536 in
theorem w_c2 : (Jvm.Cond.code ({ cls := "com/example/strict_xslt/strictxslt/xpath/Truth", name := "and", desc := "(Lcom/example/strict_xslt/strictxslt/xpath/Truth;)Lcom/example/strict_xslt/strictxslt/xpath/Truth;" } : Jvm.MethodName) prog_293_method_4_code (3 : Nat) (Option.some (Jvm.ClassFile.FieldType.object "com/example/strict_xslt/strictxslt/xpath/Truth"))).before args0 about1 = true := code_word (m := ⟨6, 0⟩) (meth := k6m0) (c := k6c0) (by decide +kernel) rfl rfl rfl (by decide +kernel)
set_option maxRecDepth 65536 in
theorem w_c3 : (Jvm.Cond.code ({ cls := "java/lang/Math", name := "min", desc := "(II)I" } : Jvm.MethodName) jdk_29_method_69_code (2 : Nat) (Option.some Jvm.ClassFile.FieldType.int)).before args0 about1 = true := code_word (m := ⟨7, 1⟩) (meth := k7m1) (c := k7c1) (by decide +kernel) rfl rfl rfl (by decide +kernel)
def codes1 : List Jvm.Cond := [Jvm.Cond.code x code maxLocals ret, Jvm.Cond.code ({ cls := "com/example/strict_xslt/strictxslt/xpath/TruthAndPinLaw", name := "pick", desc := "(I)Lcom/example/strict_xslt/strictxslt/xpath/Truth;" } : Jvm.MethodName) method_2_code (1 : Nat) (Option.some (Jvm.ClassFile.FieldType.object "com/example/strict_xslt/strictxslt/xpath/Truth")), Jvm.Cond.code ({ cls := "com/example/strict_xslt/strictxslt/xpath/Truth", name := "and", desc := "(Lcom/example/strict_xslt/strictxslt/xpath/Truth;)Lcom/example/strict_xslt/strictxslt/xpath/Truth;" } : Jvm.MethodName) prog_293_method_4_code (3 : Nat) (Option.some (Jvm.ClassFile.FieldType.object "com/example/strict_xslt/strictxslt/xpath/Truth")), Jvm.Cond.code ({ cls := "java/lang/Math", name := "min", desc := "(II)I" } : Jvm.MethodName) jdk_29_method_69_code (2 : Nat) (Option.some Jvm.ClassFile.FieldType.int)]
set_option maxRecDepth 65536 in
theorem codes_eq : words1.filter isCode = codes1 := rfl
theorem w_codes : ∀ c ∈ words1.filter isCode, c.before args0 about1 = true := by
  rw [codes_eq]
  intro c hc
  simp only [codes1, List.mem_cons, List.not_mem_nil, or_false] at hc
  rcases hc with rfl | rfl | rfl | rfl
  · exact w_c0
  · exact w_c1
  · exact w_c2
  · exact w_c3
set_option maxRecDepth 65536 in
theorem w_t1 : (words1.take 24).all (fun c => isCode c || c.before args0 about1) = true := by decide +kernel
set_option maxRecDepth 65536 in
theorem w_t2 : (words1.drop 24).all (fun c => isCode c || c.before args0 about1) = true := by decide +kernel
theorem w_tables : (allAtoms (Jvm.Cond.code x code maxLocals ret :: tables_1)).before args0 about1 = true := by
  rw [allAtoms_all]
  show words1.all (fun c => c.before args0 about1) = true
  refine all_split ?_ w_codes
  rw [← List.take_append_drop 24 words1, List.all_append, w_t1, w_t2]
  rfl
set_option maxRecDepth 65536 in
theorem w_case : (Jvm.Cond.and given_1 narrow_1).before args0 about1 = true := by decide +kernel
theorem w_applies : (headSpec (Jvm.Cond.code x code maxLocals ret :: tables_1) room_1).applies x e0.platform about1 = true :=
  (Spec.applies_iff w_frames).mpr ⟨w_running, w_runnable, w_alone, w_named, w_hears, w_ripe, w_room, w_tables⟩
theorem atStart : AtStart classFile x code maxLocals ret World_1 tables_1 room_1 Calls_1 rest_1 Pre_1 launch0 p0 e0 about1 theMethod args0 below0 :=
  ⟨lists_1, trivial, launch0.admits_env _ _ _, launch0.least_env, fairChoices_fair.cas, fairChoices_fair.clock, w_frames, w_args, w_heap, w_applies, trivial, trivial, w_case⟩
end start1
theorem witness_1 : WitnessClaimed_1 := ⟨start1.p0, start1.e0, start1.about1, start1.theMethod, start1.args0, start1.below0, start1.atStart⟩
end Jvm.Pilot.@@N@@
