import JvmDerived
import JvmDerived.Pilot.@@N@@Statement
import JvmDerived.Pilot.@@N@@Code
set_option linter.unusedVariables false
set_option linter.unusedSimpArgs false
@@BLOCK:NumsL.lean.txt@@
namespace Jvm.OwnN
theorem own_rem32 (x y : Int32) : (x - x / y * y).toInt = x.toInt.tmod y.toInt := by
  have a := (x % y).toInt_lt; have b := (x % y).le_toInt
  rw [Int32.toInt_mod] at a b
  rw [Int32.toInt_sub, Int32.toInt_mul, Int32.toInt_div, Int.bmod_mul_bmod, Int.sub_bmod_bmod, Int.mul_comm, ← Int.tmod_def]
  exact Jvm.Kit.bmod32 b a
theorem own_rem32n {x y : Int32} (hx : 0 ≤ x.toInt) : (x - x / y * y).toInt = x.toInt % y.toInt := by rw [own_rem32, Int.tmod_eq_emod_of_nonneg hx]
end Jvm.OwnN
namespace Jvm.RoadKit
open Sem ClassFile Op Lib Jvm.Stand Jvm.Free Jvm.LawKit
section New
variable {p : Program} {l : Launch} {e : Env} {R : Room} {s : State} {m : MethodId} {args : Array Value} {below : List Frame} {meth : Method} {c : Code} {T : State} {locs : List Loc} {cells slots : Nat}
theorem retI (X : Stand p l e R s m args below meth c T locs cells slots) (hx : p.tables.exec = Jvm.exec) {pc : Nat} {Ls : Array Slot} {z : Int32} {rest : List Value} (hret : meth.sig.returnType = some .int) (hd : decode c.code pc = .ok (.ireturn, 1)) {fs : List Frame}
    (hl : ∀ (f : JFrame) (acts : List Action), f.method = m → f.locked = none → f.entered = [] → (doReturn e (T.setTop f) acts (some (.int z))).1 = T.setFrames fs) : Steps p.tables e below (T.setTop (mkF m pc Ls (.int z :: rest))) (T.setFrames fs) := by
  have hm' : T.vm.method? m = some meth := X.method'
  have hn : narrow .int (.int z) = .int z := rfl
  show Steps p.tables e below (T.setTop { method := m, pc := pc, locals := Ls, stack := _ :: rest, locked := none }) _
  jvm_step X.here [X.here.top, hx, hd, hm', hret, hn]
  first | (intro acts; rw [hl _ acts rfl rfl rfl]) | rw [hl _ _ rfl rfl rfl]
  exact Steps.refl _
/-- the run goes on from S to an end of which P holds -/
def Goes (p : Program) (e : Env) (below : List Frame) (S : State) (P : Outcome → State → Prop) : Prop := ∃ s₂ o, Steps p.tables e below S s₂ ∧ s₂.status = .running ∧ Ended s₂ below o ∧ P o s₂
/-- what every contract here says of the end -/
def Fin (s : State) (Q : Option Value → Heap → List Loc → Prop) (C N : Nat) (o : Outcome) (U : State) : Prop := ∃ v L, o = .returned v ∧ Q v U.heap L ∧ FrameEnd s o U L C N
theorem Goes.of {S S' : State} {P : Outcome → State → Prop} (h : ∀ t, Steps p.tables e below S' t → Steps p.tables e below S t) (g : Goes p e below S' P) : Goes p e below S P := by
  obtain ⟨s₂, o, h1, h2⟩ := g
  exact ⟨s₂, o, h _ h1, h2⟩
theorem Goes.out (X : Stand p l e R s m args below meth c T locs cells slots) {v : Option Value} (hv : meth.sig.returnType = none → v = none) (hlocks : meth.locks = false) {g : JFrame} {Q : Option Value → Heap → List Loc → Prop} {C N : Nat}
    (hst : ∀ fs, (∀ (f : JFrame) (acts : List Action), f.method = m → f.locked = none → f.entered = [] → (doReturn e (T.setTop f) acts v).1 = T.setFrames fs) → Steps p.tables e below (T.setTop g) (T.setFrames fs))
    (hq : Q v T.heap locs) (h1 : cells ≤ C) (h2 : slots ≤ N) : Goes p e below (T.setTop g) (Fin s Q C N) := by
  obtain ⟨fs, hr, hrun, hended, hW, hsame⟩ := X.leave (v := v) hv hlocks
  exact ⟨_, _, hst fs hr, hrun, hended, v, locs, rfl, hq, ⟨_, rfl⟩, hW, hsame.mono h1 h2⟩
theorem Goes.retI (X : Stand p l e R s m args below meth c T locs cells slots) (hx : p.tables.exec = Jvm.exec) (hret : meth.sig.returnType = some .int) (hlocks : meth.locks = false) {pc : Nat} {Ls : Array Slot} {z : Int32} {rest : List Value} (hd : decode c.code pc = .ok (.ireturn, 1)) {Q : Option Value → Heap → List Loc → Prop} {C N : Nat}
    (hq : Q (some (.int z)) T.heap locs) (h1 : cells ≤ C) (h2 : slots ≤ N) : Goes p e below (T.setTop (mkF m pc Ls (.int z :: rest))) (Fin s Q C N) :=
  Goes.out X (v := some (.int z)) (fun h => by rw [hret] at h; cases h) hlocks (fun fs hr => Jvm.RoadKit.retI X hx hret hd hr) hq h1 h2
theorem Goes.retN (X : Stand p l e R s m args below meth c T locs cells slots) (hx : p.tables.exec = Jvm.exec) {t : FieldType} (hret : meth.sig.returnType = some t) (ht : t = .boolean ∨ t = .byte ∨ t = .char ∨ t = .short) (hlocks : meth.locks = false) {pc : Nat} {Ls : Array Slot} {z : Int32} {rest : List Value} (hd : decode c.code pc = .ok (.ireturn, 1)) {Q : Option Value → Heap → List Loc → Prop} {C N : Nat}
    (hq : Q (some (.int (nar t z))) T.heap locs) (h1 : cells ≤ C) (h2 : slots ≤ N) : Goes p e below (T.setTop (mkF m pc Ls (.int z :: rest))) (Fin s Q C N) :=
  Goes.out X (v := some (.int (nar t z))) (fun h => by rw [hret] at h; cases h) hlocks (fun fs hr => Jvm.RoadKit.retN X hx (t := t) hret ht hd hr) hq h1 h2
theorem Goes.retJ (X : Stand p l e R s m args below meth c T locs cells slots) (hx : p.tables.exec = Jvm.exec) (hret : meth.sig.returnType = some .long) (hlocks : meth.locks = false) {pc : Nat} {Ls : Array Slot} {z : Int64} (hd : decode c.code pc = .ok (.lreturn, 1)) {Q : Option Value → Heap → List Loc → Prop} {C N : Nat}
    (hq : Q (some (.long z)) T.heap locs) (h1 : cells ≤ C) (h2 : slots ≤ N) : Goes p e below (T.setTop (mkF m pc Ls [.long z])) (Fin s Q C N) :=
  Goes.out X (v := some (.long z)) (fun h => by rw [hret] at h; cases h) hlocks (fun fs hr => X.lreturnOut hx hret hd hr) hq h1 h2
theorem Goes.retD (X : Stand p l e R s m args below meth c T locs cells slots) (hx : p.tables.exec = Jvm.exec) (hret : meth.sig.returnType = some .double) (hlocks : meth.locks = false) {pc : Nat} {Ls : Array Slot} {z : UInt64} (hd : decode c.code pc = .ok (.dreturn, 1)) {Q : Option Value → Heap → List Loc → Prop} {C N : Nat}
    (hq : Q (some (.double z)) T.heap locs) (h1 : cells ≤ C) (h2 : slots ≤ N) : Goes p e below (T.setTop (mkF m pc Ls [.double z])) (Fin s Q C N) :=
  Goes.out X (v := some (.double z)) (fun h => by rw [hret] at h; cases h) hlocks (fun fs hr => by
    have hm' : T.vm.method? m = some meth := X.method'
    jvm_step X.here [X.here.top, hx, hd, hm', hret, narrow]
    first | (intro acts; rw [hr _ acts rfl rfl rfl]) | rw [hr _ _ rfl rfl rfl]
    exact Steps.refl _) hq h1 h2
theorem Goes.retA (X : Stand p l e R s m args below meth c T locs cells slots) (hx : p.tables.exec = Jvm.exec) {w : Value} {t : FieldType} (hw : w.isRef = true) (hret : meth.sig.returnType = some t) (ht : t.isReference = true) (hlocks : meth.locks = false) {pc : Nat} {Ls : Array Slot} (hd : decode c.code pc = .ok (.areturn, 1)) {Q : Option Value → Heap → List Loc → Prop} {C N : Nat}
    (hq : Q (some w) T.heap locs) (h1 : cells ≤ C) (h2 : slots ≤ N) : Goes p e below (T.setTop (mkF m pc Ls [w])) (Fin s Q C N) :=
  Goes.out X (v := some w) (fun h => by rw [hret] at h; cases h) hlocks (fun fs hr => X.areturnOut hx hw hret ht hd hr) hq h1 h2
theorem Goes.retV (X : Stand p l e R s m args below meth c T locs cells slots) (hx : p.tables.exec = Jvm.exec) (hret : meth.sig.returnType = none) (hlocks : meth.locks = false) {pc : Nat} {Ls : Array Slot} (hd : decode c.code pc = .ok (.return_, 1)) {Q : Option Value → Heap → List Loc → Prop} {C N : Nat}
    (hq : Q none T.heap locs) (h1 : cells ≤ C) (h2 : slots ≤ N) : Goes p e below (T.setTop (mkF m pc Ls [])) (Fin s Q C N) :=
  Goes.out X (v := none) (fun _ => rfl) hlocks (fun fs hr => X.returnOut hx hret hd hr) hq h1 h2
end New
theorem own_pop2 {tb : Tables} [Ours tb] {e : Env} {below : List Frame} {T target : State} {m : MethodId} {c : Code} {g : JFrame} (h : At T m c below) (hx : tb.exec = Jvm.exec) (hg : g.method = m) {x : Value} {rest : List Value} (hd : decode c.code g.pc = .ok (.pop2, 1)) (hs : g.stack = x :: rest) (hc : x.category = 2)
    (hr : Steps tb e below (T.setTop { g with pc := g.pc + 1, stack := rest }) target) : Steps tb e below (T.setTop g) target := by
  subst hg
  jvm_step h [h.top, hx, hd, hs, hc]
  exact hr
theorem selPriv {s : State} {args : Array Value} {y : MethodName} {n : Nat} (hpriv : s.PrivateAt y) (hinst : (Cond.instanceMethod y).before args s = true) (hi : (Cond.instantiable y.cls n).before args s = true) (hy : y.cls ≠ "java/lang/invoke/MethodHandle" ∧ y.cls ≠ "java/lang/invoke/VarHandle") : (Cond.selects y.cls y y).before args s = true := by
  obtain ⟨c, k, h1, h2, -, h3, -⟩ := Cond.instantiable_spec hi
  exact Jvm.Stand.selects_self_of_private h1 h2 (by cases hk : k.isInterface <;> simp_all) hpriv hinst hy
end Jvm.RoadKit
namespace Jvm.Pilot.@@N@@
open Jvm Jvm.ClassFile Sem Op Lib Jvm.Free Jvm.Stand Jvm.LawKit Jvm.RoadKit Bundle Jvm.OwnN Jvm.Pilot.@@N@@.Jvm.D
theorem wd {Z : State} {a0 : Array Value} (hw : ∀ d ∈ tables_1, d.before a0 Z = true) (i : Nat) {c : Jvm.Cond} (h : tables_1[i]? = some c) : c.before a0 Z = true := hw c (List.mem_of_getElem? h)
theorem d1_0 : decode prog_15_method_2_code 0 = .ok (.iload_n 0, 1) := by decide +kernel
theorem d1_1 : decode prog_15_method_2_code 1 = .ok (.bipush 65, 2) := by decide +kernel
theorem d1_3 : decode prog_15_method_2_code 3 = .ok (.if_icmp .lt 9, 3) := by decide +kernel
theorem d1_6 : decode prog_15_method_2_code 6 = .ok (.iload_n 0, 1) := by decide +kernel
theorem d1_7 : decode prog_15_method_2_code 7 = .ok (.bipush 90, 2) := by decide +kernel
theorem d1_9 : decode prog_15_method_2_code 9 = .ok (.if_icmp .le 182, 3) := by decide +kernel
theorem d1_12 : decode prog_15_method_2_code 12 = .ok (.iload_n 0, 1) := by decide +kernel
theorem d1_13 : decode prog_15_method_2_code 13 = .ok (.bipush 95, 2) := by decide +kernel
theorem d1_15 : decode prog_15_method_2_code 15 = .ok (.if_icmp .eq 176, 3) := by decide +kernel
theorem d1_18 : decode prog_15_method_2_code 18 = .ok (.iload_n 0, 1) := by decide +kernel
theorem d1_19 : decode prog_15_method_2_code 19 = .ok (.bipush 97, 2) := by decide +kernel
theorem d1_21 : decode prog_15_method_2_code 21 = .ok (.if_icmp .lt 9, 3) := by decide +kernel
theorem d1_24 : decode prog_15_method_2_code 24 = .ok (.iload_n 0, 1) := by decide +kernel
theorem d1_25 : decode prog_15_method_2_code 25 = .ok (.bipush 122, 2) := by decide +kernel
theorem d1_27 : decode prog_15_method_2_code 27 = .ok (.if_icmp .le 164, 3) := by decide +kernel
theorem d1_30 : decode prog_15_method_2_code 30 = .ok (.iload_n 0, 1) := by decide +kernel
theorem d1_31 : decode prog_15_method_2_code 31 = .ok (.sipush 192, 3) := by decide +kernel
theorem d1_34 : decode prog_15_method_2_code 34 = .ok (.if_icmp .lt 10, 3) := by decide +kernel
theorem d1_37 : decode prog_15_method_2_code 37 = .ok (.iload_n 0, 1) := by decide +kernel
theorem d1_38 : decode prog_15_method_2_code 38 = .ok (.sipush 214, 3) := by decide +kernel
theorem d1_41 : decode prog_15_method_2_code 41 = .ok (.if_icmp .le 150, 3) := by decide +kernel
theorem d1_44 : decode prog_15_method_2_code 44 = .ok (.iload_n 0, 1) := by decide +kernel
theorem d1_45 : decode prog_15_method_2_code 45 = .ok (.sipush 216, 3) := by decide +kernel
theorem d1_48 : decode prog_15_method_2_code 48 = .ok (.if_icmp .lt 10, 3) := by decide +kernel
theorem d1_51 : decode prog_15_method_2_code 51 = .ok (.iload_n 0, 1) := by decide +kernel
theorem d1_52 : decode prog_15_method_2_code 52 = .ok (.sipush 246, 3) := by decide +kernel
theorem d1_55 : decode prog_15_method_2_code 55 = .ok (.if_icmp .le 136, 3) := by decide +kernel
theorem d1_58 : decode prog_15_method_2_code 58 = .ok (.iload_n 0, 1) := by decide +kernel
theorem d1_59 : decode prog_15_method_2_code 59 = .ok (.sipush 248, 3) := by decide +kernel
theorem d1_62 : decode prog_15_method_2_code 62 = .ok (.if_icmp .lt 10, 3) := by decide +kernel
theorem d1_65 : decode prog_15_method_2_code 65 = .ok (.iload_n 0, 1) := by decide +kernel
theorem d1_66 : decode prog_15_method_2_code 66 = .ok (.sipush 767, 3) := by decide +kernel
theorem d1_69 : decode prog_15_method_2_code 69 = .ok (.if_icmp .le 122, 3) := by decide +kernel
theorem d1_72 : decode prog_15_method_2_code 72 = .ok (.iload_n 0, 1) := by decide +kernel
theorem d1_73 : decode prog_15_method_2_code 73 = .ok (.sipush 880, 3) := by decide +kernel
theorem d1_76 : decode prog_15_method_2_code 76 = .ok (.if_icmp .lt 10, 3) := by decide +kernel
theorem d1_79 : decode prog_15_method_2_code 79 = .ok (.iload_n 0, 1) := by decide +kernel
theorem d1_80 : decode prog_15_method_2_code 80 = .ok (.sipush 893, 3) := by decide +kernel
theorem d1_83 : decode prog_15_method_2_code 83 = .ok (.if_icmp .le 108, 3) := by decide +kernel
theorem d1_86 : decode prog_15_method_2_code 86 = .ok (.iload_n 0, 1) := by decide +kernel
theorem d1_87 : decode prog_15_method_2_code 87 = .ok (.sipush 895, 3) := by decide +kernel
theorem d1_90 : decode prog_15_method_2_code 90 = .ok (.if_icmp .lt 10, 3) := by decide +kernel
theorem d1_93 : decode prog_15_method_2_code 93 = .ok (.iload_n 0, 1) := by decide +kernel
theorem d1_94 : decode prog_15_method_2_code 94 = .ok (.sipush 8191, 3) := by decide +kernel
theorem d1_97 : decode prog_15_method_2_code 97 = .ok (.if_icmp .le 94, 3) := by decide +kernel
theorem d1_100 : decode prog_15_method_2_code 100 = .ok (.iload_n 0, 1) := by decide +kernel
theorem d1_101 : decode prog_15_method_2_code 101 = .ok (.sipush 8204, 3) := by decide +kernel
theorem d1_104 : decode prog_15_method_2_code 104 = .ok (.if_icmp .lt 10, 3) := by decide +kernel
theorem d1_107 : decode prog_15_method_2_code 107 = .ok (.iload_n 0, 1) := by decide +kernel
theorem d1_108 : decode prog_15_method_2_code 108 = .ok (.sipush 8205, 3) := by decide +kernel
theorem d1_111 : decode prog_15_method_2_code 111 = .ok (.if_icmp .le 80, 3) := by decide +kernel
theorem d1_114 : decode prog_15_method_2_code 114 = .ok (.iload_n 0, 1) := by decide +kernel
theorem d1_115 : decode prog_15_method_2_code 115 = .ok (.sipush 8304, 3) := by decide +kernel
theorem d1_118 : decode prog_15_method_2_code 118 = .ok (.if_icmp .lt 10, 3) := by decide +kernel
theorem d1_121 : decode prog_15_method_2_code 121 = .ok (.iload_n 0, 1) := by decide +kernel
theorem d1_122 : decode prog_15_method_2_code 122 = .ok (.sipush 8591, 3) := by decide +kernel
theorem d1_125 : decode prog_15_method_2_code 125 = .ok (.if_icmp .le 66, 3) := by decide +kernel
theorem d1_128 : decode prog_15_method_2_code 128 = .ok (.iload_n 0, 1) := by decide +kernel
theorem d1_129 : decode prog_15_method_2_code 129 = .ok (.sipush 11264, 3) := by decide +kernel
theorem d1_132 : decode prog_15_method_2_code 132 = .ok (.if_icmp .lt 10, 3) := by decide +kernel
theorem d1_135 : decode prog_15_method_2_code 135 = .ok (.iload_n 0, 1) := by decide +kernel
theorem d1_136 : decode prog_15_method_2_code 136 = .ok (.sipush 12271, 3) := by decide +kernel
theorem d1_139 : decode prog_15_method_2_code 139 = .ok (.if_icmp .le 52, 3) := by decide +kernel
theorem d1_142 : decode prog_15_method_2_code 142 = .ok (.iload_n 0, 1) := by decide +kernel
theorem d1_143 : decode prog_15_method_2_code 143 = .ok (.sipush 12289, 3) := by decide +kernel
theorem d1_146 : decode prog_15_method_2_code 146 = .ok (.if_icmp .lt 9, 3) := by decide +kernel
theorem d1_149 : decode prog_15_method_2_code 149 = .ok (.iload_n 0, 1) := by decide +kernel
theorem d1_150 : decode prog_15_method_2_code 150 = .ok (.ldc 7, 2) := by decide +kernel
theorem d1_152 : decode prog_15_method_2_code 152 = .ok (.if_icmp .le 39, 3) := by decide +kernel
theorem d1_155 : decode prog_15_method_2_code 155 = .ok (.iload_n 0, 1) := by decide +kernel
theorem d1_156 : decode prog_15_method_2_code 156 = .ok (.ldc 8, 2) := by decide +kernel
theorem d1_158 : decode prog_15_method_2_code 158 = .ok (.if_icmp .lt 9, 3) := by decide +kernel
theorem d1_161 : decode prog_15_method_2_code 161 = .ok (.iload_n 0, 1) := by decide +kernel
theorem d1_162 : decode prog_15_method_2_code 162 = .ok (.ldc 9, 2) := by decide +kernel
theorem d1_164 : decode prog_15_method_2_code 164 = .ok (.if_icmp .le 27, 3) := by decide +kernel
theorem d1_167 : decode prog_15_method_2_code 167 = .ok (.iload_n 0, 1) := by decide +kernel
theorem d1_168 : decode prog_15_method_2_code 168 = .ok (.ldc 10, 2) := by decide +kernel
theorem d1_170 : decode prog_15_method_2_code 170 = .ok (.if_icmp .lt 9, 3) := by decide +kernel
theorem d1_173 : decode prog_15_method_2_code 173 = .ok (.iload_n 0, 1) := by decide +kernel
theorem d1_174 : decode prog_15_method_2_code 174 = .ok (.ldc 11, 2) := by decide +kernel
theorem d1_176 : decode prog_15_method_2_code 176 = .ok (.if_icmp .le 15, 3) := by decide +kernel
theorem d1_179 : decode prog_15_method_2_code 179 = .ok (.iload_n 0, 1) := by decide +kernel
theorem d1_180 : decode prog_15_method_2_code 180 = .ok (.ldc 12, 2) := by decide +kernel
theorem d1_182 : decode prog_15_method_2_code 182 = .ok (.if_icmp .lt 13, 3) := by decide +kernel
theorem d1_185 : decode prog_15_method_2_code 185 = .ok (.iload_n 0, 1) := by decide +kernel
theorem d1_186 : decode prog_15_method_2_code 186 = .ok (.ldc 13, 2) := by decide +kernel
theorem d1_188 : decode prog_15_method_2_code 188 = .ok (.if_icmp .gt 7, 3) := by decide +kernel
theorem d1_191 : decode prog_15_method_2_code 191 = .ok (.iconst 1, 1) := by decide +kernel
theorem d1_192 : decode prog_15_method_2_code 192 = .ok (.goto 4, 3) := by decide +kernel
theorem d1_195 : decode prog_15_method_2_code 195 = .ok (.iconst 0, 1) := by decide +kernel
theorem d1_196 : decode prog_15_method_2_code 196 = .ok (.ireturn, 1) := by decide +kernel
theorem pn_0 : plainName "com/example/strict_xslt/strictxslt/XmlNames" = true := by first | (simp [plainName, overriddenIn]; done) | decide +kernel
theorem pn_1 : plainName "com/example/strict_xslt/strictxslt/XmlNamesIsNameStartPinLaw" = true := by first | (simp [plainName, overriddenIn]; done) | decide +kernel
theorem pd_2 : parseMethodDescriptor "(I)Z" = some ⟨[.int], some .boolean⟩ := by decide +kernel
def own_in (z : Int32) : Prop := (¬ (z < (65 : Int32)) ∧ ¬ ((90 : Int32) < z)) ∨ z = (95 : Int32) ∨ (¬ (z < (97 : Int32)) ∧ ¬ ((122 : Int32) < z)) ∨ (¬ (z < (192 : Int32)) ∧ ¬ ((214 : Int32) < z)) ∨ (¬ (z < (216 : Int32)) ∧ ¬ ((246 : Int32) < z)) ∨ (¬ (z < (248 : Int32)) ∧ ¬ ((767 : Int32) < z)) ∨ (¬ (z < (880 : Int32)) ∧ ¬ ((893 : Int32) < z)) ∨ (¬ (z < (895 : Int32)) ∧ ¬ ((8191 : Int32) < z)) ∨ (¬ (z < (8204 : Int32)) ∧ ¬ ((8205 : Int32) < z)) ∨ (¬ (z < (8304 : Int32)) ∧ ¬ ((8591 : Int32) < z)) ∨ (¬ (z < (11264 : Int32)) ∧ ¬ ((12271 : Int32) < z)) ∨ (¬ (z < (12289 : Int32)) ∧ ¬ ((55295 : Int32) < z)) ∨ (¬ (z < (63744 : Int32)) ∧ ¬ ((64975 : Int32) < z)) ∨ (¬ (z < (65008 : Int32)) ∧ ¬ ((65533 : Int32) < z)) ∨ (¬ (z < (65536 : Int32)) ∧ ¬ ((983039 : Int32) < z))
instance (z : Int32) : Decidable (own_in z) := by unfold own_in; infer_instance
theorem ef_1 (m : MethodId) (x0 : Int32) : entryFrame m #[(.int x0)] 1 = mkF m 0 #[.val (.int x0)] [] := by first | (simp [entryFrame, mkF, argsToLocals, Value.category]; done) | rfl
def Q1 (Z : State) (p1 : Int32) (h0 : Heap) (n0 : Nat) (v : Option Value) (h : Heap) (L : List Loc) : Prop := v = some (.int (if own_in p1 then 1 else 0)) ∧ Fr n0 L ∧ h = h0
set_option maxRecDepth 65536 in
set_option maxHeartbeats 40000000 in
theorem rm1 (l : Launch) (Z : State) (a0 : Array Value) (hw : ∀ d ∈ tables_1, d.before a0 Z = true) (ws : List Jvm.Cond) (p1 : Int32) (h0 : Heap) (n0 : Nat) (Z0 : n0 ≤ h0.size)  :
    MetFree l (⟨"com/example/strict_xslt/strictxslt/XmlNames", "isNameStart", "(I)Z"⟩ : MethodName) (head1 (Jvm.Cond.code (⟨"com/example/strict_xslt/strictxslt/XmlNames", "isNameStart", "(I)Z"⟩ : MethodName) prog_15_method_2_code 1 (some .boolean) :: ws) ({ frames := 0, cells := 0, slots := 0, locals := 0 } : Room)) (fun a U => a = #[(.int p1)] ∧ Z.Warmed39 U.vm ∧ U.heap = h0) (fun _ _ _ _ _ => True) (fun _ U o U' => ∃ v L, o = .returned v ∧ Q1 Z p1 h0 n0 v U'.heap L ∧ FrameEnd U o U' L ({ frames := 0, cells := 0, slots := 0, locals := 0 } : Room).cells ({ frames := 0, cells := 0, slots := 0, locals := 0 } : Room).slots) := by
  refine MetFree.of_bodySF (plainFor_of_name pn_0) hisR ?_
  intro p e s m args below meth c s₁ Bd hml0 hP hK
  obtain ⟨rfl, hZ, hh⟩ := hP
  have hx := Bd.exec
  have hby := Bd.bytes
  have hml : c.maxLocals = 1 := hml0
  have hown : s.vm.findClass "com/example/strict_xslt/strictxslt/XmlNames" = some m.cls := findClass_of_methodNamed Bd.named
  have hnm := (name_of_methodNamed Bd.named Bd.method).1
  have hlocks : meth.locks = false := BodyLoose.notSynchronized Bd
  have X0 : Stand p l e ({ frames := 0, cells := 0, slots := 0, locals := 0 } : Room) s m #[(.int p1)] below meth c s₁ [] 0 0 := Stand.of_body Bd
  have e0 : s₁.heap = h0 := by rw [← hh, Bd.state]; rfl
  have N0 := Fr.nil n0
  show Goes p e below (s₁.setTop (entryFrame m #[(.int p1)] 1)) (Fin s (Q1 Z p1 h0 n0) ({ frames := 0, cells := 0, slots := 0, locals := 0 } : Room).cells ({ frames := 0, cells := 0, slots := 0, locals := 0 } : Room).slots)
  refine Goes.of (fun t k => castTop (ef_1 m p1) k) ?_
  show Goes p e below (s₁.setTop (mkF m 0 #[.val (.int p1)] [])) _
  have yes : own_in p1 → Goes p e below (s₁.setTop (mkF m 191 #[.val (.int p1)] [])) (Fin s (Q1 Z p1 h0 n0) ({ frames := 0, cells := 0, slots := 0, locals := 0 } : Room).cells ({ frames := 0, cells := 0, slots := 0, locals := 0 } : Room).slots) := by
    intro hy
    show Goes p e below (s₁.setTop (mkF m 191 #[.val (.int p1)] [])) _
    refine Goes.of (fun t k => XS.iconst X0.here hx rfl (hb hby d1_191) k) ?_
    show Goes p e below (s₁.setTop (mkF m 192 #[.val (.int p1)] [(.int (1 : Int32))])) _
    refine Goes.of (fun t k => XS.goto X0.here hx rfl (pc0 := 192) (pc' := 196) rfl (hb hby d1_192) (by decide) (by decide) k) ?_
    show Goes p e below (s₁.setTop (mkF m 196 #[.val (.int p1)] [(.int (1 : Int32))])) _
    exact Goes.retN (t := .boolean) X0 hx Bd.returns (by simp) hlocks (hb hby d1_196) (⟨by rw [if_pos hy]; rfl, N0, e0⟩) (by decide) (by decide)
  have no : ¬ own_in p1 → Goes p e below (s₁.setTop (mkF m 195 #[.val (.int p1)] [])) (Fin s (Q1 Z p1 h0 n0) ({ frames := 0, cells := 0, slots := 0, locals := 0 } : Room).cells ({ frames := 0, cells := 0, slots := 0, locals := 0 } : Room).slots) := by
    intro hy
    show Goes p e below (s₁.setTop (mkF m 195 #[.val (.int p1)] [])) _
    refine Goes.of (fun t k => XS.iconst X0.here hx rfl (hb hby d1_195) k) ?_
    show Goes p e below (s₁.setTop (mkF m 196 #[.val (.int p1)] [(.int (0 : Int32))])) _
    exact Goes.retN (t := .boolean) X0 hx Bd.returns (by simp) hlocks (hb hby d1_196) (⟨by rw [if_neg hy]; rfl, N0, e0⟩) (by decide) (by decide)
  have blk14 : ¬ (¬ (p1 < (65 : Int32)) ∧ ¬ ((90 : Int32) < p1)) → ¬ (p1 = (95 : Int32)) → ¬ (¬ (p1 < (97 : Int32)) ∧ ¬ ((122 : Int32) < p1)) → ¬ (¬ (p1 < (192 : Int32)) ∧ ¬ ((214 : Int32) < p1)) → ¬ (¬ (p1 < (216 : Int32)) ∧ ¬ ((246 : Int32) < p1)) → ¬ (¬ (p1 < (248 : Int32)) ∧ ¬ ((767 : Int32) < p1)) → ¬ (¬ (p1 < (880 : Int32)) ∧ ¬ ((893 : Int32) < p1)) → ¬ (¬ (p1 < (895 : Int32)) ∧ ¬ ((8191 : Int32) < p1)) → ¬ (¬ (p1 < (8204 : Int32)) ∧ ¬ ((8205 : Int32) < p1)) → ¬ (¬ (p1 < (8304 : Int32)) ∧ ¬ ((8591 : Int32) < p1)) → ¬ (¬ (p1 < (11264 : Int32)) ∧ ¬ ((12271 : Int32) < p1)) → ¬ (¬ (p1 < (12289 : Int32)) ∧ ¬ ((55295 : Int32) < p1)) → ¬ (¬ (p1 < (63744 : Int32)) ∧ ¬ ((64975 : Int32) < p1)) → ¬ (¬ (p1 < (65008 : Int32)) ∧ ¬ ((65533 : Int32) < p1)) → Goes p e below (s₁.setTop (mkF m 179 #[.val (.int p1)] [])) (Fin s (Q1 Z p1 h0 n0) ({ frames := 0, cells := 0, slots := 0, locals := 0 } : Room).cells ({ frames := 0, cells := 0, slots := 0, locals := 0 } : Room).slots) := by
    intro m0 m1 m2 m3 m4 m5 m6 m7 m8 m9 m10 m11 m12 m13
    show Goes p e below (s₁.setTop (mkF m 179 #[.val (.int p1)] [])) _
    refine Goes.of (fun t k => XS.iloadN X0.here hx rfl (hb hby d1_179) rfl k) ?_
    show Goes p e below (s₁.setTop (mkF m 180 #[.val (.int p1)] [(.int p1)])) _
    refine Goes.of (fun t k => X0.ldcInt hx hown (mvT hZ (wd hw 15 rfl)) (g := (mkF m 180 #[.val (.int p1)] [(.int p1)])) rfl (hb hby d1_180) _ k) ?_
    show Goes p e below (s₁.setTop (mkF m 182 #[.val (.int p1)] [(.int (65536 : Int32)), (.int p1)])) _
    by_cases hc182_1 : p1 < (65536 : Int32)
    · refine Goes.of (fun t k => XS.icmpYes X0.here hx rfl (pc0 := 182) (pc' := 195) rfl (hb hby d1_182) rfl (tlt hc182_1).1 (by decide) (by decide) k) ?_
      show Goes p e below (s₁.setTop (mkF m 195 #[.val (.int p1)] [])) _
      refine no ?_
      intro hy
      rcases hy with hy | hy | hy | hy | hy | hy | hy | hy | hy | hy | hy | hy | hy | hy | hy
      · exact m0 hy
      · exact m1 hy
      · exact m2 hy
      · exact m3 hy
      · exact m4 hy
      · exact m5 hy
      · exact m6 hy
      · exact m7 hy
      · exact m8 hy
      · exact m9 hy
      · exact m10 hy
      · exact m11 hy
      · exact m12 hy
      · exact m13 hy
      · exact (fun q => q.1 hc182_1) hy
    · refine Goes.of (fun t k => XS.icmpNo X0.here hx rfl (hb hby d1_182) rfl (flt hc182_1).1 k) ?_
      show Goes p e below (s₁.setTop (mkF m 185 #[.val (.int p1)] [])) _
      refine Goes.of (fun t k => XS.iloadN X0.here hx rfl (hb hby d1_185) rfl k) ?_
      show Goes p e below (s₁.setTop (mkF m 186 #[.val (.int p1)] [(.int p1)])) _
      refine Goes.of (fun t k => X0.ldcInt hx hown (mvT hZ (wd hw 19 rfl)) (g := (mkF m 186 #[.val (.int p1)] [(.int p1)])) rfl (hb hby d1_186) _ k) ?_
      show Goes p e below (s₁.setTop (mkF m 188 #[.val (.int p1)] [(.int (983039 : Int32)), (.int p1)])) _
      by_cases hc188_2 : (983039 : Int32) < p1
      · refine Goes.of (fun t k => XS.icmpYes X0.here hx rfl (pc0 := 188) (pc' := 195) rfl (hb hby d1_188) rfl (tlt hc188_2).2.2.1 (by decide) (by decide) k) ?_
        show Goes p e below (s₁.setTop (mkF m 195 #[.val (.int p1)] [])) _
        refine no ?_
        intro hy
        rcases hy with hy | hy | hy | hy | hy | hy | hy | hy | hy | hy | hy | hy | hy | hy | hy
        · exact m0 hy
        · exact m1 hy
        · exact m2 hy
        · exact m3 hy
        · exact m4 hy
        · exact m5 hy
        · exact m6 hy
        · exact m7 hy
        · exact m8 hy
        · exact m9 hy
        · exact m10 hy
        · exact m11 hy
        · exact m12 hy
        · exact m13 hy
        · exact (fun q => q.2 hc188_2) hy
      · refine Goes.of (fun t k => XS.icmpNo X0.here hx rfl (hb hby d1_188) rfl (flt hc188_2).2.2.1 k) ?_
        show Goes p e below (s₁.setTop (mkF m 191 #[.val (.int p1)] [])) _
        exact (yes (Or.inr (Or.inr (Or.inr (Or.inr (Or.inr (Or.inr (Or.inr (Or.inr (Or.inr (Or.inr (Or.inr (Or.inr (Or.inr (Or.inr (⟨hc182_1, hc188_2⟩))))))))))))))))
  have blk13 : ¬ (¬ (p1 < (65 : Int32)) ∧ ¬ ((90 : Int32) < p1)) → ¬ (p1 = (95 : Int32)) → ¬ (¬ (p1 < (97 : Int32)) ∧ ¬ ((122 : Int32) < p1)) → ¬ (¬ (p1 < (192 : Int32)) ∧ ¬ ((214 : Int32) < p1)) → ¬ (¬ (p1 < (216 : Int32)) ∧ ¬ ((246 : Int32) < p1)) → ¬ (¬ (p1 < (248 : Int32)) ∧ ¬ ((767 : Int32) < p1)) → ¬ (¬ (p1 < (880 : Int32)) ∧ ¬ ((893 : Int32) < p1)) → ¬ (¬ (p1 < (895 : Int32)) ∧ ¬ ((8191 : Int32) < p1)) → ¬ (¬ (p1 < (8204 : Int32)) ∧ ¬ ((8205 : Int32) < p1)) → ¬ (¬ (p1 < (8304 : Int32)) ∧ ¬ ((8591 : Int32) < p1)) → ¬ (¬ (p1 < (11264 : Int32)) ∧ ¬ ((12271 : Int32) < p1)) → ¬ (¬ (p1 < (12289 : Int32)) ∧ ¬ ((55295 : Int32) < p1)) → ¬ (¬ (p1 < (63744 : Int32)) ∧ ¬ ((64975 : Int32) < p1)) → Goes p e below (s₁.setTop (mkF m 167 #[.val (.int p1)] [])) (Fin s (Q1 Z p1 h0 n0) ({ frames := 0, cells := 0, slots := 0, locals := 0 } : Room).cells ({ frames := 0, cells := 0, slots := 0, locals := 0 } : Room).slots) := by
    intro m0 m1 m2 m3 m4 m5 m6 m7 m8 m9 m10 m11 m12
    show Goes p e below (s₁.setTop (mkF m 167 #[.val (.int p1)] [])) _
    refine Goes.of (fun t k => XS.iloadN X0.here hx rfl (hb hby d1_167) rfl k) ?_
    show Goes p e below (s₁.setTop (mkF m 168 #[.val (.int p1)] [(.int p1)])) _
    refine Goes.of (fun t k => X0.ldcInt hx hown (mvT hZ (wd hw 14 rfl)) (g := (mkF m 168 #[.val (.int p1)] [(.int p1)])) rfl (hb hby d1_168) _ k) ?_
    show Goes p e below (s₁.setTop (mkF m 170 #[.val (.int p1)] [(.int (65008 : Int32)), (.int p1)])) _
    by_cases hc170_3 : p1 < (65008 : Int32)
    · refine Goes.of (fun t k => XS.icmpYes X0.here hx rfl (pc0 := 170) (pc' := 179) rfl (hb hby d1_170) rfl (tlt hc170_3).1 (by decide) (by decide) k) ?_
      show Goes p e below (s₁.setTop (mkF m 179 #[.val (.int p1)] [])) _
      exact blk14 m0 m1 m2 m3 m4 m5 m6 m7 m8 m9 m10 m11 m12 (fun q => q.1 hc170_3)
    · refine Goes.of (fun t k => XS.icmpNo X0.here hx rfl (hb hby d1_170) rfl (flt hc170_3).1 k) ?_
      show Goes p e below (s₁.setTop (mkF m 173 #[.val (.int p1)] [])) _
      refine Goes.of (fun t k => XS.iloadN X0.here hx rfl (hb hby d1_173) rfl k) ?_
      show Goes p e below (s₁.setTop (mkF m 174 #[.val (.int p1)] [(.int p1)])) _
      refine Goes.of (fun t k => X0.ldcInt hx hown (mvT hZ (wd hw 18 rfl)) (g := (mkF m 174 #[.val (.int p1)] [(.int p1)])) rfl (hb hby d1_174) _ k) ?_
      show Goes p e below (s₁.setTop (mkF m 176 #[.val (.int p1)] [(.int (65533 : Int32)), (.int p1)])) _
      by_cases hc176_4 : (65533 : Int32) < p1
      · refine Goes.of (fun t k => XS.icmpNo X0.here hx rfl (hb hby d1_176) rfl (tlt hc176_4).2.2.2 k) ?_
        show Goes p e below (s₁.setTop (mkF m 179 #[.val (.int p1)] [])) _
        exact blk14 m0 m1 m2 m3 m4 m5 m6 m7 m8 m9 m10 m11 m12 (fun q => q.2 hc176_4)
      · refine Goes.of (fun t k => XS.icmpYes X0.here hx rfl (pc0 := 176) (pc' := 191) rfl (hb hby d1_176) rfl (flt hc176_4).2.2.2 (by decide) (by decide) k) ?_
        show Goes p e below (s₁.setTop (mkF m 191 #[.val (.int p1)] [])) _
        exact (yes (Or.inr (Or.inr (Or.inr (Or.inr (Or.inr (Or.inr (Or.inr (Or.inr (Or.inr (Or.inr (Or.inr (Or.inr (Or.inr (Or.inl ⟨hc170_3, hc176_4⟩)))))))))))))))
  have blk12 : ¬ (¬ (p1 < (65 : Int32)) ∧ ¬ ((90 : Int32) < p1)) → ¬ (p1 = (95 : Int32)) → ¬ (¬ (p1 < (97 : Int32)) ∧ ¬ ((122 : Int32) < p1)) → ¬ (¬ (p1 < (192 : Int32)) ∧ ¬ ((214 : Int32) < p1)) → ¬ (¬ (p1 < (216 : Int32)) ∧ ¬ ((246 : Int32) < p1)) → ¬ (¬ (p1 < (248 : Int32)) ∧ ¬ ((767 : Int32) < p1)) → ¬ (¬ (p1 < (880 : Int32)) ∧ ¬ ((893 : Int32) < p1)) → ¬ (¬ (p1 < (895 : Int32)) ∧ ¬ ((8191 : Int32) < p1)) → ¬ (¬ (p1 < (8204 : Int32)) ∧ ¬ ((8205 : Int32) < p1)) → ¬ (¬ (p1 < (8304 : Int32)) ∧ ¬ ((8591 : Int32) < p1)) → ¬ (¬ (p1 < (11264 : Int32)) ∧ ¬ ((12271 : Int32) < p1)) → ¬ (¬ (p1 < (12289 : Int32)) ∧ ¬ ((55295 : Int32) < p1)) → Goes p e below (s₁.setTop (mkF m 155 #[.val (.int p1)] [])) (Fin s (Q1 Z p1 h0 n0) ({ frames := 0, cells := 0, slots := 0, locals := 0 } : Room).cells ({ frames := 0, cells := 0, slots := 0, locals := 0 } : Room).slots) := by
    intro m0 m1 m2 m3 m4 m5 m6 m7 m8 m9 m10 m11
    show Goes p e below (s₁.setTop (mkF m 155 #[.val (.int p1)] [])) _
    refine Goes.of (fun t k => XS.iloadN X0.here hx rfl (hb hby d1_155) rfl k) ?_
    show Goes p e below (s₁.setTop (mkF m 156 #[.val (.int p1)] [(.int p1)])) _
    refine Goes.of (fun t k => X0.ldcInt hx hown (mvT hZ (wd hw 13 rfl)) (g := (mkF m 156 #[.val (.int p1)] [(.int p1)])) rfl (hb hby d1_156) _ k) ?_
    show Goes p e below (s₁.setTop (mkF m 158 #[.val (.int p1)] [(.int (63744 : Int32)), (.int p1)])) _
    by_cases hc158_5 : p1 < (63744 : Int32)
    · refine Goes.of (fun t k => XS.icmpYes X0.here hx rfl (pc0 := 158) (pc' := 167) rfl (hb hby d1_158) rfl (tlt hc158_5).1 (by decide) (by decide) k) ?_
      show Goes p e below (s₁.setTop (mkF m 167 #[.val (.int p1)] [])) _
      exact blk13 m0 m1 m2 m3 m4 m5 m6 m7 m8 m9 m10 m11 (fun q => q.1 hc158_5)
    · refine Goes.of (fun t k => XS.icmpNo X0.here hx rfl (hb hby d1_158) rfl (flt hc158_5).1 k) ?_
      show Goes p e below (s₁.setTop (mkF m 161 #[.val (.int p1)] [])) _
      refine Goes.of (fun t k => XS.iloadN X0.here hx rfl (hb hby d1_161) rfl k) ?_
      show Goes p e below (s₁.setTop (mkF m 162 #[.val (.int p1)] [(.int p1)])) _
      refine Goes.of (fun t k => X0.ldcInt hx hown (mvT hZ (wd hw 17 rfl)) (g := (mkF m 162 #[.val (.int p1)] [(.int p1)])) rfl (hb hby d1_162) _ k) ?_
      show Goes p e below (s₁.setTop (mkF m 164 #[.val (.int p1)] [(.int (64975 : Int32)), (.int p1)])) _
      by_cases hc164_6 : (64975 : Int32) < p1
      · refine Goes.of (fun t k => XS.icmpNo X0.here hx rfl (hb hby d1_164) rfl (tlt hc164_6).2.2.2 k) ?_
        show Goes p e below (s₁.setTop (mkF m 167 #[.val (.int p1)] [])) _
        exact blk13 m0 m1 m2 m3 m4 m5 m6 m7 m8 m9 m10 m11 (fun q => q.2 hc164_6)
      · refine Goes.of (fun t k => XS.icmpYes X0.here hx rfl (pc0 := 164) (pc' := 191) rfl (hb hby d1_164) rfl (flt hc164_6).2.2.2 (by decide) (by decide) k) ?_
        show Goes p e below (s₁.setTop (mkF m 191 #[.val (.int p1)] [])) _
        exact (yes (Or.inr (Or.inr (Or.inr (Or.inr (Or.inr (Or.inr (Or.inr (Or.inr (Or.inr (Or.inr (Or.inr (Or.inr (Or.inl ⟨hc158_5, hc164_6⟩))))))))))))))
  have blk11 : ¬ (¬ (p1 < (65 : Int32)) ∧ ¬ ((90 : Int32) < p1)) → ¬ (p1 = (95 : Int32)) → ¬ (¬ (p1 < (97 : Int32)) ∧ ¬ ((122 : Int32) < p1)) → ¬ (¬ (p1 < (192 : Int32)) ∧ ¬ ((214 : Int32) < p1)) → ¬ (¬ (p1 < (216 : Int32)) ∧ ¬ ((246 : Int32) < p1)) → ¬ (¬ (p1 < (248 : Int32)) ∧ ¬ ((767 : Int32) < p1)) → ¬ (¬ (p1 < (880 : Int32)) ∧ ¬ ((893 : Int32) < p1)) → ¬ (¬ (p1 < (895 : Int32)) ∧ ¬ ((8191 : Int32) < p1)) → ¬ (¬ (p1 < (8204 : Int32)) ∧ ¬ ((8205 : Int32) < p1)) → ¬ (¬ (p1 < (8304 : Int32)) ∧ ¬ ((8591 : Int32) < p1)) → ¬ (¬ (p1 < (11264 : Int32)) ∧ ¬ ((12271 : Int32) < p1)) → Goes p e below (s₁.setTop (mkF m 142 #[.val (.int p1)] [])) (Fin s (Q1 Z p1 h0 n0) ({ frames := 0, cells := 0, slots := 0, locals := 0 } : Room).cells ({ frames := 0, cells := 0, slots := 0, locals := 0 } : Room).slots) := by
    intro m0 m1 m2 m3 m4 m5 m6 m7 m8 m9 m10
    show Goes p e below (s₁.setTop (mkF m 142 #[.val (.int p1)] [])) _
    refine Goes.of (fun t k => XS.iloadN X0.here hx rfl (hb hby d1_142) rfl k) ?_
    show Goes p e below (s₁.setTop (mkF m 143 #[.val (.int p1)] [(.int p1)])) _
    refine Goes.of (fun t k => XS.sipush X0.here hx rfl (hb hby d1_143) k) ?_
    show Goes p e below (s₁.setTop (mkF m 146 #[.val (.int p1)] [(.int (12289 : Int32)), (.int p1)])) _
    by_cases hc146_7 : p1 < (12289 : Int32)
    · refine Goes.of (fun t k => XS.icmpYes X0.here hx rfl (pc0 := 146) (pc' := 155) rfl (hb hby d1_146) rfl (tlt hc146_7).1 (by decide) (by decide) k) ?_
      show Goes p e below (s₁.setTop (mkF m 155 #[.val (.int p1)] [])) _
      exact blk12 m0 m1 m2 m3 m4 m5 m6 m7 m8 m9 m10 (fun q => q.1 hc146_7)
    · refine Goes.of (fun t k => XS.icmpNo X0.here hx rfl (hb hby d1_146) rfl (flt hc146_7).1 k) ?_
      show Goes p e below (s₁.setTop (mkF m 149 #[.val (.int p1)] [])) _
      refine Goes.of (fun t k => XS.iloadN X0.here hx rfl (hb hby d1_149) rfl k) ?_
      show Goes p e below (s₁.setTop (mkF m 150 #[.val (.int p1)] [(.int p1)])) _
      refine Goes.of (fun t k => X0.ldcInt hx hown (mvT hZ (wd hw 16 rfl)) (g := (mkF m 150 #[.val (.int p1)] [(.int p1)])) rfl (hb hby d1_150) _ k) ?_
      show Goes p e below (s₁.setTop (mkF m 152 #[.val (.int p1)] [(.int (55295 : Int32)), (.int p1)])) _
      by_cases hc152_8 : (55295 : Int32) < p1
      · refine Goes.of (fun t k => XS.icmpNo X0.here hx rfl (hb hby d1_152) rfl (tlt hc152_8).2.2.2 k) ?_
        show Goes p e below (s₁.setTop (mkF m 155 #[.val (.int p1)] [])) _
        exact blk12 m0 m1 m2 m3 m4 m5 m6 m7 m8 m9 m10 (fun q => q.2 hc152_8)
      · refine Goes.of (fun t k => XS.icmpYes X0.here hx rfl (pc0 := 152) (pc' := 191) rfl (hb hby d1_152) rfl (flt hc152_8).2.2.2 (by decide) (by decide) k) ?_
        show Goes p e below (s₁.setTop (mkF m 191 #[.val (.int p1)] [])) _
        exact (yes (Or.inr (Or.inr (Or.inr (Or.inr (Or.inr (Or.inr (Or.inr (Or.inr (Or.inr (Or.inr (Or.inr (Or.inl ⟨hc146_7, hc152_8⟩)))))))))))))
  have blk10 : ¬ (¬ (p1 < (65 : Int32)) ∧ ¬ ((90 : Int32) < p1)) → ¬ (p1 = (95 : Int32)) → ¬ (¬ (p1 < (97 : Int32)) ∧ ¬ ((122 : Int32) < p1)) → ¬ (¬ (p1 < (192 : Int32)) ∧ ¬ ((214 : Int32) < p1)) → ¬ (¬ (p1 < (216 : Int32)) ∧ ¬ ((246 : Int32) < p1)) → ¬ (¬ (p1 < (248 : Int32)) ∧ ¬ ((767 : Int32) < p1)) → ¬ (¬ (p1 < (880 : Int32)) ∧ ¬ ((893 : Int32) < p1)) → ¬ (¬ (p1 < (895 : Int32)) ∧ ¬ ((8191 : Int32) < p1)) → ¬ (¬ (p1 < (8204 : Int32)) ∧ ¬ ((8205 : Int32) < p1)) → ¬ (¬ (p1 < (8304 : Int32)) ∧ ¬ ((8591 : Int32) < p1)) → Goes p e below (s₁.setTop (mkF m 128 #[.val (.int p1)] [])) (Fin s (Q1 Z p1 h0 n0) ({ frames := 0, cells := 0, slots := 0, locals := 0 } : Room).cells ({ frames := 0, cells := 0, slots := 0, locals := 0 } : Room).slots) := by
    intro m0 m1 m2 m3 m4 m5 m6 m7 m8 m9
    show Goes p e below (s₁.setTop (mkF m 128 #[.val (.int p1)] [])) _
    refine Goes.of (fun t k => XS.iloadN X0.here hx rfl (hb hby d1_128) rfl k) ?_
    show Goes p e below (s₁.setTop (mkF m 129 #[.val (.int p1)] [(.int p1)])) _
    refine Goes.of (fun t k => XS.sipush X0.here hx rfl (hb hby d1_129) k) ?_
    show Goes p e below (s₁.setTop (mkF m 132 #[.val (.int p1)] [(.int (11264 : Int32)), (.int p1)])) _
    by_cases hc132_9 : p1 < (11264 : Int32)
    · refine Goes.of (fun t k => XS.icmpYes X0.here hx rfl (pc0 := 132) (pc' := 142) rfl (hb hby d1_132) rfl (tlt hc132_9).1 (by decide) (by decide) k) ?_
      show Goes p e below (s₁.setTop (mkF m 142 #[.val (.int p1)] [])) _
      exact blk11 m0 m1 m2 m3 m4 m5 m6 m7 m8 m9 (fun q => q.1 hc132_9)
    · refine Goes.of (fun t k => XS.icmpNo X0.here hx rfl (hb hby d1_132) rfl (flt hc132_9).1 k) ?_
      show Goes p e below (s₁.setTop (mkF m 135 #[.val (.int p1)] [])) _
      refine Goes.of (fun t k => XS.iloadN X0.here hx rfl (hb hby d1_135) rfl k) ?_
      show Goes p e below (s₁.setTop (mkF m 136 #[.val (.int p1)] [(.int p1)])) _
      refine Goes.of (fun t k => XS.sipush X0.here hx rfl (hb hby d1_136) k) ?_
      show Goes p e below (s₁.setTop (mkF m 139 #[.val (.int p1)] [(.int (12271 : Int32)), (.int p1)])) _
      by_cases hc139_10 : (12271 : Int32) < p1
      · refine Goes.of (fun t k => XS.icmpNo X0.here hx rfl (hb hby d1_139) rfl (tlt hc139_10).2.2.2 k) ?_
        show Goes p e below (s₁.setTop (mkF m 142 #[.val (.int p1)] [])) _
        exact blk11 m0 m1 m2 m3 m4 m5 m6 m7 m8 m9 (fun q => q.2 hc139_10)
      · refine Goes.of (fun t k => XS.icmpYes X0.here hx rfl (pc0 := 139) (pc' := 191) rfl (hb hby d1_139) rfl (flt hc139_10).2.2.2 (by decide) (by decide) k) ?_
        show Goes p e below (s₁.setTop (mkF m 191 #[.val (.int p1)] [])) _
        exact (yes (Or.inr (Or.inr (Or.inr (Or.inr (Or.inr (Or.inr (Or.inr (Or.inr (Or.inr (Or.inr (Or.inl ⟨hc132_9, hc139_10⟩))))))))))))
  have blk9 : ¬ (¬ (p1 < (65 : Int32)) ∧ ¬ ((90 : Int32) < p1)) → ¬ (p1 = (95 : Int32)) → ¬ (¬ (p1 < (97 : Int32)) ∧ ¬ ((122 : Int32) < p1)) → ¬ (¬ (p1 < (192 : Int32)) ∧ ¬ ((214 : Int32) < p1)) → ¬ (¬ (p1 < (216 : Int32)) ∧ ¬ ((246 : Int32) < p1)) → ¬ (¬ (p1 < (248 : Int32)) ∧ ¬ ((767 : Int32) < p1)) → ¬ (¬ (p1 < (880 : Int32)) ∧ ¬ ((893 : Int32) < p1)) → ¬ (¬ (p1 < (895 : Int32)) ∧ ¬ ((8191 : Int32) < p1)) → ¬ (¬ (p1 < (8204 : Int32)) ∧ ¬ ((8205 : Int32) < p1)) → Goes p e below (s₁.setTop (mkF m 114 #[.val (.int p1)] [])) (Fin s (Q1 Z p1 h0 n0) ({ frames := 0, cells := 0, slots := 0, locals := 0 } : Room).cells ({ frames := 0, cells := 0, slots := 0, locals := 0 } : Room).slots) := by
    intro m0 m1 m2 m3 m4 m5 m6 m7 m8
    show Goes p e below (s₁.setTop (mkF m 114 #[.val (.int p1)] [])) _
    refine Goes.of (fun t k => XS.iloadN X0.here hx rfl (hb hby d1_114) rfl k) ?_
    show Goes p e below (s₁.setTop (mkF m 115 #[.val (.int p1)] [(.int p1)])) _
    refine Goes.of (fun t k => XS.sipush X0.here hx rfl (hb hby d1_115) k) ?_
    show Goes p e below (s₁.setTop (mkF m 118 #[.val (.int p1)] [(.int (8304 : Int32)), (.int p1)])) _
    by_cases hc118_11 : p1 < (8304 : Int32)
    · refine Goes.of (fun t k => XS.icmpYes X0.here hx rfl (pc0 := 118) (pc' := 128) rfl (hb hby d1_118) rfl (tlt hc118_11).1 (by decide) (by decide) k) ?_
      show Goes p e below (s₁.setTop (mkF m 128 #[.val (.int p1)] [])) _
      exact blk10 m0 m1 m2 m3 m4 m5 m6 m7 m8 (fun q => q.1 hc118_11)
    · refine Goes.of (fun t k => XS.icmpNo X0.here hx rfl (hb hby d1_118) rfl (flt hc118_11).1 k) ?_
      show Goes p e below (s₁.setTop (mkF m 121 #[.val (.int p1)] [])) _
      refine Goes.of (fun t k => XS.iloadN X0.here hx rfl (hb hby d1_121) rfl k) ?_
      show Goes p e below (s₁.setTop (mkF m 122 #[.val (.int p1)] [(.int p1)])) _
      refine Goes.of (fun t k => XS.sipush X0.here hx rfl (hb hby d1_122) k) ?_
      show Goes p e below (s₁.setTop (mkF m 125 #[.val (.int p1)] [(.int (8591 : Int32)), (.int p1)])) _
      by_cases hc125_12 : (8591 : Int32) < p1
      · refine Goes.of (fun t k => XS.icmpNo X0.here hx rfl (hb hby d1_125) rfl (tlt hc125_12).2.2.2 k) ?_
        show Goes p e below (s₁.setTop (mkF m 128 #[.val (.int p1)] [])) _
        exact blk10 m0 m1 m2 m3 m4 m5 m6 m7 m8 (fun q => q.2 hc125_12)
      · refine Goes.of (fun t k => XS.icmpYes X0.here hx rfl (pc0 := 125) (pc' := 191) rfl (hb hby d1_125) rfl (flt hc125_12).2.2.2 (by decide) (by decide) k) ?_
        show Goes p e below (s₁.setTop (mkF m 191 #[.val (.int p1)] [])) _
        exact (yes (Or.inr (Or.inr (Or.inr (Or.inr (Or.inr (Or.inr (Or.inr (Or.inr (Or.inr (Or.inl ⟨hc118_11, hc125_12⟩)))))))))))
  have blk8 : ¬ (¬ (p1 < (65 : Int32)) ∧ ¬ ((90 : Int32) < p1)) → ¬ (p1 = (95 : Int32)) → ¬ (¬ (p1 < (97 : Int32)) ∧ ¬ ((122 : Int32) < p1)) → ¬ (¬ (p1 < (192 : Int32)) ∧ ¬ ((214 : Int32) < p1)) → ¬ (¬ (p1 < (216 : Int32)) ∧ ¬ ((246 : Int32) < p1)) → ¬ (¬ (p1 < (248 : Int32)) ∧ ¬ ((767 : Int32) < p1)) → ¬ (¬ (p1 < (880 : Int32)) ∧ ¬ ((893 : Int32) < p1)) → ¬ (¬ (p1 < (895 : Int32)) ∧ ¬ ((8191 : Int32) < p1)) → Goes p e below (s₁.setTop (mkF m 100 #[.val (.int p1)] [])) (Fin s (Q1 Z p1 h0 n0) ({ frames := 0, cells := 0, slots := 0, locals := 0 } : Room).cells ({ frames := 0, cells := 0, slots := 0, locals := 0 } : Room).slots) := by
    intro m0 m1 m2 m3 m4 m5 m6 m7
    show Goes p e below (s₁.setTop (mkF m 100 #[.val (.int p1)] [])) _
    refine Goes.of (fun t k => XS.iloadN X0.here hx rfl (hb hby d1_100) rfl k) ?_
    show Goes p e below (s₁.setTop (mkF m 101 #[.val (.int p1)] [(.int p1)])) _
    refine Goes.of (fun t k => XS.sipush X0.here hx rfl (hb hby d1_101) k) ?_
    show Goes p e below (s₁.setTop (mkF m 104 #[.val (.int p1)] [(.int (8204 : Int32)), (.int p1)])) _
    by_cases hc104_13 : p1 < (8204 : Int32)
    · refine Goes.of (fun t k => XS.icmpYes X0.here hx rfl (pc0 := 104) (pc' := 114) rfl (hb hby d1_104) rfl (tlt hc104_13).1 (by decide) (by decide) k) ?_
      show Goes p e below (s₁.setTop (mkF m 114 #[.val (.int p1)] [])) _
      exact blk9 m0 m1 m2 m3 m4 m5 m6 m7 (fun q => q.1 hc104_13)
    · refine Goes.of (fun t k => XS.icmpNo X0.here hx rfl (hb hby d1_104) rfl (flt hc104_13).1 k) ?_
      show Goes p e below (s₁.setTop (mkF m 107 #[.val (.int p1)] [])) _
      refine Goes.of (fun t k => XS.iloadN X0.here hx rfl (hb hby d1_107) rfl k) ?_
      show Goes p e below (s₁.setTop (mkF m 108 #[.val (.int p1)] [(.int p1)])) _
      refine Goes.of (fun t k => XS.sipush X0.here hx rfl (hb hby d1_108) k) ?_
      show Goes p e below (s₁.setTop (mkF m 111 #[.val (.int p1)] [(.int (8205 : Int32)), (.int p1)])) _
      by_cases hc111_14 : (8205 : Int32) < p1
      · refine Goes.of (fun t k => XS.icmpNo X0.here hx rfl (hb hby d1_111) rfl (tlt hc111_14).2.2.2 k) ?_
        show Goes p e below (s₁.setTop (mkF m 114 #[.val (.int p1)] [])) _
        exact blk9 m0 m1 m2 m3 m4 m5 m6 m7 (fun q => q.2 hc111_14)
      · refine Goes.of (fun t k => XS.icmpYes X0.here hx rfl (pc0 := 111) (pc' := 191) rfl (hb hby d1_111) rfl (flt hc111_14).2.2.2 (by decide) (by decide) k) ?_
        show Goes p e below (s₁.setTop (mkF m 191 #[.val (.int p1)] [])) _
        exact (yes (Or.inr (Or.inr (Or.inr (Or.inr (Or.inr (Or.inr (Or.inr (Or.inr (Or.inl ⟨hc104_13, hc111_14⟩))))))))))
  have blk7 : ¬ (¬ (p1 < (65 : Int32)) ∧ ¬ ((90 : Int32) < p1)) → ¬ (p1 = (95 : Int32)) → ¬ (¬ (p1 < (97 : Int32)) ∧ ¬ ((122 : Int32) < p1)) → ¬ (¬ (p1 < (192 : Int32)) ∧ ¬ ((214 : Int32) < p1)) → ¬ (¬ (p1 < (216 : Int32)) ∧ ¬ ((246 : Int32) < p1)) → ¬ (¬ (p1 < (248 : Int32)) ∧ ¬ ((767 : Int32) < p1)) → ¬ (¬ (p1 < (880 : Int32)) ∧ ¬ ((893 : Int32) < p1)) → Goes p e below (s₁.setTop (mkF m 86 #[.val (.int p1)] [])) (Fin s (Q1 Z p1 h0 n0) ({ frames := 0, cells := 0, slots := 0, locals := 0 } : Room).cells ({ frames := 0, cells := 0, slots := 0, locals := 0 } : Room).slots) := by
    intro m0 m1 m2 m3 m4 m5 m6
    show Goes p e below (s₁.setTop (mkF m 86 #[.val (.int p1)] [])) _
    refine Goes.of (fun t k => XS.iloadN X0.here hx rfl (hb hby d1_86) rfl k) ?_
    show Goes p e below (s₁.setTop (mkF m 87 #[.val (.int p1)] [(.int p1)])) _
    refine Goes.of (fun t k => XS.sipush X0.here hx rfl (hb hby d1_87) k) ?_
    show Goes p e below (s₁.setTop (mkF m 90 #[.val (.int p1)] [(.int (895 : Int32)), (.int p1)])) _
    by_cases hc90_15 : p1 < (895 : Int32)
    · refine Goes.of (fun t k => XS.icmpYes X0.here hx rfl (pc0 := 90) (pc' := 100) rfl (hb hby d1_90) rfl (tlt hc90_15).1 (by decide) (by decide) k) ?_
      show Goes p e below (s₁.setTop (mkF m 100 #[.val (.int p1)] [])) _
      exact blk8 m0 m1 m2 m3 m4 m5 m6 (fun q => q.1 hc90_15)
    · refine Goes.of (fun t k => XS.icmpNo X0.here hx rfl (hb hby d1_90) rfl (flt hc90_15).1 k) ?_
      show Goes p e below (s₁.setTop (mkF m 93 #[.val (.int p1)] [])) _
      refine Goes.of (fun t k => XS.iloadN X0.here hx rfl (hb hby d1_93) rfl k) ?_
      show Goes p e below (s₁.setTop (mkF m 94 #[.val (.int p1)] [(.int p1)])) _
      refine Goes.of (fun t k => XS.sipush X0.here hx rfl (hb hby d1_94) k) ?_
      show Goes p e below (s₁.setTop (mkF m 97 #[.val (.int p1)] [(.int (8191 : Int32)), (.int p1)])) _
      by_cases hc97_16 : (8191 : Int32) < p1
      · refine Goes.of (fun t k => XS.icmpNo X0.here hx rfl (hb hby d1_97) rfl (tlt hc97_16).2.2.2 k) ?_
        show Goes p e below (s₁.setTop (mkF m 100 #[.val (.int p1)] [])) _
        exact blk8 m0 m1 m2 m3 m4 m5 m6 (fun q => q.2 hc97_16)
      · refine Goes.of (fun t k => XS.icmpYes X0.here hx rfl (pc0 := 97) (pc' := 191) rfl (hb hby d1_97) rfl (flt hc97_16).2.2.2 (by decide) (by decide) k) ?_
        show Goes p e below (s₁.setTop (mkF m 191 #[.val (.int p1)] [])) _
        exact (yes (Or.inr (Or.inr (Or.inr (Or.inr (Or.inr (Or.inr (Or.inr (Or.inl ⟨hc90_15, hc97_16⟩)))))))))
  have blk6 : ¬ (¬ (p1 < (65 : Int32)) ∧ ¬ ((90 : Int32) < p1)) → ¬ (p1 = (95 : Int32)) → ¬ (¬ (p1 < (97 : Int32)) ∧ ¬ ((122 : Int32) < p1)) → ¬ (¬ (p1 < (192 : Int32)) ∧ ¬ ((214 : Int32) < p1)) → ¬ (¬ (p1 < (216 : Int32)) ∧ ¬ ((246 : Int32) < p1)) → ¬ (¬ (p1 < (248 : Int32)) ∧ ¬ ((767 : Int32) < p1)) → Goes p e below (s₁.setTop (mkF m 72 #[.val (.int p1)] [])) (Fin s (Q1 Z p1 h0 n0) ({ frames := 0, cells := 0, slots := 0, locals := 0 } : Room).cells ({ frames := 0, cells := 0, slots := 0, locals := 0 } : Room).slots) := by
    intro m0 m1 m2 m3 m4 m5
    show Goes p e below (s₁.setTop (mkF m 72 #[.val (.int p1)] [])) _
    refine Goes.of (fun t k => XS.iloadN X0.here hx rfl (hb hby d1_72) rfl k) ?_
    show Goes p e below (s₁.setTop (mkF m 73 #[.val (.int p1)] [(.int p1)])) _
    refine Goes.of (fun t k => XS.sipush X0.here hx rfl (hb hby d1_73) k) ?_
    show Goes p e below (s₁.setTop (mkF m 76 #[.val (.int p1)] [(.int (880 : Int32)), (.int p1)])) _
    by_cases hc76_17 : p1 < (880 : Int32)
    · refine Goes.of (fun t k => XS.icmpYes X0.here hx rfl (pc0 := 76) (pc' := 86) rfl (hb hby d1_76) rfl (tlt hc76_17).1 (by decide) (by decide) k) ?_
      show Goes p e below (s₁.setTop (mkF m 86 #[.val (.int p1)] [])) _
      exact blk7 m0 m1 m2 m3 m4 m5 (fun q => q.1 hc76_17)
    · refine Goes.of (fun t k => XS.icmpNo X0.here hx rfl (hb hby d1_76) rfl (flt hc76_17).1 k) ?_
      show Goes p e below (s₁.setTop (mkF m 79 #[.val (.int p1)] [])) _
      refine Goes.of (fun t k => XS.iloadN X0.here hx rfl (hb hby d1_79) rfl k) ?_
      show Goes p e below (s₁.setTop (mkF m 80 #[.val (.int p1)] [(.int p1)])) _
      refine Goes.of (fun t k => XS.sipush X0.here hx rfl (hb hby d1_80) k) ?_
      show Goes p e below (s₁.setTop (mkF m 83 #[.val (.int p1)] [(.int (893 : Int32)), (.int p1)])) _
      by_cases hc83_18 : (893 : Int32) < p1
      · refine Goes.of (fun t k => XS.icmpNo X0.here hx rfl (hb hby d1_83) rfl (tlt hc83_18).2.2.2 k) ?_
        show Goes p e below (s₁.setTop (mkF m 86 #[.val (.int p1)] [])) _
        exact blk7 m0 m1 m2 m3 m4 m5 (fun q => q.2 hc83_18)
      · refine Goes.of (fun t k => XS.icmpYes X0.here hx rfl (pc0 := 83) (pc' := 191) rfl (hb hby d1_83) rfl (flt hc83_18).2.2.2 (by decide) (by decide) k) ?_
        show Goes p e below (s₁.setTop (mkF m 191 #[.val (.int p1)] [])) _
        exact (yes (Or.inr (Or.inr (Or.inr (Or.inr (Or.inr (Or.inr (Or.inl ⟨hc76_17, hc83_18⟩))))))))
  have blk5 : ¬ (¬ (p1 < (65 : Int32)) ∧ ¬ ((90 : Int32) < p1)) → ¬ (p1 = (95 : Int32)) → ¬ (¬ (p1 < (97 : Int32)) ∧ ¬ ((122 : Int32) < p1)) → ¬ (¬ (p1 < (192 : Int32)) ∧ ¬ ((214 : Int32) < p1)) → ¬ (¬ (p1 < (216 : Int32)) ∧ ¬ ((246 : Int32) < p1)) → Goes p e below (s₁.setTop (mkF m 58 #[.val (.int p1)] [])) (Fin s (Q1 Z p1 h0 n0) ({ frames := 0, cells := 0, slots := 0, locals := 0 } : Room).cells ({ frames := 0, cells := 0, slots := 0, locals := 0 } : Room).slots) := by
    intro m0 m1 m2 m3 m4
    show Goes p e below (s₁.setTop (mkF m 58 #[.val (.int p1)] [])) _
    refine Goes.of (fun t k => XS.iloadN X0.here hx rfl (hb hby d1_58) rfl k) ?_
    show Goes p e below (s₁.setTop (mkF m 59 #[.val (.int p1)] [(.int p1)])) _
    refine Goes.of (fun t k => XS.sipush X0.here hx rfl (hb hby d1_59) k) ?_
    show Goes p e below (s₁.setTop (mkF m 62 #[.val (.int p1)] [(.int (248 : Int32)), (.int p1)])) _
    by_cases hc62_19 : p1 < (248 : Int32)
    · refine Goes.of (fun t k => XS.icmpYes X0.here hx rfl (pc0 := 62) (pc' := 72) rfl (hb hby d1_62) rfl (tlt hc62_19).1 (by decide) (by decide) k) ?_
      show Goes p e below (s₁.setTop (mkF m 72 #[.val (.int p1)] [])) _
      exact blk6 m0 m1 m2 m3 m4 (fun q => q.1 hc62_19)
    · refine Goes.of (fun t k => XS.icmpNo X0.here hx rfl (hb hby d1_62) rfl (flt hc62_19).1 k) ?_
      show Goes p e below (s₁.setTop (mkF m 65 #[.val (.int p1)] [])) _
      refine Goes.of (fun t k => XS.iloadN X0.here hx rfl (hb hby d1_65) rfl k) ?_
      show Goes p e below (s₁.setTop (mkF m 66 #[.val (.int p1)] [(.int p1)])) _
      refine Goes.of (fun t k => XS.sipush X0.here hx rfl (hb hby d1_66) k) ?_
      show Goes p e below (s₁.setTop (mkF m 69 #[.val (.int p1)] [(.int (767 : Int32)), (.int p1)])) _
      by_cases hc69_20 : (767 : Int32) < p1
      · refine Goes.of (fun t k => XS.icmpNo X0.here hx rfl (hb hby d1_69) rfl (tlt hc69_20).2.2.2 k) ?_
        show Goes p e below (s₁.setTop (mkF m 72 #[.val (.int p1)] [])) _
        exact blk6 m0 m1 m2 m3 m4 (fun q => q.2 hc69_20)
      · refine Goes.of (fun t k => XS.icmpYes X0.here hx rfl (pc0 := 69) (pc' := 191) rfl (hb hby d1_69) rfl (flt hc69_20).2.2.2 (by decide) (by decide) k) ?_
        show Goes p e below (s₁.setTop (mkF m 191 #[.val (.int p1)] [])) _
        exact (yes (Or.inr (Or.inr (Or.inr (Or.inr (Or.inr (Or.inl ⟨hc62_19, hc69_20⟩)))))))
  have blk4 : ¬ (¬ (p1 < (65 : Int32)) ∧ ¬ ((90 : Int32) < p1)) → ¬ (p1 = (95 : Int32)) → ¬ (¬ (p1 < (97 : Int32)) ∧ ¬ ((122 : Int32) < p1)) → ¬ (¬ (p1 < (192 : Int32)) ∧ ¬ ((214 : Int32) < p1)) → Goes p e below (s₁.setTop (mkF m 44 #[.val (.int p1)] [])) (Fin s (Q1 Z p1 h0 n0) ({ frames := 0, cells := 0, slots := 0, locals := 0 } : Room).cells ({ frames := 0, cells := 0, slots := 0, locals := 0 } : Room).slots) := by
    intro m0 m1 m2 m3
    show Goes p e below (s₁.setTop (mkF m 44 #[.val (.int p1)] [])) _
    refine Goes.of (fun t k => XS.iloadN X0.here hx rfl (hb hby d1_44) rfl k) ?_
    show Goes p e below (s₁.setTop (mkF m 45 #[.val (.int p1)] [(.int p1)])) _
    refine Goes.of (fun t k => XS.sipush X0.here hx rfl (hb hby d1_45) k) ?_
    show Goes p e below (s₁.setTop (mkF m 48 #[.val (.int p1)] [(.int (216 : Int32)), (.int p1)])) _
    by_cases hc48_21 : p1 < (216 : Int32)
    · refine Goes.of (fun t k => XS.icmpYes X0.here hx rfl (pc0 := 48) (pc' := 58) rfl (hb hby d1_48) rfl (tlt hc48_21).1 (by decide) (by decide) k) ?_
      show Goes p e below (s₁.setTop (mkF m 58 #[.val (.int p1)] [])) _
      exact blk5 m0 m1 m2 m3 (fun q => q.1 hc48_21)
    · refine Goes.of (fun t k => XS.icmpNo X0.here hx rfl (hb hby d1_48) rfl (flt hc48_21).1 k) ?_
      show Goes p e below (s₁.setTop (mkF m 51 #[.val (.int p1)] [])) _
      refine Goes.of (fun t k => XS.iloadN X0.here hx rfl (hb hby d1_51) rfl k) ?_
      show Goes p e below (s₁.setTop (mkF m 52 #[.val (.int p1)] [(.int p1)])) _
      refine Goes.of (fun t k => XS.sipush X0.here hx rfl (hb hby d1_52) k) ?_
      show Goes p e below (s₁.setTop (mkF m 55 #[.val (.int p1)] [(.int (246 : Int32)), (.int p1)])) _
      by_cases hc55_22 : (246 : Int32) < p1
      · refine Goes.of (fun t k => XS.icmpNo X0.here hx rfl (hb hby d1_55) rfl (tlt hc55_22).2.2.2 k) ?_
        show Goes p e below (s₁.setTop (mkF m 58 #[.val (.int p1)] [])) _
        exact blk5 m0 m1 m2 m3 (fun q => q.2 hc55_22)
      · refine Goes.of (fun t k => XS.icmpYes X0.here hx rfl (pc0 := 55) (pc' := 191) rfl (hb hby d1_55) rfl (flt hc55_22).2.2.2 (by decide) (by decide) k) ?_
        show Goes p e below (s₁.setTop (mkF m 191 #[.val (.int p1)] [])) _
        exact (yes (Or.inr (Or.inr (Or.inr (Or.inr (Or.inl ⟨hc48_21, hc55_22⟩))))))
  have blk3 : ¬ (¬ (p1 < (65 : Int32)) ∧ ¬ ((90 : Int32) < p1)) → ¬ (p1 = (95 : Int32)) → ¬ (¬ (p1 < (97 : Int32)) ∧ ¬ ((122 : Int32) < p1)) → Goes p e below (s₁.setTop (mkF m 30 #[.val (.int p1)] [])) (Fin s (Q1 Z p1 h0 n0) ({ frames := 0, cells := 0, slots := 0, locals := 0 } : Room).cells ({ frames := 0, cells := 0, slots := 0, locals := 0 } : Room).slots) := by
    intro m0 m1 m2
    show Goes p e below (s₁.setTop (mkF m 30 #[.val (.int p1)] [])) _
    refine Goes.of (fun t k => XS.iloadN X0.here hx rfl (hb hby d1_30) rfl k) ?_
    show Goes p e below (s₁.setTop (mkF m 31 #[.val (.int p1)] [(.int p1)])) _
    refine Goes.of (fun t k => XS.sipush X0.here hx rfl (hb hby d1_31) k) ?_
    show Goes p e below (s₁.setTop (mkF m 34 #[.val (.int p1)] [(.int (192 : Int32)), (.int p1)])) _
    by_cases hc34_23 : p1 < (192 : Int32)
    · refine Goes.of (fun t k => XS.icmpYes X0.here hx rfl (pc0 := 34) (pc' := 44) rfl (hb hby d1_34) rfl (tlt hc34_23).1 (by decide) (by decide) k) ?_
      show Goes p e below (s₁.setTop (mkF m 44 #[.val (.int p1)] [])) _
      exact blk4 m0 m1 m2 (fun q => q.1 hc34_23)
    · refine Goes.of (fun t k => XS.icmpNo X0.here hx rfl (hb hby d1_34) rfl (flt hc34_23).1 k) ?_
      show Goes p e below (s₁.setTop (mkF m 37 #[.val (.int p1)] [])) _
      refine Goes.of (fun t k => XS.iloadN X0.here hx rfl (hb hby d1_37) rfl k) ?_
      show Goes p e below (s₁.setTop (mkF m 38 #[.val (.int p1)] [(.int p1)])) _
      refine Goes.of (fun t k => XS.sipush X0.here hx rfl (hb hby d1_38) k) ?_
      show Goes p e below (s₁.setTop (mkF m 41 #[.val (.int p1)] [(.int (214 : Int32)), (.int p1)])) _
      by_cases hc41_24 : (214 : Int32) < p1
      · refine Goes.of (fun t k => XS.icmpNo X0.here hx rfl (hb hby d1_41) rfl (tlt hc41_24).2.2.2 k) ?_
        show Goes p e below (s₁.setTop (mkF m 44 #[.val (.int p1)] [])) _
        exact blk4 m0 m1 m2 (fun q => q.2 hc41_24)
      · refine Goes.of (fun t k => XS.icmpYes X0.here hx rfl (pc0 := 41) (pc' := 191) rfl (hb hby d1_41) rfl (flt hc41_24).2.2.2 (by decide) (by decide) k) ?_
        show Goes p e below (s₁.setTop (mkF m 191 #[.val (.int p1)] [])) _
        exact (yes (Or.inr (Or.inr (Or.inr (Or.inl ⟨hc34_23, hc41_24⟩)))))
  have blk2 : ¬ (¬ (p1 < (65 : Int32)) ∧ ¬ ((90 : Int32) < p1)) → ¬ (p1 = (95 : Int32)) → Goes p e below (s₁.setTop (mkF m 18 #[.val (.int p1)] [])) (Fin s (Q1 Z p1 h0 n0) ({ frames := 0, cells := 0, slots := 0, locals := 0 } : Room).cells ({ frames := 0, cells := 0, slots := 0, locals := 0 } : Room).slots) := by
    intro m0 m1
    show Goes p e below (s₁.setTop (mkF m 18 #[.val (.int p1)] [])) _
    refine Goes.of (fun t k => XS.iloadN X0.here hx rfl (hb hby d1_18) rfl k) ?_
    show Goes p e below (s₁.setTop (mkF m 19 #[.val (.int p1)] [(.int p1)])) _
    refine Goes.of (fun t k => XS.bipush X0.here hx rfl (hb hby d1_19) k) ?_
    show Goes p e below (s₁.setTop (mkF m 21 #[.val (.int p1)] [(.int (97 : Int32)), (.int p1)])) _
    by_cases hc21_25 : p1 < (97 : Int32)
    · refine Goes.of (fun t k => XS.icmpYes X0.here hx rfl (pc0 := 21) (pc' := 30) rfl (hb hby d1_21) rfl (tlt hc21_25).1 (by decide) (by decide) k) ?_
      show Goes p e below (s₁.setTop (mkF m 30 #[.val (.int p1)] [])) _
      exact blk3 m0 m1 (fun q => q.1 hc21_25)
    · refine Goes.of (fun t k => XS.icmpNo X0.here hx rfl (hb hby d1_21) rfl (flt hc21_25).1 k) ?_
      show Goes p e below (s₁.setTop (mkF m 24 #[.val (.int p1)] [])) _
      refine Goes.of (fun t k => XS.iloadN X0.here hx rfl (hb hby d1_24) rfl k) ?_
      show Goes p e below (s₁.setTop (mkF m 25 #[.val (.int p1)] [(.int p1)])) _
      refine Goes.of (fun t k => XS.bipush X0.here hx rfl (hb hby d1_25) k) ?_
      show Goes p e below (s₁.setTop (mkF m 27 #[.val (.int p1)] [(.int (122 : Int32)), (.int p1)])) _
      by_cases hc27_26 : (122 : Int32) < p1
      · refine Goes.of (fun t k => XS.icmpNo X0.here hx rfl (hb hby d1_27) rfl (tlt hc27_26).2.2.2 k) ?_
        show Goes p e below (s₁.setTop (mkF m 30 #[.val (.int p1)] [])) _
        exact blk3 m0 m1 (fun q => q.2 hc27_26)
      · refine Goes.of (fun t k => XS.icmpYes X0.here hx rfl (pc0 := 27) (pc' := 191) rfl (hb hby d1_27) rfl (flt hc27_26).2.2.2 (by decide) (by decide) k) ?_
        show Goes p e below (s₁.setTop (mkF m 191 #[.val (.int p1)] [])) _
        exact (yes (Or.inr (Or.inr (Or.inl ⟨hc21_25, hc27_26⟩))))
  have blk1 : ¬ (¬ (p1 < (65 : Int32)) ∧ ¬ ((90 : Int32) < p1)) → Goes p e below (s₁.setTop (mkF m 12 #[.val (.int p1)] [])) (Fin s (Q1 Z p1 h0 n0) ({ frames := 0, cells := 0, slots := 0, locals := 0 } : Room).cells ({ frames := 0, cells := 0, slots := 0, locals := 0 } : Room).slots) := by
    intro m0
    show Goes p e below (s₁.setTop (mkF m 12 #[.val (.int p1)] [])) _
    refine Goes.of (fun t k => XS.iloadN X0.here hx rfl (hb hby d1_12) rfl k) ?_
    show Goes p e below (s₁.setTop (mkF m 13 #[.val (.int p1)] [(.int p1)])) _
    refine Goes.of (fun t k => XS.bipush X0.here hx rfl (hb hby d1_13) k) ?_
    show Goes p e below (s₁.setTop (mkF m 15 #[.val (.int p1)] [(.int (95 : Int32)), (.int p1)])) _
    by_cases hc15_27 : p1 = (95 : Int32)
    · refine Goes.of (fun t k => XS.icmpYes X0.here hx rfl (pc0 := 15) (pc' := 191) rfl (hb hby d1_15) rfl (teq hc15_27).1 (by decide) (by decide) k) ?_
      show Goes p e below (s₁.setTop (mkF m 191 #[.val (.int p1)] [])) _
      exact (yes (Or.inr (Or.inl hc15_27)))
    · refine Goes.of (fun t k => XS.icmpNo X0.here hx rfl (hb hby d1_15) rfl (feq hc15_27).1 k) ?_
      show Goes p e below (s₁.setTop (mkF m 18 #[.val (.int p1)] [])) _
      exact blk2 m0 hc15_27
  have blk0 : Goes p e below (s₁.setTop (mkF m 0 #[.val (.int p1)] [])) (Fin s (Q1 Z p1 h0 n0) ({ frames := 0, cells := 0, slots := 0, locals := 0 } : Room).cells ({ frames := 0, cells := 0, slots := 0, locals := 0 } : Room).slots) := by
    show Goes p e below (s₁.setTop (mkF m 0 #[.val (.int p1)] [])) _
    refine Goes.of (fun t k => XS.iloadN X0.here hx rfl (hb hby d1_0) rfl k) ?_
    show Goes p e below (s₁.setTop (mkF m 1 #[.val (.int p1)] [(.int p1)])) _
    refine Goes.of (fun t k => XS.bipush X0.here hx rfl (hb hby d1_1) k) ?_
    show Goes p e below (s₁.setTop (mkF m 3 #[.val (.int p1)] [(.int (65 : Int32)), (.int p1)])) _
    by_cases hc3_28 : p1 < (65 : Int32)
    · refine Goes.of (fun t k => XS.icmpYes X0.here hx rfl (pc0 := 3) (pc' := 12) rfl (hb hby d1_3) rfl (tlt hc3_28).1 (by decide) (by decide) k) ?_
      show Goes p e below (s₁.setTop (mkF m 12 #[.val (.int p1)] [])) _
      exact blk1  (fun q => q.1 hc3_28)
    · refine Goes.of (fun t k => XS.icmpNo X0.here hx rfl (hb hby d1_3) rfl (flt hc3_28).1 k) ?_
      show Goes p e below (s₁.setTop (mkF m 6 #[.val (.int p1)] [])) _
      refine Goes.of (fun t k => XS.iloadN X0.here hx rfl (hb hby d1_6) rfl k) ?_
      show Goes p e below (s₁.setTop (mkF m 7 #[.val (.int p1)] [(.int p1)])) _
      refine Goes.of (fun t k => XS.bipush X0.here hx rfl (hb hby d1_7) k) ?_
      show Goes p e below (s₁.setTop (mkF m 9 #[.val (.int p1)] [(.int (90 : Int32)), (.int p1)])) _
      by_cases hc9_29 : (90 : Int32) < p1
      · refine Goes.of (fun t k => XS.icmpNo X0.here hx rfl (hb hby d1_9) rfl (tlt hc9_29).2.2.2 k) ?_
        show Goes p e below (s₁.setTop (mkF m 12 #[.val (.int p1)] [])) _
        exact blk1  (fun q => q.2 hc9_29)
      · refine Goes.of (fun t k => XS.icmpYes X0.here hx rfl (pc0 := 9) (pc' := 191) rfl (hb hby d1_9) rfl (flt hc9_29).2.2.2 (by decide) (by decide) k) ?_
        show Goes p e below (s₁.setTop (mkF m 191 #[.val (.int p1)] [])) _
        exact (yes (Or.inl ⟨hc3_28, hc9_29⟩))
  exact blk0
def own_lo : List Int32 := [65, 95, 97, 192, 216, 248, 880, 895, 8204, 8304, 11264, 12289, 63744, 65008, 65536]
def own_hi : List Int32 := [90, 95, 122, 214, 246, 767, 893, 8191, 8205, 8591, 12271, 55295, 64975, 65533, 983039]
def own_lov (i : Int32) : Int32 := own_lo.getD i.toNatClampNeg 0
def own_hiv (i : Int32) : Int32 := own_hi.getD i.toNatClampNeg 0
theorem own_getD (L : List Int32) (k : Nat) : (L.map Value.int).getD k (.int 0) = .int (L.getD k 0) := by
  induction L generalizing k with
  | nil => rfl
  | cons a t ih => cases k with
    | zero => rfl
    | succ k => simpa using ih k
theorem own_lo_at (i : Int32) : ([(.int (65 : Int32)), (.int (95 : Int32)), (.int (97 : Int32)), (.int (192 : Int32)), (.int (216 : Int32)), (.int (248 : Int32)), (.int (880 : Int32)), (.int (895 : Int32)), (.int (8204 : Int32)), (.int (8304 : Int32)), (.int (11264 : Int32)), (.int (12289 : Int32)), (.int (63744 : Int32)), (.int (65008 : Int32)), (.int (65536 : Int32))] : List Value).getD i.toNatClampNeg (.int (0 : Int32)) = .int (own_lov i) := own_getD own_lo _
theorem own_hi_at (i : Int32) : ([(.int (90 : Int32)), (.int (95 : Int32)), (.int (122 : Int32)), (.int (214 : Int32)), (.int (246 : Int32)), (.int (767 : Int32)), (.int (893 : Int32)), (.int (8191 : Int32)), (.int (8205 : Int32)), (.int (8591 : Int32)), (.int (12271 : Int32)), (.int (55295 : Int32)), (.int (64975 : Int32)), (.int (65533 : Int32)), (.int (983039 : Int32))] : List Value).getD i.toNatClampNeg (.int (0 : Int32)) = .int (own_hiv i) := own_getD own_hi _
theorem own_mod (a m : Int32) (hm : 0 < m.toInt) : 0 ≤ ((a &&& 2147483647) - (a &&& 2147483647) / m * m).toInt ∧ ((a &&& 2147483647) - (a &&& 2147483647) / m * m).toInt < m.toInt := by
  have e1 : (a &&& 2147483647).toInt = a.toInt % 2 ^ 31 := Jvm.Kit.i32_mask a 2147483647 (k := 31) (by decide) (by decide)
  have e2 : ((a &&& 2147483647) - (a &&& 2147483647) / m * m).toInt = (a &&& 2147483647).toInt % m.toInt := own_rem32n (by omega)
  rw [e2]
  exact ⟨Int.emod_nonneg _ (by omega), Int.emod_lt_of_pos _ hm⟩
theorem own_idx (a : Int32) : (a &&& 2147483647) - (a &&& 2147483647) / 15 * 15 = 0 ∨ (a &&& 2147483647) - (a &&& 2147483647) / 15 * 15 = 1 ∨ (a &&& 2147483647) - (a &&& 2147483647) / 15 * 15 = 2 ∨ (a &&& 2147483647) - (a &&& 2147483647) / 15 * 15 = 3 ∨ (a &&& 2147483647) - (a &&& 2147483647) / 15 * 15 = 4 ∨ (a &&& 2147483647) - (a &&& 2147483647) / 15 * 15 = 5 ∨ (a &&& 2147483647) - (a &&& 2147483647) / 15 * 15 = 6 ∨ (a &&& 2147483647) - (a &&& 2147483647) / 15 * 15 = 7 ∨ (a &&& 2147483647) - (a &&& 2147483647) / 15 * 15 = 8 ∨ (a &&& 2147483647) - (a &&& 2147483647) / 15 * 15 = 9 ∨ (a &&& 2147483647) - (a &&& 2147483647) / 15 * 15 = 10 ∨ (a &&& 2147483647) - (a &&& 2147483647) / 15 * 15 = 11 ∨ (a &&& 2147483647) - (a &&& 2147483647) / 15 * 15 = 12 ∨ (a &&& 2147483647) - (a &&& 2147483647) / 15 * 15 = 13 ∨ (a &&& 2147483647) - (a &&& 2147483647) / 15 * 15 = 14 := by
  have b := own_mod a 15 (by decide)
  have e15 : (15 : Int32).toInt = 15 := by decide
  rw [e15] at b
  generalize (a &&& 2147483647) - (a &&& 2147483647) / 15 * 15 = z at *
  have : z.toInt = 0 ∨ z.toInt = 1 ∨ z.toInt = 2 ∨ z.toInt = 3 ∨ z.toInt = 4 ∨ z.toInt = 5 ∨ z.toInt = 6 ∨ z.toInt = 7 ∨ z.toInt = 8 ∨ z.toInt = 9 ∨ z.toInt = 10 ∨ z.toInt = 11 ∨ z.toInt = 12 ∨ z.toInt = 13 ∨ z.toInt = 14 := by omega
  rcases this with h | h | h | h | h | h | h | h | h | h | h | h | h | h | h
  · exact Or.inl (Int32.toInt_inj.mp (by rw [h]; decide))
  · exact Or.inr (Or.inl (Int32.toInt_inj.mp (by rw [h]; decide)))
  · exact Or.inr (Or.inr (Or.inl (Int32.toInt_inj.mp (by rw [h]; decide))))
  · exact Or.inr (Or.inr (Or.inr (Or.inl (Int32.toInt_inj.mp (by rw [h]; decide)))))
  · exact Or.inr (Or.inr (Or.inr (Or.inr (Or.inl (Int32.toInt_inj.mp (by rw [h]; decide))))))
  · exact Or.inr (Or.inr (Or.inr (Or.inr (Or.inr (Or.inl (Int32.toInt_inj.mp (by rw [h]; decide)))))))
  · exact Or.inr (Or.inr (Or.inr (Or.inr (Or.inr (Or.inr (Or.inl (Int32.toInt_inj.mp (by rw [h]; decide))))))))
  · exact Or.inr (Or.inr (Or.inr (Or.inr (Or.inr (Or.inr (Or.inr (Or.inl (Int32.toInt_inj.mp (by rw [h]; decide)))))))))
  · exact Or.inr (Or.inr (Or.inr (Or.inr (Or.inr (Or.inr (Or.inr (Or.inr (Or.inl (Int32.toInt_inj.mp (by rw [h]; decide))))))))))
  · exact Or.inr (Or.inr (Or.inr (Or.inr (Or.inr (Or.inr (Or.inr (Or.inr (Or.inr (Or.inl (Int32.toInt_inj.mp (by rw [h]; decide)))))))))))
  · exact Or.inr (Or.inr (Or.inr (Or.inr (Or.inr (Or.inr (Or.inr (Or.inr (Or.inr (Or.inr (Or.inl (Int32.toInt_inj.mp (by rw [h]; decide))))))))))))
  · exact Or.inr (Or.inr (Or.inr (Or.inr (Or.inr (Or.inr (Or.inr (Or.inr (Or.inr (Or.inr (Or.inr (Or.inl (Int32.toInt_inj.mp (by rw [h]; decide)))))))))))))
  · exact Or.inr (Or.inr (Or.inr (Or.inr (Or.inr (Or.inr (Or.inr (Or.inr (Or.inr (Or.inr (Or.inr (Or.inr (Or.inl (Int32.toInt_inj.mp (by rw [h]; decide))))))))))))))
  · exact Or.inr (Or.inr (Or.inr (Or.inr (Or.inr (Or.inr (Or.inr (Or.inr (Or.inr (Or.inr (Or.inr (Or.inr (Or.inr (Or.inl (Int32.toInt_inj.mp (by rw [h]; decide)))))))))))))))
  · exact Or.inr (Or.inr (Or.inr (Or.inr (Or.inr (Or.inr (Or.inr (Or.inr (Or.inr (Or.inr (Or.inr (Or.inr (Or.inr (Or.inr ((Int32.toInt_inj.mp (by rw [h]; decide))))))))))))))))
theorem own_inI (z : Int32) : own_in z ↔ ((65 ≤ z.toInt ∧ z.toInt ≤ 90) ∨ (95 ≤ z.toInt ∧ z.toInt ≤ 95) ∨ (97 ≤ z.toInt ∧ z.toInt ≤ 122) ∨ (192 ≤ z.toInt ∧ z.toInt ≤ 214) ∨ (216 ≤ z.toInt ∧ z.toInt ≤ 246) ∨ (248 ≤ z.toInt ∧ z.toInt ≤ 767) ∨ (880 ≤ z.toInt ∧ z.toInt ≤ 893) ∨ (895 ≤ z.toInt ∧ z.toInt ≤ 8191) ∨ (8204 ≤ z.toInt ∧ z.toInt ≤ 8205) ∨ (8304 ≤ z.toInt ∧ z.toInt ≤ 8591) ∨ (11264 ≤ z.toInt ∧ z.toInt ≤ 12271) ∨ (12289 ≤ z.toInt ∧ z.toInt ≤ 55295) ∨ (63744 ≤ z.toInt ∧ z.toInt ≤ 64975) ∨ (65008 ≤ z.toInt ∧ z.toInt ≤ 65533) ∨ (65536 ≤ z.toInt ∧ z.toInt ≤ 983039)) := by
  unfold own_in
  simp only [Int32.lt_iff_toInt_lt, ← Int32.toInt_inj]
  have hs : (65 : Int32).toInt = 65 ∧ (90 : Int32).toInt = 90 ∧ (95 : Int32).toInt = 95 ∧ (97 : Int32).toInt = 97 ∧ (122 : Int32).toInt = 122 ∧ (192 : Int32).toInt = 192 ∧ (214 : Int32).toInt = 214 ∧ (216 : Int32).toInt = 216 ∧ (246 : Int32).toInt = 246 ∧ (248 : Int32).toInt = 248 ∧ (767 : Int32).toInt = 767 ∧ (880 : Int32).toInt = 880 ∧ (893 : Int32).toInt = 893 ∧ (895 : Int32).toInt = 895 ∧ (8191 : Int32).toInt = 8191 ∧ (8204 : Int32).toInt = 8204 ∧ (8205 : Int32).toInt = 8205 ∧ (8304 : Int32).toInt = 8304 ∧ (8591 : Int32).toInt = 8591 ∧ (11264 : Int32).toInt = 11264 ∧ (12271 : Int32).toInt = 12271 ∧ (12289 : Int32).toInt = 12289 ∧ (55295 : Int32).toInt = 55295 ∧ (63744 : Int32).toInt = 63744 ∧ (64975 : Int32).toInt = 64975 ∧ (65008 : Int32).toInt = 65008 ∧ (65533 : Int32).toInt = 65533 ∧ (65536 : Int32).toInt = 65536 ∧ (983039 : Int32).toInt = 983039 := by decide
  obtain ⟨e65, e90, e95, e97, e122, e192, e214, e216, e246, e248, e767, e880, e893, e895, e8191, e8204, e8205, e8304, e8591, e11264, e12271, e12289, e55295, e63744, e64975, e65008, e65533, e65536, e983039⟩ := hs
  simp only [e65, e90, e95, e97, e122, e192, e214, e216, e246, e248, e767, e880, e893, e895, e8191, e8204, e8205, e8304, e8591, e11264, e12271, e12289, e55295, e63744, e64975, e65008, e65533, e65536, e983039]
  omega
theorem own_off (a lo m : Int32) (hm : 0 < m.toInt) (h0 : 0 ≤ lo.toInt) (h1 : lo.toInt + m.toInt < 2 ^ 31) : lo.toInt ≤ (lo + ((a &&& 2147483647) - (a &&& 2147483647) / m * m)).toInt ∧ (lo + ((a &&& 2147483647) - (a &&& 2147483647) / m * m)).toInt ≤ lo.toInt + m.toInt - 1 := by
  have b := own_mod a m hm
  have e : (lo + ((a &&& 2147483647) - (a &&& 2147483647) / m * m)).toInt = lo.toInt + ((a &&& 2147483647) - (a &&& 2147483647) / m * m).toInt := Jvm.Kit.i32_add (by omega) (by omega)
  omega
theorem own_tab (i : Int32) (hi : i = 0 ∨ i = 1 ∨ i = 2 ∨ i = 3 ∨ i = 4 ∨ i = 5 ∨ i = 6 ∨ i = 7 ∨ i = 8 ∨ i = 9 ∨ i = 10 ∨ i = 11 ∨ i = 12 ∨ i = 13 ∨ i = 14) :
    0 < (own_hiv i - own_lov i + 1).toInt ∧ 0 ≤ (own_lov i).toInt ∧ (own_lov i).toInt + (own_hiv i - own_lov i + 1).toInt - 1 = (own_hiv i).toInt ∧ (own_lov i).toInt + (own_hiv i - own_lov i + 1).toInt < 2 ^ 31 ∧
    own_in (own_lov i) ∧ own_in (own_hiv i) ∧ ¬ own_in (own_lov i - 1) ∧ ¬ own_in (own_hiv i + 1) ∧ (∀ z : Int32, (own_lov i).toInt ≤ z.toInt → z.toInt ≤ (own_hiv i).toInt → own_in z) ∧
    (i = 0 → 0 < (own_lov i - 1 - 0 + 1).toInt ∧ (0 : Int32).toInt + (own_lov i - 1 - 0 + 1).toInt - 1 = (own_lov i).toInt - 1 ∧ (0 : Int32).toInt + (own_lov i - 1 - 0 + 1).toInt < 2 ^ 31 ∧ ∀ z : Int32, 0 ≤ z.toInt → z.toInt ≤ (own_lov i).toInt - 1 → ¬ own_in z) ∧
    (¬ i = 0 → ¬ (i - 1) < 0 ∧ (i - 1) < 15 ∧ 0 < (own_lov i - 1 - (own_hiv (i - 1) + 1) + 1).toInt ∧ 0 ≤ (own_hiv (i - 1) + 1).toInt ∧ (own_hiv (i - 1) + 1).toInt + (own_lov i - 1 - (own_hiv (i - 1) + 1) + 1).toInt - 1 = (own_lov i).toInt - 1 ∧ (own_hiv (i - 1) + 1).toInt + (own_lov i - 1 - (own_hiv (i - 1) + 1) + 1).toInt < 2 ^ 31 ∧ ∀ z : Int32, (own_hiv (i - 1) + 1).toInt ≤ z.toInt → z.toInt ≤ (own_lov i).toInt - 1 → ¬ own_in z) := by
  rcases hi with rfl | rfl | rfl | rfl | rfl | rfl | rfl | rfl | rfl | rfl | rfl | rfl | rfl | rfl | rfl
  · have e1 : (own_lov 0).toInt = 65 := by decide
    have e2 : (own_hiv 0).toInt = 90 := by decide
    refine ⟨by decide, by decide, by decide, by decide, by decide, by decide, by decide, by decide, fun z h1 h2 => (own_inI z).mpr (by rw [e1] at h1; rw [e2] at h2; omega), ?_, ?_⟩
    · intro _; exact ⟨by decide, by decide, by decide, fun z h1 h2 h => by have h := (own_inI z).mp h; rw [e1] at h2; omega⟩
    · intro q; exact absurd rfl q
  · have e1 : (own_lov 1).toInt = 95 := by decide
    have e2 : (own_hiv 1).toInt = 95 := by decide
    refine ⟨by decide, by decide, by decide, by decide, by decide, by decide, by decide, by decide, fun z h1 h2 => (own_inI z).mpr (by rw [e1] at h1; rw [e2] at h2; omega), ?_, ?_⟩
    · intro q; exact absurd q (by decide)
    · intro _
      have e3 : (own_hiv (1 - 1) + 1).toInt = 91 := by decide
      exact ⟨by decide, by decide, by decide, by decide, by decide, by decide, fun z h1 h2 h => by have h := (own_inI z).mp h; rw [e3] at h1; rw [e1] at h2; omega⟩
  · have e1 : (own_lov 2).toInt = 97 := by decide
    have e2 : (own_hiv 2).toInt = 122 := by decide
    refine ⟨by decide, by decide, by decide, by decide, by decide, by decide, by decide, by decide, fun z h1 h2 => (own_inI z).mpr (by rw [e1] at h1; rw [e2] at h2; omega), ?_, ?_⟩
    · intro q; exact absurd q (by decide)
    · intro _
      have e3 : (own_hiv (2 - 1) + 1).toInt = 96 := by decide
      exact ⟨by decide, by decide, by decide, by decide, by decide, by decide, fun z h1 h2 h => by have h := (own_inI z).mp h; rw [e3] at h1; rw [e1] at h2; omega⟩
  · have e1 : (own_lov 3).toInt = 192 := by decide
    have e2 : (own_hiv 3).toInt = 214 := by decide
    refine ⟨by decide, by decide, by decide, by decide, by decide, by decide, by decide, by decide, fun z h1 h2 => (own_inI z).mpr (by rw [e1] at h1; rw [e2] at h2; omega), ?_, ?_⟩
    · intro q; exact absurd q (by decide)
    · intro _
      have e3 : (own_hiv (3 - 1) + 1).toInt = 123 := by decide
      exact ⟨by decide, by decide, by decide, by decide, by decide, by decide, fun z h1 h2 h => by have h := (own_inI z).mp h; rw [e3] at h1; rw [e1] at h2; omega⟩
  · have e1 : (own_lov 4).toInt = 216 := by decide
    have e2 : (own_hiv 4).toInt = 246 := by decide
    refine ⟨by decide, by decide, by decide, by decide, by decide, by decide, by decide, by decide, fun z h1 h2 => (own_inI z).mpr (by rw [e1] at h1; rw [e2] at h2; omega), ?_, ?_⟩
    · intro q; exact absurd q (by decide)
    · intro _
      have e3 : (own_hiv (4 - 1) + 1).toInt = 215 := by decide
      exact ⟨by decide, by decide, by decide, by decide, by decide, by decide, fun z h1 h2 h => by have h := (own_inI z).mp h; rw [e3] at h1; rw [e1] at h2; omega⟩
  · have e1 : (own_lov 5).toInt = 248 := by decide
    have e2 : (own_hiv 5).toInt = 767 := by decide
    refine ⟨by decide, by decide, by decide, by decide, by decide, by decide, by decide, by decide, fun z h1 h2 => (own_inI z).mpr (by rw [e1] at h1; rw [e2] at h2; omega), ?_, ?_⟩
    · intro q; exact absurd q (by decide)
    · intro _
      have e3 : (own_hiv (5 - 1) + 1).toInt = 247 := by decide
      exact ⟨by decide, by decide, by decide, by decide, by decide, by decide, fun z h1 h2 h => by have h := (own_inI z).mp h; rw [e3] at h1; rw [e1] at h2; omega⟩
  · have e1 : (own_lov 6).toInt = 880 := by decide
    have e2 : (own_hiv 6).toInt = 893 := by decide
    refine ⟨by decide, by decide, by decide, by decide, by decide, by decide, by decide, by decide, fun z h1 h2 => (own_inI z).mpr (by rw [e1] at h1; rw [e2] at h2; omega), ?_, ?_⟩
    · intro q; exact absurd q (by decide)
    · intro _
      have e3 : (own_hiv (6 - 1) + 1).toInt = 768 := by decide
      exact ⟨by decide, by decide, by decide, by decide, by decide, by decide, fun z h1 h2 h => by have h := (own_inI z).mp h; rw [e3] at h1; rw [e1] at h2; omega⟩
  · have e1 : (own_lov 7).toInt = 895 := by decide
    have e2 : (own_hiv 7).toInt = 8191 := by decide
    refine ⟨by decide, by decide, by decide, by decide, by decide, by decide, by decide, by decide, fun z h1 h2 => (own_inI z).mpr (by rw [e1] at h1; rw [e2] at h2; omega), ?_, ?_⟩
    · intro q; exact absurd q (by decide)
    · intro _
      have e3 : (own_hiv (7 - 1) + 1).toInt = 894 := by decide
      exact ⟨by decide, by decide, by decide, by decide, by decide, by decide, fun z h1 h2 h => by have h := (own_inI z).mp h; rw [e3] at h1; rw [e1] at h2; omega⟩
  · have e1 : (own_lov 8).toInt = 8204 := by decide
    have e2 : (own_hiv 8).toInt = 8205 := by decide
    refine ⟨by decide, by decide, by decide, by decide, by decide, by decide, by decide, by decide, fun z h1 h2 => (own_inI z).mpr (by rw [e1] at h1; rw [e2] at h2; omega), ?_, ?_⟩
    · intro q; exact absurd q (by decide)
    · intro _
      have e3 : (own_hiv (8 - 1) + 1).toInt = 8192 := by decide
      exact ⟨by decide, by decide, by decide, by decide, by decide, by decide, fun z h1 h2 h => by have h := (own_inI z).mp h; rw [e3] at h1; rw [e1] at h2; omega⟩
  · have e1 : (own_lov 9).toInt = 8304 := by decide
    have e2 : (own_hiv 9).toInt = 8591 := by decide
    refine ⟨by decide, by decide, by decide, by decide, by decide, by decide, by decide, by decide, fun z h1 h2 => (own_inI z).mpr (by rw [e1] at h1; rw [e2] at h2; omega), ?_, ?_⟩
    · intro q; exact absurd q (by decide)
    · intro _
      have e3 : (own_hiv (9 - 1) + 1).toInt = 8206 := by decide
      exact ⟨by decide, by decide, by decide, by decide, by decide, by decide, fun z h1 h2 h => by have h := (own_inI z).mp h; rw [e3] at h1; rw [e1] at h2; omega⟩
  · have e1 : (own_lov 10).toInt = 11264 := by decide
    have e2 : (own_hiv 10).toInt = 12271 := by decide
    refine ⟨by decide, by decide, by decide, by decide, by decide, by decide, by decide, by decide, fun z h1 h2 => (own_inI z).mpr (by rw [e1] at h1; rw [e2] at h2; omega), ?_, ?_⟩
    · intro q; exact absurd q (by decide)
    · intro _
      have e3 : (own_hiv (10 - 1) + 1).toInt = 8592 := by decide
      exact ⟨by decide, by decide, by decide, by decide, by decide, by decide, fun z h1 h2 h => by have h := (own_inI z).mp h; rw [e3] at h1; rw [e1] at h2; omega⟩
  · have e1 : (own_lov 11).toInt = 12289 := by decide
    have e2 : (own_hiv 11).toInt = 55295 := by decide
    refine ⟨by decide, by decide, by decide, by decide, by decide, by decide, by decide, by decide, fun z h1 h2 => (own_inI z).mpr (by rw [e1] at h1; rw [e2] at h2; omega), ?_, ?_⟩
    · intro q; exact absurd q (by decide)
    · intro _
      have e3 : (own_hiv (11 - 1) + 1).toInt = 12272 := by decide
      exact ⟨by decide, by decide, by decide, by decide, by decide, by decide, fun z h1 h2 h => by have h := (own_inI z).mp h; rw [e3] at h1; rw [e1] at h2; omega⟩
  · have e1 : (own_lov 12).toInt = 63744 := by decide
    have e2 : (own_hiv 12).toInt = 64975 := by decide
    refine ⟨by decide, by decide, by decide, by decide, by decide, by decide, by decide, by decide, fun z h1 h2 => (own_inI z).mpr (by rw [e1] at h1; rw [e2] at h2; omega), ?_, ?_⟩
    · intro q; exact absurd q (by decide)
    · intro _
      have e3 : (own_hiv (12 - 1) + 1).toInt = 55296 := by decide
      exact ⟨by decide, by decide, by decide, by decide, by decide, by decide, fun z h1 h2 h => by have h := (own_inI z).mp h; rw [e3] at h1; rw [e1] at h2; omega⟩
  · have e1 : (own_lov 13).toInt = 65008 := by decide
    have e2 : (own_hiv 13).toInt = 65533 := by decide
    refine ⟨by decide, by decide, by decide, by decide, by decide, by decide, by decide, by decide, fun z h1 h2 => (own_inI z).mpr (by rw [e1] at h1; rw [e2] at h2; omega), ?_, ?_⟩
    · intro q; exact absurd q (by decide)
    · intro _
      have e3 : (own_hiv (13 - 1) + 1).toInt = 64976 := by decide
      exact ⟨by decide, by decide, by decide, by decide, by decide, by decide, fun z h1 h2 h => by have h := (own_inI z).mp h; rw [e3] at h1; rw [e1] at h2; omega⟩
  · have e1 : (own_lov 14).toInt = 65536 := by decide
    have e2 : (own_hiv 14).toInt = 983039 := by decide
    refine ⟨by decide, by decide, by decide, by decide, by decide, by decide, by decide, by decide, fun z h1 h2 => (own_inI z).mpr (by rw [e1] at h1; rw [e2] at h2; omega), ?_, ?_⟩
    · intro q; exact absurd q (by decide)
    · intro _
      have e3 : (own_hiv (14 - 1) + 1).toInt = 65534 := by decide
      exact ⟨by decide, by decide, by decide, by decide, by decide, by decide, fun z h1 h2 h => by have h := (own_inI z).mp h; rw [e3] at h1; rw [e1] at h2; omega⟩
theorem own_bnd (i : Int32) (hi : i = 0 ∨ i = 1 ∨ i = 2 ∨ i = 3 ∨ i = 4 ∨ i = 5 ∨ i = 6 ∨ i = 7 ∨ i = 8 ∨ i = 9 ∨ i = 10 ∨ i = 11 ∨ i = 12 ∨ i = 13 ∨ i = 14) : ¬ i < 0 ∧ i < 15 := by
  rcases hi with rfl | rfl | rfl | rfl | rfl | rfl | rfl | rfl | rfl | rfl | rfl | rfl | rfl | rfl | rfl <;> decide
theorem own_nz {x : Int32} (h : 0 < x.toInt) : x ≠ 0 := fun q => by rw [q] at h; exact absurd h (by decide)
theorem ef_0 (m : MethodId) (x0 : Int32) (x1 : Int32) (x2 : Int32) (x3 : Int32) : entryFrame m #[(.int x0), (.int x1), (.int x2), (.int x3)] maxLocals = mkF m 0 #[.val (.int x0), .val (.int x1), .val (.int x2), .val (.int x3), .unset, .unset, .unset, .unset, .unset, .unset, .unset, .unset, .unset, .unset, .unset, .unset, .unset, .unset] [] := by first | (simp [entryFrame, mkF, argsToLocals, Value.category, maxLocals]; done) | rfl
def Q0 (Z : State) (p1 : Int32) (p2 : Int32) (p3 : Int32) (p4 : Int32) (h0 : Heap) (n0 : Nat) (v : Option Value) (h : Heap) (L : List Loc) : Prop := v = some (.int 1) ∧ Fr n0 L
set_option maxRecDepth 65536 in
set_option maxHeartbeats 40000000 in
theorem rm0 (l : Launch) (Z : State) (a0 : Array Value) (hw : ∀ d ∈ tables_1, d.before a0 Z = true) (ws : List Jvm.Cond) (p1 : Int32) (p2 : Int32) (p3 : Int32) (p4 : Int32) (h0 : Heap) (n0 : Nat) (Z0 : n0 ≤ h0.size)  :
    MetFree l x (head1 (Jvm.Cond.code x code maxLocals ret :: ws) room_1) (fun a U => a = #[(.int p1), (.int p2), (.int p3), (.int p4)] ∧ Z.Warmed39 U.vm ∧ U.heap = h0) (fun _ _ _ _ _ => True) (fun _ U o U' => ∃ v L, o = .returned v ∧ Q0 Z p1 p2 p3 p4 h0 n0 v U'.heap L ∧ FrameEnd U o U' L room_1.cells room_1.slots) := by
  refine MetFree.of_bodySF (plainFor_of_name pn_1) hisR ?_
  intro p e s m args below meth c s₁ Bd hml0 hP hK
  obtain ⟨rfl, hZ, hh⟩ := hP
  have hx := Bd.exec
  have hby := Bd.bytes
  have hml : c.maxLocals = 18 := hml0
  have hown : s.vm.findClass "com/example/strict_xslt/strictxslt/XmlNamesIsNameStartPinLaw" = some m.cls := findClass_of_methodNamed Bd.named
  have hnm := (name_of_methodNamed Bd.named Bd.method).1
  have hlocks : meth.locks = false := BodyLoose.notSynchronized Bd
  have X0 : Stand p l e room_1 s m #[(.int p1), (.int p2), (.int p3), (.int p4)] below meth c s₁ [] 0 0 := Stand.of_body Bd
  have e0 : s₁.heap = h0 := by rw [← hh, Bd.state]; rfl
  have N0 := Fr.nil n0
  show Goes p e below (s₁.setTop (entryFrame m #[(.int p1), (.int p2), (.int p3), (.int p4)] maxLocals)) (Fin s (Q0 Z p1 p2 p3 p4 h0 n0) room_1.cells room_1.slots)
  refine Goes.of (fun t k => castTop (ef_0 m p1 p2 p3 p4) k) ?_
  show Goes p e below (s₁.setTop (mkF m 0 #[.val (.int p1), .val (.int p2), .val (.int p3), .val (.int p4), .unset, .unset, .unset, .unset, .unset, .unset, .unset, .unset, .unset, .unset, .unset, .unset, .unset, .unset] [])) _
  refine Goes.of (fun t k => XS.bipush X0.here hx rfl (hb hby at_0) k) ?_
  obtain ⟨T30, h30, k30, X30, e30, E30, A30, st30⟩ := newP X0 hx hZ (wd hw 0 rfl) e0 (g := (mkF m 2 #[.val (.int p1), .val (.int p2), .val (.int p3), .val (.int p4), .unset, .unset, .unset, .unset, .unset, .unset, .unset, .unset, .unset, .unset, .unset, .unset, .unset, .unset] [(.int (15 : Int32))])) rfl (hb hby at_2) rfl (by decide) (cap := 15) (by decide) (by decide) (by decide) (by decide)
  obtain ⟨b30, g30⟩ : ∃ z, z = h0.size := ⟨_, rfl⟩
  rw [← g30] at A30 st30
  have g31 : n0 ≤ b30 := Nat.le_trans Z0 (Nat.le_of_eq g30.symm)
  have z32 := Nat.le_trans Z0 E30.1
  have V30 : Arv Z h30 b30 k30 .int (15 : Int32) [(.int (0 : Int32)), (.int (0 : Int32)), (.int (0 : Int32)), (.int (0 : Int32)), (.int (0 : Int32)), (.int (0 : Int32)), (.int (0 : Int32)), (.int (0 : Int32)), (.int (0 : Int32)), (.int (0 : Int32)), (.int (0 : Int32)), (.int (0 : Int32)), (.int (0 : Int32)), (.int (0 : Int32)), (.int (0 : Int32))] (.int (0 : Int32)) := (Arv.new A30 (by decide)).pad (pad_rep [] (.int (0 : Int32)) 15)
  refine Goes.of st30 ?_
  show Goes p e below (T30.setTop (mkF m 4 #[.val (.int p1), .val (.int p2), .val (.int p3), .val (.int p4), .unset, .unset, .unset, .unset, .unset, .unset, .unset, .unset, .unset, .unset, .unset, .unset, .unset, .unset] [(.ref b30)])) _
  refine Goes.of (fun t k => XS.dup X30.here hx rfl (hb hby at_4) rfl rfl k) ?_
  show Goes p e below (T30.setTop (mkF m 5 #[.val (.int p1), .val (.int p2), .val (.int p3), .val (.int p4), .unset, .unset, .unset, .unset, .unset, .unset, .unset, .unset, .unset, .unset, .unset, .unset, .unset, .unset] [(.ref b30), (.ref b30)])) _
  refine Goes.of (fun t k => XS.iconst X30.here hx rfl (hb hby at_5) k) ?_
  show Goes p e below (T30.setTop (mkF m 6 #[.val (.int p1), .val (.int p2), .val (.int p3), .val (.int p4), .unset, .unset, .unset, .unset, .unset, .unset, .unset, .unset, .unset, .unset, .unset, .unset, .unset, .unset] [(.int (0 : Int32)), (.ref b30), (.ref b30)])) _
  refine Goes.of (fun t k => XS.bipush X30.here hx rfl (hb hby at_6) k) ?_
  have Vc33 := V30
  obtain ⟨clc33, Arc33, qc33, Sc33, Nc33, Hc33, Gc33⟩ := Vc33
  have hin34 : ¬ ((0 : Int32) < 0 ∨ clc33.slots.size ≤ ((0 : Int32)).toNatClampNeg) := inb_of Sc33 ⟨by decide, by decide⟩
  obtain ⟨T35, h35, X35, e35, W35, st35⟩ := stI X30 hx hZ e30 Arc33 (j := (0 : Int32)) hin34 (g := (mkF m 8 #[.val (.int p1), .val (.int p2), .val (.int p3), .val (.int p4), .unset, .unset, .unset, .unset, .unset, .unset, .unset, .unset, .unset, .unset, .unset, .unset, .unset, .unset] [(.int (65 : Int32)), (.int (0 : Int32)), (.ref b30), (.ref b30)])) rfl rfl (hb hby at_8)
  have V35 : Arv Z h35 b30 k30 .int (15 : Int32) [(.int (65 : Int32)), (.int (0 : Int32)), (.int (0 : Int32)), (.int (0 : Int32)), (.int (0 : Int32)), (.int (0 : Int32)), (.int (0 : Int32)), (.int (0 : Int32)), (.int (0 : Int32)), (.int (0 : Int32)), (.int (0 : Int32)), (.int (0 : Int32)), (.int (0 : Int32)), (.int (0 : Int32)), (.int (0 : Int32))] (.int (0 : Int32)) := Arv.set Arc33 qc33 Sc33 Nc33 Hc33 Gc33 rfl W35 0 rfl (Nat.le_of_ble_eq_true rfl)
  have z36 := Nat.le_trans z32 (Keep.of_wr W35).1
  have N35 := Fr.snoc X35 N0 g31
  refine Goes.of st35 ?_
  show Goes p e below (T35.setTop (mkF m 9 #[.val (.int p1), .val (.int p2), .val (.int p3), .val (.int p4), .unset, .unset, .unset, .unset, .unset, .unset, .unset, .unset, .unset, .unset, .unset, .unset, .unset, .unset] [(.ref b30)])) _
  refine Goes.of (fun t k => XS.dup X35.here hx rfl (hb hby at_9) rfl rfl k) ?_
  show Goes p e below (T35.setTop (mkF m 10 #[.val (.int p1), .val (.int p2), .val (.int p3), .val (.int p4), .unset, .unset, .unset, .unset, .unset, .unset, .unset, .unset, .unset, .unset, .unset, .unset, .unset, .unset] [(.ref b30), (.ref b30)])) _
  refine Goes.of (fun t k => XS.iconst X35.here hx rfl (hb hby at_10) k) ?_
  show Goes p e below (T35.setTop (mkF m 11 #[.val (.int p1), .val (.int p2), .val (.int p3), .val (.int p4), .unset, .unset, .unset, .unset, .unset, .unset, .unset, .unset, .unset, .unset, .unset, .unset, .unset, .unset] [(.int (1 : Int32)), (.ref b30), (.ref b30)])) _
  refine Goes.of (fun t k => XS.bipush X35.here hx rfl (hb hby at_11) k) ?_
  have Vc38 := V35
  obtain ⟨clc38, Arc38, qc38, Sc38, Nc38, Hc38, Gc38⟩ := Vc38
  have hin39 : ¬ ((1 : Int32) < 0 ∨ clc38.slots.size ≤ ((1 : Int32)).toNatClampNeg) := inb_of Sc38 ⟨by decide, by decide⟩
  obtain ⟨T40, h40, X40, e40, W40, st40⟩ := stI X35 hx hZ e35 Arc38 (j := (1 : Int32)) hin39 (g := (mkF m 13 #[.val (.int p1), .val (.int p2), .val (.int p3), .val (.int p4), .unset, .unset, .unset, .unset, .unset, .unset, .unset, .unset, .unset, .unset, .unset, .unset, .unset, .unset] [(.int (95 : Int32)), (.int (1 : Int32)), (.ref b30), (.ref b30)])) rfl rfl (hb hby at_13)
  have V40 : Arv Z h40 b30 k30 .int (15 : Int32) [(.int (65 : Int32)), (.int (95 : Int32)), (.int (0 : Int32)), (.int (0 : Int32)), (.int (0 : Int32)), (.int (0 : Int32)), (.int (0 : Int32)), (.int (0 : Int32)), (.int (0 : Int32)), (.int (0 : Int32)), (.int (0 : Int32)), (.int (0 : Int32)), (.int (0 : Int32)), (.int (0 : Int32)), (.int (0 : Int32))] (.int (0 : Int32)) := Arv.set Arc38 qc38 Sc38 Nc38 Hc38 Gc38 rfl W40 1 rfl (Nat.le_of_ble_eq_true rfl)
  have z41 := Nat.le_trans z36 (Keep.of_wr W40).1
  have N40 := Fr.snoc X40 N35 g31
  refine Goes.of st40 ?_
  show Goes p e below (T40.setTop (mkF m 14 #[.val (.int p1), .val (.int p2), .val (.int p3), .val (.int p4), .unset, .unset, .unset, .unset, .unset, .unset, .unset, .unset, .unset, .unset, .unset, .unset, .unset, .unset] [(.ref b30)])) _
  refine Goes.of (fun t k => XS.dup X40.here hx rfl (hb hby at_14) rfl rfl k) ?_
  show Goes p e below (T40.setTop (mkF m 15 #[.val (.int p1), .val (.int p2), .val (.int p3), .val (.int p4), .unset, .unset, .unset, .unset, .unset, .unset, .unset, .unset, .unset, .unset, .unset, .unset, .unset, .unset] [(.ref b30), (.ref b30)])) _
  refine Goes.of (fun t k => XS.iconst X40.here hx rfl (hb hby at_15) k) ?_
  show Goes p e below (T40.setTop (mkF m 16 #[.val (.int p1), .val (.int p2), .val (.int p3), .val (.int p4), .unset, .unset, .unset, .unset, .unset, .unset, .unset, .unset, .unset, .unset, .unset, .unset, .unset, .unset] [(.int (2 : Int32)), (.ref b30), (.ref b30)])) _
  refine Goes.of (fun t k => XS.bipush X40.here hx rfl (hb hby at_16) k) ?_
  have Vc43 := V40
  obtain ⟨clc43, Arc43, qc43, Sc43, Nc43, Hc43, Gc43⟩ := Vc43
  have hin44 : ¬ ((2 : Int32) < 0 ∨ clc43.slots.size ≤ ((2 : Int32)).toNatClampNeg) := inb_of Sc43 ⟨by decide, by decide⟩
  obtain ⟨T45, h45, X45, e45, W45, st45⟩ := stI X40 hx hZ e40 Arc43 (j := (2 : Int32)) hin44 (g := (mkF m 18 #[.val (.int p1), .val (.int p2), .val (.int p3), .val (.int p4), .unset, .unset, .unset, .unset, .unset, .unset, .unset, .unset, .unset, .unset, .unset, .unset, .unset, .unset] [(.int (97 : Int32)), (.int (2 : Int32)), (.ref b30), (.ref b30)])) rfl rfl (hb hby at_18)
  have V45 : Arv Z h45 b30 k30 .int (15 : Int32) [(.int (65 : Int32)), (.int (95 : Int32)), (.int (97 : Int32)), (.int (0 : Int32)), (.int (0 : Int32)), (.int (0 : Int32)), (.int (0 : Int32)), (.int (0 : Int32)), (.int (0 : Int32)), (.int (0 : Int32)), (.int (0 : Int32)), (.int (0 : Int32)), (.int (0 : Int32)), (.int (0 : Int32)), (.int (0 : Int32))] (.int (0 : Int32)) := Arv.set Arc43 qc43 Sc43 Nc43 Hc43 Gc43 rfl W45 2 rfl (Nat.le_of_ble_eq_true rfl)
  have z46 := Nat.le_trans z41 (Keep.of_wr W45).1
  have N45 := Fr.snoc X45 N40 g31
  refine Goes.of st45 ?_
  show Goes p e below (T45.setTop (mkF m 19 #[.val (.int p1), .val (.int p2), .val (.int p3), .val (.int p4), .unset, .unset, .unset, .unset, .unset, .unset, .unset, .unset, .unset, .unset, .unset, .unset, .unset, .unset] [(.ref b30)])) _
  refine Goes.of (fun t k => XS.dup X45.here hx rfl (hb hby at_19) rfl rfl k) ?_
  show Goes p e below (T45.setTop (mkF m 20 #[.val (.int p1), .val (.int p2), .val (.int p3), .val (.int p4), .unset, .unset, .unset, .unset, .unset, .unset, .unset, .unset, .unset, .unset, .unset, .unset, .unset, .unset] [(.ref b30), (.ref b30)])) _
  refine Goes.of (fun t k => XS.iconst X45.here hx rfl (hb hby at_20) k) ?_
  show Goes p e below (T45.setTop (mkF m 21 #[.val (.int p1), .val (.int p2), .val (.int p3), .val (.int p4), .unset, .unset, .unset, .unset, .unset, .unset, .unset, .unset, .unset, .unset, .unset, .unset, .unset, .unset] [(.int (3 : Int32)), (.ref b30), (.ref b30)])) _
  refine Goes.of (fun t k => XS.sipush X45.here hx rfl (hb hby at_21) k) ?_
  have Vc48 := V45
  obtain ⟨clc48, Arc48, qc48, Sc48, Nc48, Hc48, Gc48⟩ := Vc48
  have hin49 : ¬ ((3 : Int32) < 0 ∨ clc48.slots.size ≤ ((3 : Int32)).toNatClampNeg) := inb_of Sc48 ⟨by decide, by decide⟩
  obtain ⟨T50, h50, X50, e50, W50, st50⟩ := stI X45 hx hZ e45 Arc48 (j := (3 : Int32)) hin49 (g := (mkF m 24 #[.val (.int p1), .val (.int p2), .val (.int p3), .val (.int p4), .unset, .unset, .unset, .unset, .unset, .unset, .unset, .unset, .unset, .unset, .unset, .unset, .unset, .unset] [(.int (192 : Int32)), (.int (3 : Int32)), (.ref b30), (.ref b30)])) rfl rfl (hb hby at_24)
  have V50 : Arv Z h50 b30 k30 .int (15 : Int32) [(.int (65 : Int32)), (.int (95 : Int32)), (.int (97 : Int32)), (.int (192 : Int32)), (.int (0 : Int32)), (.int (0 : Int32)), (.int (0 : Int32)), (.int (0 : Int32)), (.int (0 : Int32)), (.int (0 : Int32)), (.int (0 : Int32)), (.int (0 : Int32)), (.int (0 : Int32)), (.int (0 : Int32)), (.int (0 : Int32))] (.int (0 : Int32)) := Arv.set Arc48 qc48 Sc48 Nc48 Hc48 Gc48 rfl W50 3 rfl (Nat.le_of_ble_eq_true rfl)
  have z51 := Nat.le_trans z46 (Keep.of_wr W50).1
  have N50 := Fr.snoc X50 N45 g31
  refine Goes.of st50 ?_
  show Goes p e below (T50.setTop (mkF m 25 #[.val (.int p1), .val (.int p2), .val (.int p3), .val (.int p4), .unset, .unset, .unset, .unset, .unset, .unset, .unset, .unset, .unset, .unset, .unset, .unset, .unset, .unset] [(.ref b30)])) _
  refine Goes.of (fun t k => XS.dup X50.here hx rfl (hb hby at_25) rfl rfl k) ?_
  show Goes p e below (T50.setTop (mkF m 26 #[.val (.int p1), .val (.int p2), .val (.int p3), .val (.int p4), .unset, .unset, .unset, .unset, .unset, .unset, .unset, .unset, .unset, .unset, .unset, .unset, .unset, .unset] [(.ref b30), (.ref b30)])) _
  refine Goes.of (fun t k => XS.iconst X50.here hx rfl (hb hby at_26) k) ?_
  show Goes p e below (T50.setTop (mkF m 27 #[.val (.int p1), .val (.int p2), .val (.int p3), .val (.int p4), .unset, .unset, .unset, .unset, .unset, .unset, .unset, .unset, .unset, .unset, .unset, .unset, .unset, .unset] [(.int (4 : Int32)), (.ref b30), (.ref b30)])) _
  refine Goes.of (fun t k => XS.sipush X50.here hx rfl (hb hby at_27) k) ?_
  have Vc53 := V50
  obtain ⟨clc53, Arc53, qc53, Sc53, Nc53, Hc53, Gc53⟩ := Vc53
  have hin54 : ¬ ((4 : Int32) < 0 ∨ clc53.slots.size ≤ ((4 : Int32)).toNatClampNeg) := inb_of Sc53 ⟨by decide, by decide⟩
  obtain ⟨T55, h55, X55, e55, W55, st55⟩ := stI X50 hx hZ e50 Arc53 (j := (4 : Int32)) hin54 (g := (mkF m 30 #[.val (.int p1), .val (.int p2), .val (.int p3), .val (.int p4), .unset, .unset, .unset, .unset, .unset, .unset, .unset, .unset, .unset, .unset, .unset, .unset, .unset, .unset] [(.int (216 : Int32)), (.int (4 : Int32)), (.ref b30), (.ref b30)])) rfl rfl (hb hby at_30)
  have V55 : Arv Z h55 b30 k30 .int (15 : Int32) [(.int (65 : Int32)), (.int (95 : Int32)), (.int (97 : Int32)), (.int (192 : Int32)), (.int (216 : Int32)), (.int (0 : Int32)), (.int (0 : Int32)), (.int (0 : Int32)), (.int (0 : Int32)), (.int (0 : Int32)), (.int (0 : Int32)), (.int (0 : Int32)), (.int (0 : Int32)), (.int (0 : Int32)), (.int (0 : Int32))] (.int (0 : Int32)) := Arv.set Arc53 qc53 Sc53 Nc53 Hc53 Gc53 rfl W55 4 rfl (Nat.le_of_ble_eq_true rfl)
  have z56 := Nat.le_trans z51 (Keep.of_wr W55).1
  have N55 := Fr.snoc X55 N50 g31
  refine Goes.of st55 ?_
  show Goes p e below (T55.setTop (mkF m 31 #[.val (.int p1), .val (.int p2), .val (.int p3), .val (.int p4), .unset, .unset, .unset, .unset, .unset, .unset, .unset, .unset, .unset, .unset, .unset, .unset, .unset, .unset] [(.ref b30)])) _
  refine Goes.of (fun t k => XS.dup X55.here hx rfl (hb hby at_31) rfl rfl k) ?_
  show Goes p e below (T55.setTop (mkF m 32 #[.val (.int p1), .val (.int p2), .val (.int p3), .val (.int p4), .unset, .unset, .unset, .unset, .unset, .unset, .unset, .unset, .unset, .unset, .unset, .unset, .unset, .unset] [(.ref b30), (.ref b30)])) _
  refine Goes.of (fun t k => XS.iconst X55.here hx rfl (hb hby at_32) k) ?_
  show Goes p e below (T55.setTop (mkF m 33 #[.val (.int p1), .val (.int p2), .val (.int p3), .val (.int p4), .unset, .unset, .unset, .unset, .unset, .unset, .unset, .unset, .unset, .unset, .unset, .unset, .unset, .unset] [(.int (5 : Int32)), (.ref b30), (.ref b30)])) _
  refine Goes.of (fun t k => XS.sipush X55.here hx rfl (hb hby at_33) k) ?_
  have Vc58 := V55
  obtain ⟨clc58, Arc58, qc58, Sc58, Nc58, Hc58, Gc58⟩ := Vc58
  have hin59 : ¬ ((5 : Int32) < 0 ∨ clc58.slots.size ≤ ((5 : Int32)).toNatClampNeg) := inb_of Sc58 ⟨by decide, by decide⟩
  obtain ⟨T60, h60, X60, e60, W60, st60⟩ := stI X55 hx hZ e55 Arc58 (j := (5 : Int32)) hin59 (g := (mkF m 36 #[.val (.int p1), .val (.int p2), .val (.int p3), .val (.int p4), .unset, .unset, .unset, .unset, .unset, .unset, .unset, .unset, .unset, .unset, .unset, .unset, .unset, .unset] [(.int (248 : Int32)), (.int (5 : Int32)), (.ref b30), (.ref b30)])) rfl rfl (hb hby at_36)
  have V60 : Arv Z h60 b30 k30 .int (15 : Int32) [(.int (65 : Int32)), (.int (95 : Int32)), (.int (97 : Int32)), (.int (192 : Int32)), (.int (216 : Int32)), (.int (248 : Int32)), (.int (0 : Int32)), (.int (0 : Int32)), (.int (0 : Int32)), (.int (0 : Int32)), (.int (0 : Int32)), (.int (0 : Int32)), (.int (0 : Int32)), (.int (0 : Int32)), (.int (0 : Int32))] (.int (0 : Int32)) := Arv.set Arc58 qc58 Sc58 Nc58 Hc58 Gc58 rfl W60 5 rfl (Nat.le_of_ble_eq_true rfl)
  have z61 := Nat.le_trans z56 (Keep.of_wr W60).1
  have N60 := Fr.snoc X60 N55 g31
  refine Goes.of st60 ?_
  show Goes p e below (T60.setTop (mkF m 37 #[.val (.int p1), .val (.int p2), .val (.int p3), .val (.int p4), .unset, .unset, .unset, .unset, .unset, .unset, .unset, .unset, .unset, .unset, .unset, .unset, .unset, .unset] [(.ref b30)])) _
  refine Goes.of (fun t k => XS.dup X60.here hx rfl (hb hby at_37) rfl rfl k) ?_
  show Goes p e below (T60.setTop (mkF m 38 #[.val (.int p1), .val (.int p2), .val (.int p3), .val (.int p4), .unset, .unset, .unset, .unset, .unset, .unset, .unset, .unset, .unset, .unset, .unset, .unset, .unset, .unset] [(.ref b30), (.ref b30)])) _
  refine Goes.of (fun t k => XS.bipush X60.here hx rfl (hb hby at_38) k) ?_
  show Goes p e below (T60.setTop (mkF m 40 #[.val (.int p1), .val (.int p2), .val (.int p3), .val (.int p4), .unset, .unset, .unset, .unset, .unset, .unset, .unset, .unset, .unset, .unset, .unset, .unset, .unset, .unset] [(.int (6 : Int32)), (.ref b30), (.ref b30)])) _
  refine Goes.of (fun t k => XS.sipush X60.here hx rfl (hb hby at_40) k) ?_
  have Vc63 := V60
  obtain ⟨clc63, Arc63, qc63, Sc63, Nc63, Hc63, Gc63⟩ := Vc63
  have hin64 : ¬ ((6 : Int32) < 0 ∨ clc63.slots.size ≤ ((6 : Int32)).toNatClampNeg) := inb_of Sc63 ⟨by decide, by decide⟩
  obtain ⟨T65, h65, X65, e65, W65, st65⟩ := stI X60 hx hZ e60 Arc63 (j := (6 : Int32)) hin64 (g := (mkF m 43 #[.val (.int p1), .val (.int p2), .val (.int p3), .val (.int p4), .unset, .unset, .unset, .unset, .unset, .unset, .unset, .unset, .unset, .unset, .unset, .unset, .unset, .unset] [(.int (880 : Int32)), (.int (6 : Int32)), (.ref b30), (.ref b30)])) rfl rfl (hb hby at_43)
  have V65 : Arv Z h65 b30 k30 .int (15 : Int32) [(.int (65 : Int32)), (.int (95 : Int32)), (.int (97 : Int32)), (.int (192 : Int32)), (.int (216 : Int32)), (.int (248 : Int32)), (.int (880 : Int32)), (.int (0 : Int32)), (.int (0 : Int32)), (.int (0 : Int32)), (.int (0 : Int32)), (.int (0 : Int32)), (.int (0 : Int32)), (.int (0 : Int32)), (.int (0 : Int32))] (.int (0 : Int32)) := Arv.set Arc63 qc63 Sc63 Nc63 Hc63 Gc63 rfl W65 6 rfl (Nat.le_of_ble_eq_true rfl)
  have z66 := Nat.le_trans z61 (Keep.of_wr W65).1
  have N65 := Fr.snoc X65 N60 g31
  refine Goes.of st65 ?_
  show Goes p e below (T65.setTop (mkF m 44 #[.val (.int p1), .val (.int p2), .val (.int p3), .val (.int p4), .unset, .unset, .unset, .unset, .unset, .unset, .unset, .unset, .unset, .unset, .unset, .unset, .unset, .unset] [(.ref b30)])) _
  refine Goes.of (fun t k => XS.dup X65.here hx rfl (hb hby at_44) rfl rfl k) ?_
  show Goes p e below (T65.setTop (mkF m 45 #[.val (.int p1), .val (.int p2), .val (.int p3), .val (.int p4), .unset, .unset, .unset, .unset, .unset, .unset, .unset, .unset, .unset, .unset, .unset, .unset, .unset, .unset] [(.ref b30), (.ref b30)])) _
  refine Goes.of (fun t k => XS.bipush X65.here hx rfl (hb hby at_45) k) ?_
  show Goes p e below (T65.setTop (mkF m 47 #[.val (.int p1), .val (.int p2), .val (.int p3), .val (.int p4), .unset, .unset, .unset, .unset, .unset, .unset, .unset, .unset, .unset, .unset, .unset, .unset, .unset, .unset] [(.int (7 : Int32)), (.ref b30), (.ref b30)])) _
  refine Goes.of (fun t k => XS.sipush X65.here hx rfl (hb hby at_47) k) ?_
  have Vc68 := V65
  obtain ⟨clc68, Arc68, qc68, Sc68, Nc68, Hc68, Gc68⟩ := Vc68
  have hin69 : ¬ ((7 : Int32) < 0 ∨ clc68.slots.size ≤ ((7 : Int32)).toNatClampNeg) := inb_of Sc68 ⟨by decide, by decide⟩
  obtain ⟨T70, h70, X70, e70, W70, st70⟩ := stI X65 hx hZ e65 Arc68 (j := (7 : Int32)) hin69 (g := (mkF m 50 #[.val (.int p1), .val (.int p2), .val (.int p3), .val (.int p4), .unset, .unset, .unset, .unset, .unset, .unset, .unset, .unset, .unset, .unset, .unset, .unset, .unset, .unset] [(.int (895 : Int32)), (.int (7 : Int32)), (.ref b30), (.ref b30)])) rfl rfl (hb hby at_50)
  have V70 : Arv Z h70 b30 k30 .int (15 : Int32) [(.int (65 : Int32)), (.int (95 : Int32)), (.int (97 : Int32)), (.int (192 : Int32)), (.int (216 : Int32)), (.int (248 : Int32)), (.int (880 : Int32)), (.int (895 : Int32)), (.int (0 : Int32)), (.int (0 : Int32)), (.int (0 : Int32)), (.int (0 : Int32)), (.int (0 : Int32)), (.int (0 : Int32)), (.int (0 : Int32))] (.int (0 : Int32)) := Arv.set Arc68 qc68 Sc68 Nc68 Hc68 Gc68 rfl W70 7 rfl (Nat.le_of_ble_eq_true rfl)
  have z71 := Nat.le_trans z66 (Keep.of_wr W70).1
  have N70 := Fr.snoc X70 N65 g31
  refine Goes.of st70 ?_
  show Goes p e below (T70.setTop (mkF m 51 #[.val (.int p1), .val (.int p2), .val (.int p3), .val (.int p4), .unset, .unset, .unset, .unset, .unset, .unset, .unset, .unset, .unset, .unset, .unset, .unset, .unset, .unset] [(.ref b30)])) _
  refine Goes.of (fun t k => XS.dup X70.here hx rfl (hb hby at_51) rfl rfl k) ?_
  show Goes p e below (T70.setTop (mkF m 52 #[.val (.int p1), .val (.int p2), .val (.int p3), .val (.int p4), .unset, .unset, .unset, .unset, .unset, .unset, .unset, .unset, .unset, .unset, .unset, .unset, .unset, .unset] [(.ref b30), (.ref b30)])) _
  refine Goes.of (fun t k => XS.bipush X70.here hx rfl (hb hby at_52) k) ?_
  show Goes p e below (T70.setTop (mkF m 54 #[.val (.int p1), .val (.int p2), .val (.int p3), .val (.int p4), .unset, .unset, .unset, .unset, .unset, .unset, .unset, .unset, .unset, .unset, .unset, .unset, .unset, .unset] [(.int (8 : Int32)), (.ref b30), (.ref b30)])) _
  refine Goes.of (fun t k => XS.sipush X70.here hx rfl (hb hby at_54) k) ?_
  have Vc73 := V70
  obtain ⟨clc73, Arc73, qc73, Sc73, Nc73, Hc73, Gc73⟩ := Vc73
  have hin74 : ¬ ((8 : Int32) < 0 ∨ clc73.slots.size ≤ ((8 : Int32)).toNatClampNeg) := inb_of Sc73 ⟨by decide, by decide⟩
  obtain ⟨T75, h75, X75, e75, W75, st75⟩ := stI X70 hx hZ e70 Arc73 (j := (8 : Int32)) hin74 (g := (mkF m 57 #[.val (.int p1), .val (.int p2), .val (.int p3), .val (.int p4), .unset, .unset, .unset, .unset, .unset, .unset, .unset, .unset, .unset, .unset, .unset, .unset, .unset, .unset] [(.int (8204 : Int32)), (.int (8 : Int32)), (.ref b30), (.ref b30)])) rfl rfl (hb hby at_57)
  have V75 : Arv Z h75 b30 k30 .int (15 : Int32) [(.int (65 : Int32)), (.int (95 : Int32)), (.int (97 : Int32)), (.int (192 : Int32)), (.int (216 : Int32)), (.int (248 : Int32)), (.int (880 : Int32)), (.int (895 : Int32)), (.int (8204 : Int32)), (.int (0 : Int32)), (.int (0 : Int32)), (.int (0 : Int32)), (.int (0 : Int32)), (.int (0 : Int32)), (.int (0 : Int32))] (.int (0 : Int32)) := Arv.set Arc73 qc73 Sc73 Nc73 Hc73 Gc73 rfl W75 8 rfl (Nat.le_of_ble_eq_true rfl)
  have z76 := Nat.le_trans z71 (Keep.of_wr W75).1
  have N75 := Fr.snoc X75 N70 g31
  refine Goes.of st75 ?_
  show Goes p e below (T75.setTop (mkF m 58 #[.val (.int p1), .val (.int p2), .val (.int p3), .val (.int p4), .unset, .unset, .unset, .unset, .unset, .unset, .unset, .unset, .unset, .unset, .unset, .unset, .unset, .unset] [(.ref b30)])) _
  refine Goes.of (fun t k => XS.dup X75.here hx rfl (hb hby at_58) rfl rfl k) ?_
  show Goes p e below (T75.setTop (mkF m 59 #[.val (.int p1), .val (.int p2), .val (.int p3), .val (.int p4), .unset, .unset, .unset, .unset, .unset, .unset, .unset, .unset, .unset, .unset, .unset, .unset, .unset, .unset] [(.ref b30), (.ref b30)])) _
  refine Goes.of (fun t k => XS.bipush X75.here hx rfl (hb hby at_59) k) ?_
  show Goes p e below (T75.setTop (mkF m 61 #[.val (.int p1), .val (.int p2), .val (.int p3), .val (.int p4), .unset, .unset, .unset, .unset, .unset, .unset, .unset, .unset, .unset, .unset, .unset, .unset, .unset, .unset] [(.int (9 : Int32)), (.ref b30), (.ref b30)])) _
  refine Goes.of (fun t k => XS.sipush X75.here hx rfl (hb hby at_61) k) ?_
  have Vc78 := V75
  obtain ⟨clc78, Arc78, qc78, Sc78, Nc78, Hc78, Gc78⟩ := Vc78
  have hin79 : ¬ ((9 : Int32) < 0 ∨ clc78.slots.size ≤ ((9 : Int32)).toNatClampNeg) := inb_of Sc78 ⟨by decide, by decide⟩
  obtain ⟨T80, h80, X80, e80, W80, st80⟩ := stI X75 hx hZ e75 Arc78 (j := (9 : Int32)) hin79 (g := (mkF m 64 #[.val (.int p1), .val (.int p2), .val (.int p3), .val (.int p4), .unset, .unset, .unset, .unset, .unset, .unset, .unset, .unset, .unset, .unset, .unset, .unset, .unset, .unset] [(.int (8304 : Int32)), (.int (9 : Int32)), (.ref b30), (.ref b30)])) rfl rfl (hb hby at_64)
  have V80 : Arv Z h80 b30 k30 .int (15 : Int32) [(.int (65 : Int32)), (.int (95 : Int32)), (.int (97 : Int32)), (.int (192 : Int32)), (.int (216 : Int32)), (.int (248 : Int32)), (.int (880 : Int32)), (.int (895 : Int32)), (.int (8204 : Int32)), (.int (8304 : Int32)), (.int (0 : Int32)), (.int (0 : Int32)), (.int (0 : Int32)), (.int (0 : Int32)), (.int (0 : Int32))] (.int (0 : Int32)) := Arv.set Arc78 qc78 Sc78 Nc78 Hc78 Gc78 rfl W80 9 rfl (Nat.le_of_ble_eq_true rfl)
  have z81 := Nat.le_trans z76 (Keep.of_wr W80).1
  have N80 := Fr.snoc X80 N75 g31
  refine Goes.of st80 ?_
  show Goes p e below (T80.setTop (mkF m 65 #[.val (.int p1), .val (.int p2), .val (.int p3), .val (.int p4), .unset, .unset, .unset, .unset, .unset, .unset, .unset, .unset, .unset, .unset, .unset, .unset, .unset, .unset] [(.ref b30)])) _
  refine Goes.of (fun t k => XS.dup X80.here hx rfl (hb hby at_65) rfl rfl k) ?_
  show Goes p e below (T80.setTop (mkF m 66 #[.val (.int p1), .val (.int p2), .val (.int p3), .val (.int p4), .unset, .unset, .unset, .unset, .unset, .unset, .unset, .unset, .unset, .unset, .unset, .unset, .unset, .unset] [(.ref b30), (.ref b30)])) _
  refine Goes.of (fun t k => XS.bipush X80.here hx rfl (hb hby at_66) k) ?_
  show Goes p e below (T80.setTop (mkF m 68 #[.val (.int p1), .val (.int p2), .val (.int p3), .val (.int p4), .unset, .unset, .unset, .unset, .unset, .unset, .unset, .unset, .unset, .unset, .unset, .unset, .unset, .unset] [(.int (10 : Int32)), (.ref b30), (.ref b30)])) _
  refine Goes.of (fun t k => XS.sipush X80.here hx rfl (hb hby at_68) k) ?_
  have Vc83 := V80
  obtain ⟨clc83, Arc83, qc83, Sc83, Nc83, Hc83, Gc83⟩ := Vc83
  have hin84 : ¬ ((10 : Int32) < 0 ∨ clc83.slots.size ≤ ((10 : Int32)).toNatClampNeg) := inb_of Sc83 ⟨by decide, by decide⟩
  obtain ⟨T85, h85, X85, e85, W85, st85⟩ := stI X80 hx hZ e80 Arc83 (j := (10 : Int32)) hin84 (g := (mkF m 71 #[.val (.int p1), .val (.int p2), .val (.int p3), .val (.int p4), .unset, .unset, .unset, .unset, .unset, .unset, .unset, .unset, .unset, .unset, .unset, .unset, .unset, .unset] [(.int (11264 : Int32)), (.int (10 : Int32)), (.ref b30), (.ref b30)])) rfl rfl (hb hby at_71)
  have V85 : Arv Z h85 b30 k30 .int (15 : Int32) [(.int (65 : Int32)), (.int (95 : Int32)), (.int (97 : Int32)), (.int (192 : Int32)), (.int (216 : Int32)), (.int (248 : Int32)), (.int (880 : Int32)), (.int (895 : Int32)), (.int (8204 : Int32)), (.int (8304 : Int32)), (.int (11264 : Int32)), (.int (0 : Int32)), (.int (0 : Int32)), (.int (0 : Int32)), (.int (0 : Int32))] (.int (0 : Int32)) := Arv.set Arc83 qc83 Sc83 Nc83 Hc83 Gc83 rfl W85 10 rfl (Nat.le_of_ble_eq_true rfl)
  have z86 := Nat.le_trans z81 (Keep.of_wr W85).1
  have N85 := Fr.snoc X85 N80 g31
  refine Goes.of st85 ?_
  show Goes p e below (T85.setTop (mkF m 72 #[.val (.int p1), .val (.int p2), .val (.int p3), .val (.int p4), .unset, .unset, .unset, .unset, .unset, .unset, .unset, .unset, .unset, .unset, .unset, .unset, .unset, .unset] [(.ref b30)])) _
  refine Goes.of (fun t k => XS.dup X85.here hx rfl (hb hby at_72) rfl rfl k) ?_
  show Goes p e below (T85.setTop (mkF m 73 #[.val (.int p1), .val (.int p2), .val (.int p3), .val (.int p4), .unset, .unset, .unset, .unset, .unset, .unset, .unset, .unset, .unset, .unset, .unset, .unset, .unset, .unset] [(.ref b30), (.ref b30)])) _
  refine Goes.of (fun t k => XS.bipush X85.here hx rfl (hb hby at_73) k) ?_
  show Goes p e below (T85.setTop (mkF m 75 #[.val (.int p1), .val (.int p2), .val (.int p3), .val (.int p4), .unset, .unset, .unset, .unset, .unset, .unset, .unset, .unset, .unset, .unset, .unset, .unset, .unset, .unset] [(.int (11 : Int32)), (.ref b30), (.ref b30)])) _
  refine Goes.of (fun t k => XS.sipush X85.here hx rfl (hb hby at_75) k) ?_
  have Vc88 := V85
  obtain ⟨clc88, Arc88, qc88, Sc88, Nc88, Hc88, Gc88⟩ := Vc88
  have hin89 : ¬ ((11 : Int32) < 0 ∨ clc88.slots.size ≤ ((11 : Int32)).toNatClampNeg) := inb_of Sc88 ⟨by decide, by decide⟩
  obtain ⟨T90, h90, X90, e90, W90, st90⟩ := stI X85 hx hZ e85 Arc88 (j := (11 : Int32)) hin89 (g := (mkF m 78 #[.val (.int p1), .val (.int p2), .val (.int p3), .val (.int p4), .unset, .unset, .unset, .unset, .unset, .unset, .unset, .unset, .unset, .unset, .unset, .unset, .unset, .unset] [(.int (12289 : Int32)), (.int (11 : Int32)), (.ref b30), (.ref b30)])) rfl rfl (hb hby at_78)
  have V90 : Arv Z h90 b30 k30 .int (15 : Int32) [(.int (65 : Int32)), (.int (95 : Int32)), (.int (97 : Int32)), (.int (192 : Int32)), (.int (216 : Int32)), (.int (248 : Int32)), (.int (880 : Int32)), (.int (895 : Int32)), (.int (8204 : Int32)), (.int (8304 : Int32)), (.int (11264 : Int32)), (.int (12289 : Int32)), (.int (0 : Int32)), (.int (0 : Int32)), (.int (0 : Int32))] (.int (0 : Int32)) := Arv.set Arc88 qc88 Sc88 Nc88 Hc88 Gc88 rfl W90 11 rfl (Nat.le_of_ble_eq_true rfl)
  have z91 := Nat.le_trans z86 (Keep.of_wr W90).1
  have N90 := Fr.snoc X90 N85 g31
  refine Goes.of st90 ?_
  show Goes p e below (T90.setTop (mkF m 79 #[.val (.int p1), .val (.int p2), .val (.int p3), .val (.int p4), .unset, .unset, .unset, .unset, .unset, .unset, .unset, .unset, .unset, .unset, .unset, .unset, .unset, .unset] [(.ref b30)])) _
  refine Goes.of (fun t k => XS.dup X90.here hx rfl (hb hby at_79) rfl rfl k) ?_
  show Goes p e below (T90.setTop (mkF m 80 #[.val (.int p1), .val (.int p2), .val (.int p3), .val (.int p4), .unset, .unset, .unset, .unset, .unset, .unset, .unset, .unset, .unset, .unset, .unset, .unset, .unset, .unset] [(.ref b30), (.ref b30)])) _
  refine Goes.of (fun t k => XS.bipush X90.here hx rfl (hb hby at_80) k) ?_
  show Goes p e below (T90.setTop (mkF m 82 #[.val (.int p1), .val (.int p2), .val (.int p3), .val (.int p4), .unset, .unset, .unset, .unset, .unset, .unset, .unset, .unset, .unset, .unset, .unset, .unset, .unset, .unset] [(.int (12 : Int32)), (.ref b30), (.ref b30)])) _
  refine Goes.of (fun t k => X90.ldcInt hx hown (mvT hZ (wd hw 1 rfl)) (g := (mkF m 82 #[.val (.int p1), .val (.int p2), .val (.int p3), .val (.int p4), .unset, .unset, .unset, .unset, .unset, .unset, .unset, .unset, .unset, .unset, .unset, .unset, .unset, .unset] [(.int (12 : Int32)), (.ref b30), (.ref b30)])) rfl (hb hby at_82) _ k) ?_
  have Vc93 := V90
  obtain ⟨clc93, Arc93, qc93, Sc93, Nc93, Hc93, Gc93⟩ := Vc93
  have hin94 : ¬ ((12 : Int32) < 0 ∨ clc93.slots.size ≤ ((12 : Int32)).toNatClampNeg) := inb_of Sc93 ⟨by decide, by decide⟩
  obtain ⟨T95, h95, X95, e95, W95, st95⟩ := stI X90 hx hZ e90 Arc93 (j := (12 : Int32)) hin94 (g := (mkF m 84 #[.val (.int p1), .val (.int p2), .val (.int p3), .val (.int p4), .unset, .unset, .unset, .unset, .unset, .unset, .unset, .unset, .unset, .unset, .unset, .unset, .unset, .unset] [(.int (63744 : Int32)), (.int (12 : Int32)), (.ref b30), (.ref b30)])) rfl rfl (hb hby at_84)
  have V95 : Arv Z h95 b30 k30 .int (15 : Int32) [(.int (65 : Int32)), (.int (95 : Int32)), (.int (97 : Int32)), (.int (192 : Int32)), (.int (216 : Int32)), (.int (248 : Int32)), (.int (880 : Int32)), (.int (895 : Int32)), (.int (8204 : Int32)), (.int (8304 : Int32)), (.int (11264 : Int32)), (.int (12289 : Int32)), (.int (63744 : Int32)), (.int (0 : Int32)), (.int (0 : Int32))] (.int (0 : Int32)) := Arv.set Arc93 qc93 Sc93 Nc93 Hc93 Gc93 rfl W95 12 rfl (Nat.le_of_ble_eq_true rfl)
  have z96 := Nat.le_trans z91 (Keep.of_wr W95).1
  have N95 := Fr.snoc X95 N90 g31
  refine Goes.of st95 ?_
  show Goes p e below (T95.setTop (mkF m 85 #[.val (.int p1), .val (.int p2), .val (.int p3), .val (.int p4), .unset, .unset, .unset, .unset, .unset, .unset, .unset, .unset, .unset, .unset, .unset, .unset, .unset, .unset] [(.ref b30)])) _
  refine Goes.of (fun t k => XS.dup X95.here hx rfl (hb hby at_85) rfl rfl k) ?_
  show Goes p e below (T95.setTop (mkF m 86 #[.val (.int p1), .val (.int p2), .val (.int p3), .val (.int p4), .unset, .unset, .unset, .unset, .unset, .unset, .unset, .unset, .unset, .unset, .unset, .unset, .unset, .unset] [(.ref b30), (.ref b30)])) _
  refine Goes.of (fun t k => XS.bipush X95.here hx rfl (hb hby at_86) k) ?_
  show Goes p e below (T95.setTop (mkF m 88 #[.val (.int p1), .val (.int p2), .val (.int p3), .val (.int p4), .unset, .unset, .unset, .unset, .unset, .unset, .unset, .unset, .unset, .unset, .unset, .unset, .unset, .unset] [(.int (13 : Int32)), (.ref b30), (.ref b30)])) _
  refine Goes.of (fun t k => X95.ldcInt hx hown (mvT hZ (wd hw 2 rfl)) (g := (mkF m 88 #[.val (.int p1), .val (.int p2), .val (.int p3), .val (.int p4), .unset, .unset, .unset, .unset, .unset, .unset, .unset, .unset, .unset, .unset, .unset, .unset, .unset, .unset] [(.int (13 : Int32)), (.ref b30), (.ref b30)])) rfl (hb hby at_88) _ k) ?_
  have Vc98 := V95
  obtain ⟨clc98, Arc98, qc98, Sc98, Nc98, Hc98, Gc98⟩ := Vc98
  have hin99 : ¬ ((13 : Int32) < 0 ∨ clc98.slots.size ≤ ((13 : Int32)).toNatClampNeg) := inb_of Sc98 ⟨by decide, by decide⟩
  obtain ⟨T100, h100, X100, e100, W100, st100⟩ := stI X95 hx hZ e95 Arc98 (j := (13 : Int32)) hin99 (g := (mkF m 90 #[.val (.int p1), .val (.int p2), .val (.int p3), .val (.int p4), .unset, .unset, .unset, .unset, .unset, .unset, .unset, .unset, .unset, .unset, .unset, .unset, .unset, .unset] [(.int (65008 : Int32)), (.int (13 : Int32)), (.ref b30), (.ref b30)])) rfl rfl (hb hby at_90)
  have V100 : Arv Z h100 b30 k30 .int (15 : Int32) [(.int (65 : Int32)), (.int (95 : Int32)), (.int (97 : Int32)), (.int (192 : Int32)), (.int (216 : Int32)), (.int (248 : Int32)), (.int (880 : Int32)), (.int (895 : Int32)), (.int (8204 : Int32)), (.int (8304 : Int32)), (.int (11264 : Int32)), (.int (12289 : Int32)), (.int (63744 : Int32)), (.int (65008 : Int32)), (.int (0 : Int32))] (.int (0 : Int32)) := Arv.set Arc98 qc98 Sc98 Nc98 Hc98 Gc98 rfl W100 13 rfl (Nat.le_of_ble_eq_true rfl)
  have z101 := Nat.le_trans z96 (Keep.of_wr W100).1
  have N100 := Fr.snoc X100 N95 g31
  refine Goes.of st100 ?_
  show Goes p e below (T100.setTop (mkF m 91 #[.val (.int p1), .val (.int p2), .val (.int p3), .val (.int p4), .unset, .unset, .unset, .unset, .unset, .unset, .unset, .unset, .unset, .unset, .unset, .unset, .unset, .unset] [(.ref b30)])) _
  refine Goes.of (fun t k => XS.dup X100.here hx rfl (hb hby at_91) rfl rfl k) ?_
  show Goes p e below (T100.setTop (mkF m 92 #[.val (.int p1), .val (.int p2), .val (.int p3), .val (.int p4), .unset, .unset, .unset, .unset, .unset, .unset, .unset, .unset, .unset, .unset, .unset, .unset, .unset, .unset] [(.ref b30), (.ref b30)])) _
  refine Goes.of (fun t k => XS.bipush X100.here hx rfl (hb hby at_92) k) ?_
  show Goes p e below (T100.setTop (mkF m 94 #[.val (.int p1), .val (.int p2), .val (.int p3), .val (.int p4), .unset, .unset, .unset, .unset, .unset, .unset, .unset, .unset, .unset, .unset, .unset, .unset, .unset, .unset] [(.int (14 : Int32)), (.ref b30), (.ref b30)])) _
  refine Goes.of (fun t k => X100.ldcInt hx hown (mvT hZ (wd hw 3 rfl)) (g := (mkF m 94 #[.val (.int p1), .val (.int p2), .val (.int p3), .val (.int p4), .unset, .unset, .unset, .unset, .unset, .unset, .unset, .unset, .unset, .unset, .unset, .unset, .unset, .unset] [(.int (14 : Int32)), (.ref b30), (.ref b30)])) rfl (hb hby at_94) _ k) ?_
  have Vc103 := V100
  obtain ⟨clc103, Arc103, qc103, Sc103, Nc103, Hc103, Gc103⟩ := Vc103
  have hin104 : ¬ ((14 : Int32) < 0 ∨ clc103.slots.size ≤ ((14 : Int32)).toNatClampNeg) := inb_of Sc103 ⟨by decide, by decide⟩
  obtain ⟨T105, h105, X105, e105, W105, st105⟩ := stI X100 hx hZ e100 Arc103 (j := (14 : Int32)) hin104 (g := (mkF m 96 #[.val (.int p1), .val (.int p2), .val (.int p3), .val (.int p4), .unset, .unset, .unset, .unset, .unset, .unset, .unset, .unset, .unset, .unset, .unset, .unset, .unset, .unset] [(.int (65536 : Int32)), (.int (14 : Int32)), (.ref b30), (.ref b30)])) rfl rfl (hb hby at_96)
  have V105 : Arv Z h105 b30 k30 .int (15 : Int32) [(.int (65 : Int32)), (.int (95 : Int32)), (.int (97 : Int32)), (.int (192 : Int32)), (.int (216 : Int32)), (.int (248 : Int32)), (.int (880 : Int32)), (.int (895 : Int32)), (.int (8204 : Int32)), (.int (8304 : Int32)), (.int (11264 : Int32)), (.int (12289 : Int32)), (.int (63744 : Int32)), (.int (65008 : Int32)), (.int (65536 : Int32))] (.int (0 : Int32)) := Arv.set Arc103 qc103 Sc103 Nc103 Hc103 Gc103 rfl W105 14 rfl (Nat.le_of_ble_eq_true rfl)
  have z106 := Nat.le_trans z101 (Keep.of_wr W105).1
  have N105 := Fr.snoc X105 N100 g31
  refine Goes.of st105 ?_
  show Goes p e below (T105.setTop (mkF m 97 #[.val (.int p1), .val (.int p2), .val (.int p3), .val (.int p4), .unset, .unset, .unset, .unset, .unset, .unset, .unset, .unset, .unset, .unset, .unset, .unset, .unset, .unset] [(.ref b30)])) _
  obtain ⟨LX108, X108, N108⟩ : ∃ LX, Stand p l e room_1 s m #[(.int p1), (.int p2), (.int p3), (.int p4)] below meth c T105 LX 1 15 ∧ Fr n0 LX := ⟨_, X105, N105⟩
  refine Goes.of (fun t k => XS.astore X108.here hx rfl (hb hby at_97) rfl rfl (l' := #[.val (.int p1), .val (.int p2), .val (.int p3), .val (.int p4), .val (.ref b30), .unset, .unset, .unset, .unset, .unset, .unset, .unset, .unset, .unset, .unset, .unset, .unset, .unset]) rfl k) ?_
  show Goes p e below (T105.setTop (mkF m 99 #[.val (.int p1), .val (.int p2), .val (.int p3), .val (.int p4), .val (.ref b30), .unset, .unset, .unset, .unset, .unset, .unset, .unset, .unset, .unset, .unset, .unset, .unset, .unset] [])) _
  refine Goes.of (fun t k => XS.bipush X108.here hx rfl (hb hby at_99) k) ?_
  obtain ⟨T109, h109, k109, X109, e109, E109, A109, st109⟩ := newP X108 hx hZ (wd hw 0 rfl) e105 (g := (mkF m 101 #[.val (.int p1), .val (.int p2), .val (.int p3), .val (.int p4), .val (.ref b30), .unset, .unset, .unset, .unset, .unset, .unset, .unset, .unset, .unset, .unset, .unset, .unset, .unset] [(.int (15 : Int32))])) rfl (hb hby at_101) rfl (by decide) (cap := 15) (by decide) (by decide) (by decide) (by decide)
  obtain ⟨b109, g109⟩ : ∃ z, z = h105.size := ⟨_, rfl⟩
  rw [← g109] at A109 st109
  have g110 : n0 ≤ b109 := Nat.le_trans z106 (Nat.le_of_eq g109.symm)
  have z111 := Nat.le_trans z106 E109.1
  have q112 : b30 ≠ b109 := Nat.ne_of_lt (Nat.lt_of_lt_of_le V105.lt (Nat.le_of_eq g109.symm))
  have f113 := V105.ext E109
  have V109 : Arv Z h109 b109 k109 .int (15 : Int32) [(.int (0 : Int32)), (.int (0 : Int32)), (.int (0 : Int32)), (.int (0 : Int32)), (.int (0 : Int32)), (.int (0 : Int32)), (.int (0 : Int32)), (.int (0 : Int32)), (.int (0 : Int32)), (.int (0 : Int32)), (.int (0 : Int32)), (.int (0 : Int32)), (.int (0 : Int32)), (.int (0 : Int32)), (.int (0 : Int32))] (.int (0 : Int32)) := (Arv.new A109 (by decide)).pad (pad_rep [] (.int (0 : Int32)) 15)
  refine Goes.of st109 ?_
  show Goes p e below (T109.setTop (mkF m 103 #[.val (.int p1), .val (.int p2), .val (.int p3), .val (.int p4), .val (.ref b30), .unset, .unset, .unset, .unset, .unset, .unset, .unset, .unset, .unset, .unset, .unset, .unset, .unset] [(.ref b109)])) _
  refine Goes.of (fun t k => XS.dup X109.here hx rfl (hb hby at_103) rfl rfl k) ?_
  show Goes p e below (T109.setTop (mkF m 104 #[.val (.int p1), .val (.int p2), .val (.int p3), .val (.int p4), .val (.ref b30), .unset, .unset, .unset, .unset, .unset, .unset, .unset, .unset, .unset, .unset, .unset, .unset, .unset] [(.ref b109), (.ref b109)])) _
  refine Goes.of (fun t k => XS.iconst X109.here hx rfl (hb hby at_104) k) ?_
  show Goes p e below (T109.setTop (mkF m 105 #[.val (.int p1), .val (.int p2), .val (.int p3), .val (.int p4), .val (.ref b30), .unset, .unset, .unset, .unset, .unset, .unset, .unset, .unset, .unset, .unset, .unset, .unset, .unset] [(.int (0 : Int32)), (.ref b109), (.ref b109)])) _
  refine Goes.of (fun t k => XS.bipush X109.here hx rfl (hb hby at_105) k) ?_
  have Vc114 := V109
  obtain ⟨clc114, Arc114, qc114, Sc114, Nc114, Hc114, Gc114⟩ := Vc114
  have hin115 : ¬ ((0 : Int32) < 0 ∨ clc114.slots.size ≤ ((0 : Int32)).toNatClampNeg) := inb_of Sc114 ⟨by decide, by decide⟩
  obtain ⟨T116, h116, X116, e116, W116, st116⟩ := stI X109 hx hZ e109 Arc114 (j := (0 : Int32)) hin115 (g := (mkF m 107 #[.val (.int p1), .val (.int p2), .val (.int p3), .val (.int p4), .val (.ref b30), .unset, .unset, .unset, .unset, .unset, .unset, .unset, .unset, .unset, .unset, .unset, .unset, .unset] [(.int (90 : Int32)), (.int (0 : Int32)), (.ref b109), (.ref b109)])) rfl rfl (hb hby at_107)
  have V116 : Arv Z h116 b109 k109 .int (15 : Int32) [(.int (90 : Int32)), (.int (0 : Int32)), (.int (0 : Int32)), (.int (0 : Int32)), (.int (0 : Int32)), (.int (0 : Int32)), (.int (0 : Int32)), (.int (0 : Int32)), (.int (0 : Int32)), (.int (0 : Int32)), (.int (0 : Int32)), (.int (0 : Int32)), (.int (0 : Int32)), (.int (0 : Int32)), (.int (0 : Int32))] (.int (0 : Int32)) := Arv.set Arc114 qc114 Sc114 Nc114 Hc114 Gc114 rfl W116 0 rfl (Nat.le_of_ble_eq_true rfl)
  have z117 := Nat.le_trans z111 (Keep.of_wr W116).1
  have f118 := f113.other W116 q112
  have N116 := Fr.snoc X116 N108 g110
  refine Goes.of st116 ?_
  show Goes p e below (T116.setTop (mkF m 108 #[.val (.int p1), .val (.int p2), .val (.int p3), .val (.int p4), .val (.ref b30), .unset, .unset, .unset, .unset, .unset, .unset, .unset, .unset, .unset, .unset, .unset, .unset, .unset] [(.ref b109)])) _
  refine Goes.of (fun t k => XS.dup X116.here hx rfl (hb hby at_108) rfl rfl k) ?_
  show Goes p e below (T116.setTop (mkF m 109 #[.val (.int p1), .val (.int p2), .val (.int p3), .val (.int p4), .val (.ref b30), .unset, .unset, .unset, .unset, .unset, .unset, .unset, .unset, .unset, .unset, .unset, .unset, .unset] [(.ref b109), (.ref b109)])) _
  refine Goes.of (fun t k => XS.iconst X116.here hx rfl (hb hby at_109) k) ?_
  show Goes p e below (T116.setTop (mkF m 110 #[.val (.int p1), .val (.int p2), .val (.int p3), .val (.int p4), .val (.ref b30), .unset, .unset, .unset, .unset, .unset, .unset, .unset, .unset, .unset, .unset, .unset, .unset, .unset] [(.int (1 : Int32)), (.ref b109), (.ref b109)])) _
  refine Goes.of (fun t k => XS.bipush X116.here hx rfl (hb hby at_110) k) ?_
  have Vc120 := V116
  obtain ⟨clc120, Arc120, qc120, Sc120, Nc120, Hc120, Gc120⟩ := Vc120
  have hin121 : ¬ ((1 : Int32) < 0 ∨ clc120.slots.size ≤ ((1 : Int32)).toNatClampNeg) := inb_of Sc120 ⟨by decide, by decide⟩
  obtain ⟨T122, h122, X122, e122, W122, st122⟩ := stI X116 hx hZ e116 Arc120 (j := (1 : Int32)) hin121 (g := (mkF m 112 #[.val (.int p1), .val (.int p2), .val (.int p3), .val (.int p4), .val (.ref b30), .unset, .unset, .unset, .unset, .unset, .unset, .unset, .unset, .unset, .unset, .unset, .unset, .unset] [(.int (95 : Int32)), (.int (1 : Int32)), (.ref b109), (.ref b109)])) rfl rfl (hb hby at_112)
  have V122 : Arv Z h122 b109 k109 .int (15 : Int32) [(.int (90 : Int32)), (.int (95 : Int32)), (.int (0 : Int32)), (.int (0 : Int32)), (.int (0 : Int32)), (.int (0 : Int32)), (.int (0 : Int32)), (.int (0 : Int32)), (.int (0 : Int32)), (.int (0 : Int32)), (.int (0 : Int32)), (.int (0 : Int32)), (.int (0 : Int32)), (.int (0 : Int32)), (.int (0 : Int32))] (.int (0 : Int32)) := Arv.set Arc120 qc120 Sc120 Nc120 Hc120 Gc120 rfl W122 1 rfl (Nat.le_of_ble_eq_true rfl)
  have z123 := Nat.le_trans z117 (Keep.of_wr W122).1
  have f124 := f118.other W122 q112
  have N122 := Fr.snoc X122 N116 g110
  refine Goes.of st122 ?_
  show Goes p e below (T122.setTop (mkF m 113 #[.val (.int p1), .val (.int p2), .val (.int p3), .val (.int p4), .val (.ref b30), .unset, .unset, .unset, .unset, .unset, .unset, .unset, .unset, .unset, .unset, .unset, .unset, .unset] [(.ref b109)])) _
  refine Goes.of (fun t k => XS.dup X122.here hx rfl (hb hby at_113) rfl rfl k) ?_
  show Goes p e below (T122.setTop (mkF m 114 #[.val (.int p1), .val (.int p2), .val (.int p3), .val (.int p4), .val (.ref b30), .unset, .unset, .unset, .unset, .unset, .unset, .unset, .unset, .unset, .unset, .unset, .unset, .unset] [(.ref b109), (.ref b109)])) _
  refine Goes.of (fun t k => XS.iconst X122.here hx rfl (hb hby at_114) k) ?_
  show Goes p e below (T122.setTop (mkF m 115 #[.val (.int p1), .val (.int p2), .val (.int p3), .val (.int p4), .val (.ref b30), .unset, .unset, .unset, .unset, .unset, .unset, .unset, .unset, .unset, .unset, .unset, .unset, .unset] [(.int (2 : Int32)), (.ref b109), (.ref b109)])) _
  refine Goes.of (fun t k => XS.bipush X122.here hx rfl (hb hby at_115) k) ?_
  have Vc126 := V122
  obtain ⟨clc126, Arc126, qc126, Sc126, Nc126, Hc126, Gc126⟩ := Vc126
  have hin127 : ¬ ((2 : Int32) < 0 ∨ clc126.slots.size ≤ ((2 : Int32)).toNatClampNeg) := inb_of Sc126 ⟨by decide, by decide⟩
  obtain ⟨T128, h128, X128, e128, W128, st128⟩ := stI X122 hx hZ e122 Arc126 (j := (2 : Int32)) hin127 (g := (mkF m 117 #[.val (.int p1), .val (.int p2), .val (.int p3), .val (.int p4), .val (.ref b30), .unset, .unset, .unset, .unset, .unset, .unset, .unset, .unset, .unset, .unset, .unset, .unset, .unset] [(.int (122 : Int32)), (.int (2 : Int32)), (.ref b109), (.ref b109)])) rfl rfl (hb hby at_117)
  have V128 : Arv Z h128 b109 k109 .int (15 : Int32) [(.int (90 : Int32)), (.int (95 : Int32)), (.int (122 : Int32)), (.int (0 : Int32)), (.int (0 : Int32)), (.int (0 : Int32)), (.int (0 : Int32)), (.int (0 : Int32)), (.int (0 : Int32)), (.int (0 : Int32)), (.int (0 : Int32)), (.int (0 : Int32)), (.int (0 : Int32)), (.int (0 : Int32)), (.int (0 : Int32))] (.int (0 : Int32)) := Arv.set Arc126 qc126 Sc126 Nc126 Hc126 Gc126 rfl W128 2 rfl (Nat.le_of_ble_eq_true rfl)
  have z129 := Nat.le_trans z123 (Keep.of_wr W128).1
  have f130 := f124.other W128 q112
  have N128 := Fr.snoc X128 N122 g110
  refine Goes.of st128 ?_
  show Goes p e below (T128.setTop (mkF m 118 #[.val (.int p1), .val (.int p2), .val (.int p3), .val (.int p4), .val (.ref b30), .unset, .unset, .unset, .unset, .unset, .unset, .unset, .unset, .unset, .unset, .unset, .unset, .unset] [(.ref b109)])) _
  refine Goes.of (fun t k => XS.dup X128.here hx rfl (hb hby at_118) rfl rfl k) ?_
  show Goes p e below (T128.setTop (mkF m 119 #[.val (.int p1), .val (.int p2), .val (.int p3), .val (.int p4), .val (.ref b30), .unset, .unset, .unset, .unset, .unset, .unset, .unset, .unset, .unset, .unset, .unset, .unset, .unset] [(.ref b109), (.ref b109)])) _
  refine Goes.of (fun t k => XS.iconst X128.here hx rfl (hb hby at_119) k) ?_
  show Goes p e below (T128.setTop (mkF m 120 #[.val (.int p1), .val (.int p2), .val (.int p3), .val (.int p4), .val (.ref b30), .unset, .unset, .unset, .unset, .unset, .unset, .unset, .unset, .unset, .unset, .unset, .unset, .unset] [(.int (3 : Int32)), (.ref b109), (.ref b109)])) _
  refine Goes.of (fun t k => XS.sipush X128.here hx rfl (hb hby at_120) k) ?_
  have Vc132 := V128
  obtain ⟨clc132, Arc132, qc132, Sc132, Nc132, Hc132, Gc132⟩ := Vc132
  have hin133 : ¬ ((3 : Int32) < 0 ∨ clc132.slots.size ≤ ((3 : Int32)).toNatClampNeg) := inb_of Sc132 ⟨by decide, by decide⟩
  obtain ⟨T134, h134, X134, e134, W134, st134⟩ := stI X128 hx hZ e128 Arc132 (j := (3 : Int32)) hin133 (g := (mkF m 123 #[.val (.int p1), .val (.int p2), .val (.int p3), .val (.int p4), .val (.ref b30), .unset, .unset, .unset, .unset, .unset, .unset, .unset, .unset, .unset, .unset, .unset, .unset, .unset] [(.int (214 : Int32)), (.int (3 : Int32)), (.ref b109), (.ref b109)])) rfl rfl (hb hby at_123)
  have V134 : Arv Z h134 b109 k109 .int (15 : Int32) [(.int (90 : Int32)), (.int (95 : Int32)), (.int (122 : Int32)), (.int (214 : Int32)), (.int (0 : Int32)), (.int (0 : Int32)), (.int (0 : Int32)), (.int (0 : Int32)), (.int (0 : Int32)), (.int (0 : Int32)), (.int (0 : Int32)), (.int (0 : Int32)), (.int (0 : Int32)), (.int (0 : Int32)), (.int (0 : Int32))] (.int (0 : Int32)) := Arv.set Arc132 qc132 Sc132 Nc132 Hc132 Gc132 rfl W134 3 rfl (Nat.le_of_ble_eq_true rfl)
  have z135 := Nat.le_trans z129 (Keep.of_wr W134).1
  have f136 := f130.other W134 q112
  have N134 := Fr.snoc X134 N128 g110
  refine Goes.of st134 ?_
  show Goes p e below (T134.setTop (mkF m 124 #[.val (.int p1), .val (.int p2), .val (.int p3), .val (.int p4), .val (.ref b30), .unset, .unset, .unset, .unset, .unset, .unset, .unset, .unset, .unset, .unset, .unset, .unset, .unset] [(.ref b109)])) _
  refine Goes.of (fun t k => XS.dup X134.here hx rfl (hb hby at_124) rfl rfl k) ?_
  show Goes p e below (T134.setTop (mkF m 125 #[.val (.int p1), .val (.int p2), .val (.int p3), .val (.int p4), .val (.ref b30), .unset, .unset, .unset, .unset, .unset, .unset, .unset, .unset, .unset, .unset, .unset, .unset, .unset] [(.ref b109), (.ref b109)])) _
  refine Goes.of (fun t k => XS.iconst X134.here hx rfl (hb hby at_125) k) ?_
  show Goes p e below (T134.setTop (mkF m 126 #[.val (.int p1), .val (.int p2), .val (.int p3), .val (.int p4), .val (.ref b30), .unset, .unset, .unset, .unset, .unset, .unset, .unset, .unset, .unset, .unset, .unset, .unset, .unset] [(.int (4 : Int32)), (.ref b109), (.ref b109)])) _
  refine Goes.of (fun t k => XS.sipush X134.here hx rfl (hb hby at_126) k) ?_
  have Vc138 := V134
  obtain ⟨clc138, Arc138, qc138, Sc138, Nc138, Hc138, Gc138⟩ := Vc138
  have hin139 : ¬ ((4 : Int32) < 0 ∨ clc138.slots.size ≤ ((4 : Int32)).toNatClampNeg) := inb_of Sc138 ⟨by decide, by decide⟩
  obtain ⟨T140, h140, X140, e140, W140, st140⟩ := stI X134 hx hZ e134 Arc138 (j := (4 : Int32)) hin139 (g := (mkF m 129 #[.val (.int p1), .val (.int p2), .val (.int p3), .val (.int p4), .val (.ref b30), .unset, .unset, .unset, .unset, .unset, .unset, .unset, .unset, .unset, .unset, .unset, .unset, .unset] [(.int (246 : Int32)), (.int (4 : Int32)), (.ref b109), (.ref b109)])) rfl rfl (hb hby at_129)
  have V140 : Arv Z h140 b109 k109 .int (15 : Int32) [(.int (90 : Int32)), (.int (95 : Int32)), (.int (122 : Int32)), (.int (214 : Int32)), (.int (246 : Int32)), (.int (0 : Int32)), (.int (0 : Int32)), (.int (0 : Int32)), (.int (0 : Int32)), (.int (0 : Int32)), (.int (0 : Int32)), (.int (0 : Int32)), (.int (0 : Int32)), (.int (0 : Int32)), (.int (0 : Int32))] (.int (0 : Int32)) := Arv.set Arc138 qc138 Sc138 Nc138 Hc138 Gc138 rfl W140 4 rfl (Nat.le_of_ble_eq_true rfl)
  have z141 := Nat.le_trans z135 (Keep.of_wr W140).1
  have f142 := f136.other W140 q112
  have N140 := Fr.snoc X140 N134 g110
  refine Goes.of st140 ?_
  show Goes p e below (T140.setTop (mkF m 130 #[.val (.int p1), .val (.int p2), .val (.int p3), .val (.int p4), .val (.ref b30), .unset, .unset, .unset, .unset, .unset, .unset, .unset, .unset, .unset, .unset, .unset, .unset, .unset] [(.ref b109)])) _
  refine Goes.of (fun t k => XS.dup X140.here hx rfl (hb hby at_130) rfl rfl k) ?_
  show Goes p e below (T140.setTop (mkF m 131 #[.val (.int p1), .val (.int p2), .val (.int p3), .val (.int p4), .val (.ref b30), .unset, .unset, .unset, .unset, .unset, .unset, .unset, .unset, .unset, .unset, .unset, .unset, .unset] [(.ref b109), (.ref b109)])) _
  refine Goes.of (fun t k => XS.iconst X140.here hx rfl (hb hby at_131) k) ?_
  show Goes p e below (T140.setTop (mkF m 132 #[.val (.int p1), .val (.int p2), .val (.int p3), .val (.int p4), .val (.ref b30), .unset, .unset, .unset, .unset, .unset, .unset, .unset, .unset, .unset, .unset, .unset, .unset, .unset] [(.int (5 : Int32)), (.ref b109), (.ref b109)])) _
  refine Goes.of (fun t k => XS.sipush X140.here hx rfl (hb hby at_132) k) ?_
  have Vc144 := V140
  obtain ⟨clc144, Arc144, qc144, Sc144, Nc144, Hc144, Gc144⟩ := Vc144
  have hin145 : ¬ ((5 : Int32) < 0 ∨ clc144.slots.size ≤ ((5 : Int32)).toNatClampNeg) := inb_of Sc144 ⟨by decide, by decide⟩
  obtain ⟨T146, h146, X146, e146, W146, st146⟩ := stI X140 hx hZ e140 Arc144 (j := (5 : Int32)) hin145 (g := (mkF m 135 #[.val (.int p1), .val (.int p2), .val (.int p3), .val (.int p4), .val (.ref b30), .unset, .unset, .unset, .unset, .unset, .unset, .unset, .unset, .unset, .unset, .unset, .unset, .unset] [(.int (767 : Int32)), (.int (5 : Int32)), (.ref b109), (.ref b109)])) rfl rfl (hb hby at_135)
  have V146 : Arv Z h146 b109 k109 .int (15 : Int32) [(.int (90 : Int32)), (.int (95 : Int32)), (.int (122 : Int32)), (.int (214 : Int32)), (.int (246 : Int32)), (.int (767 : Int32)), (.int (0 : Int32)), (.int (0 : Int32)), (.int (0 : Int32)), (.int (0 : Int32)), (.int (0 : Int32)), (.int (0 : Int32)), (.int (0 : Int32)), (.int (0 : Int32)), (.int (0 : Int32))] (.int (0 : Int32)) := Arv.set Arc144 qc144 Sc144 Nc144 Hc144 Gc144 rfl W146 5 rfl (Nat.le_of_ble_eq_true rfl)
  have z147 := Nat.le_trans z141 (Keep.of_wr W146).1
  have f148 := f142.other W146 q112
  have N146 := Fr.snoc X146 N140 g110
  refine Goes.of st146 ?_
  show Goes p e below (T146.setTop (mkF m 136 #[.val (.int p1), .val (.int p2), .val (.int p3), .val (.int p4), .val (.ref b30), .unset, .unset, .unset, .unset, .unset, .unset, .unset, .unset, .unset, .unset, .unset, .unset, .unset] [(.ref b109)])) _
  refine Goes.of (fun t k => XS.dup X146.here hx rfl (hb hby at_136) rfl rfl k) ?_
  show Goes p e below (T146.setTop (mkF m 137 #[.val (.int p1), .val (.int p2), .val (.int p3), .val (.int p4), .val (.ref b30), .unset, .unset, .unset, .unset, .unset, .unset, .unset, .unset, .unset, .unset, .unset, .unset, .unset] [(.ref b109), (.ref b109)])) _
  refine Goes.of (fun t k => XS.bipush X146.here hx rfl (hb hby at_137) k) ?_
  show Goes p e below (T146.setTop (mkF m 139 #[.val (.int p1), .val (.int p2), .val (.int p3), .val (.int p4), .val (.ref b30), .unset, .unset, .unset, .unset, .unset, .unset, .unset, .unset, .unset, .unset, .unset, .unset, .unset] [(.int (6 : Int32)), (.ref b109), (.ref b109)])) _
  refine Goes.of (fun t k => XS.sipush X146.here hx rfl (hb hby at_139) k) ?_
  have Vc150 := V146
  obtain ⟨clc150, Arc150, qc150, Sc150, Nc150, Hc150, Gc150⟩ := Vc150
  have hin151 : ¬ ((6 : Int32) < 0 ∨ clc150.slots.size ≤ ((6 : Int32)).toNatClampNeg) := inb_of Sc150 ⟨by decide, by decide⟩
  obtain ⟨T152, h152, X152, e152, W152, st152⟩ := stI X146 hx hZ e146 Arc150 (j := (6 : Int32)) hin151 (g := (mkF m 142 #[.val (.int p1), .val (.int p2), .val (.int p3), .val (.int p4), .val (.ref b30), .unset, .unset, .unset, .unset, .unset, .unset, .unset, .unset, .unset, .unset, .unset, .unset, .unset] [(.int (893 : Int32)), (.int (6 : Int32)), (.ref b109), (.ref b109)])) rfl rfl (hb hby at_142)
  have V152 : Arv Z h152 b109 k109 .int (15 : Int32) [(.int (90 : Int32)), (.int (95 : Int32)), (.int (122 : Int32)), (.int (214 : Int32)), (.int (246 : Int32)), (.int (767 : Int32)), (.int (893 : Int32)), (.int (0 : Int32)), (.int (0 : Int32)), (.int (0 : Int32)), (.int (0 : Int32)), (.int (0 : Int32)), (.int (0 : Int32)), (.int (0 : Int32)), (.int (0 : Int32))] (.int (0 : Int32)) := Arv.set Arc150 qc150 Sc150 Nc150 Hc150 Gc150 rfl W152 6 rfl (Nat.le_of_ble_eq_true rfl)
  have z153 := Nat.le_trans z147 (Keep.of_wr W152).1
  have f154 := f148.other W152 q112
  have N152 := Fr.snoc X152 N146 g110
  refine Goes.of st152 ?_
  show Goes p e below (T152.setTop (mkF m 143 #[.val (.int p1), .val (.int p2), .val (.int p3), .val (.int p4), .val (.ref b30), .unset, .unset, .unset, .unset, .unset, .unset, .unset, .unset, .unset, .unset, .unset, .unset, .unset] [(.ref b109)])) _
  refine Goes.of (fun t k => XS.dup X152.here hx rfl (hb hby at_143) rfl rfl k) ?_
  show Goes p e below (T152.setTop (mkF m 144 #[.val (.int p1), .val (.int p2), .val (.int p3), .val (.int p4), .val (.ref b30), .unset, .unset, .unset, .unset, .unset, .unset, .unset, .unset, .unset, .unset, .unset, .unset, .unset] [(.ref b109), (.ref b109)])) _
  refine Goes.of (fun t k => XS.bipush X152.here hx rfl (hb hby at_144) k) ?_
  show Goes p e below (T152.setTop (mkF m 146 #[.val (.int p1), .val (.int p2), .val (.int p3), .val (.int p4), .val (.ref b30), .unset, .unset, .unset, .unset, .unset, .unset, .unset, .unset, .unset, .unset, .unset, .unset, .unset] [(.int (7 : Int32)), (.ref b109), (.ref b109)])) _
  refine Goes.of (fun t k => XS.sipush X152.here hx rfl (hb hby at_146) k) ?_
  have Vc156 := V152
  obtain ⟨clc156, Arc156, qc156, Sc156, Nc156, Hc156, Gc156⟩ := Vc156
  have hin157 : ¬ ((7 : Int32) < 0 ∨ clc156.slots.size ≤ ((7 : Int32)).toNatClampNeg) := inb_of Sc156 ⟨by decide, by decide⟩
  obtain ⟨T158, h158, X158, e158, W158, st158⟩ := stI X152 hx hZ e152 Arc156 (j := (7 : Int32)) hin157 (g := (mkF m 149 #[.val (.int p1), .val (.int p2), .val (.int p3), .val (.int p4), .val (.ref b30), .unset, .unset, .unset, .unset, .unset, .unset, .unset, .unset, .unset, .unset, .unset, .unset, .unset] [(.int (8191 : Int32)), (.int (7 : Int32)), (.ref b109), (.ref b109)])) rfl rfl (hb hby at_149)
  have V158 : Arv Z h158 b109 k109 .int (15 : Int32) [(.int (90 : Int32)), (.int (95 : Int32)), (.int (122 : Int32)), (.int (214 : Int32)), (.int (246 : Int32)), (.int (767 : Int32)), (.int (893 : Int32)), (.int (8191 : Int32)), (.int (0 : Int32)), (.int (0 : Int32)), (.int (0 : Int32)), (.int (0 : Int32)), (.int (0 : Int32)), (.int (0 : Int32)), (.int (0 : Int32))] (.int (0 : Int32)) := Arv.set Arc156 qc156 Sc156 Nc156 Hc156 Gc156 rfl W158 7 rfl (Nat.le_of_ble_eq_true rfl)
  have z159 := Nat.le_trans z153 (Keep.of_wr W158).1
  have f160 := f154.other W158 q112
  have N158 := Fr.snoc X158 N152 g110
  refine Goes.of st158 ?_
  show Goes p e below (T158.setTop (mkF m 150 #[.val (.int p1), .val (.int p2), .val (.int p3), .val (.int p4), .val (.ref b30), .unset, .unset, .unset, .unset, .unset, .unset, .unset, .unset, .unset, .unset, .unset, .unset, .unset] [(.ref b109)])) _
  refine Goes.of (fun t k => XS.dup X158.here hx rfl (hb hby at_150) rfl rfl k) ?_
  show Goes p e below (T158.setTop (mkF m 151 #[.val (.int p1), .val (.int p2), .val (.int p3), .val (.int p4), .val (.ref b30), .unset, .unset, .unset, .unset, .unset, .unset, .unset, .unset, .unset, .unset, .unset, .unset, .unset] [(.ref b109), (.ref b109)])) _
  refine Goes.of (fun t k => XS.bipush X158.here hx rfl (hb hby at_151) k) ?_
  show Goes p e below (T158.setTop (mkF m 153 #[.val (.int p1), .val (.int p2), .val (.int p3), .val (.int p4), .val (.ref b30), .unset, .unset, .unset, .unset, .unset, .unset, .unset, .unset, .unset, .unset, .unset, .unset, .unset] [(.int (8 : Int32)), (.ref b109), (.ref b109)])) _
  refine Goes.of (fun t k => XS.sipush X158.here hx rfl (hb hby at_153) k) ?_
  have Vc162 := V158
  obtain ⟨clc162, Arc162, qc162, Sc162, Nc162, Hc162, Gc162⟩ := Vc162
  have hin163 : ¬ ((8 : Int32) < 0 ∨ clc162.slots.size ≤ ((8 : Int32)).toNatClampNeg) := inb_of Sc162 ⟨by decide, by decide⟩
  obtain ⟨T164, h164, X164, e164, W164, st164⟩ := stI X158 hx hZ e158 Arc162 (j := (8 : Int32)) hin163 (g := (mkF m 156 #[.val (.int p1), .val (.int p2), .val (.int p3), .val (.int p4), .val (.ref b30), .unset, .unset, .unset, .unset, .unset, .unset, .unset, .unset, .unset, .unset, .unset, .unset, .unset] [(.int (8205 : Int32)), (.int (8 : Int32)), (.ref b109), (.ref b109)])) rfl rfl (hb hby at_156)
  have V164 : Arv Z h164 b109 k109 .int (15 : Int32) [(.int (90 : Int32)), (.int (95 : Int32)), (.int (122 : Int32)), (.int (214 : Int32)), (.int (246 : Int32)), (.int (767 : Int32)), (.int (893 : Int32)), (.int (8191 : Int32)), (.int (8205 : Int32)), (.int (0 : Int32)), (.int (0 : Int32)), (.int (0 : Int32)), (.int (0 : Int32)), (.int (0 : Int32)), (.int (0 : Int32))] (.int (0 : Int32)) := Arv.set Arc162 qc162 Sc162 Nc162 Hc162 Gc162 rfl W164 8 rfl (Nat.le_of_ble_eq_true rfl)
  have z165 := Nat.le_trans z159 (Keep.of_wr W164).1
  have f166 := f160.other W164 q112
  have N164 := Fr.snoc X164 N158 g110
  refine Goes.of st164 ?_
  show Goes p e below (T164.setTop (mkF m 157 #[.val (.int p1), .val (.int p2), .val (.int p3), .val (.int p4), .val (.ref b30), .unset, .unset, .unset, .unset, .unset, .unset, .unset, .unset, .unset, .unset, .unset, .unset, .unset] [(.ref b109)])) _
  refine Goes.of (fun t k => XS.dup X164.here hx rfl (hb hby at_157) rfl rfl k) ?_
  show Goes p e below (T164.setTop (mkF m 158 #[.val (.int p1), .val (.int p2), .val (.int p3), .val (.int p4), .val (.ref b30), .unset, .unset, .unset, .unset, .unset, .unset, .unset, .unset, .unset, .unset, .unset, .unset, .unset] [(.ref b109), (.ref b109)])) _
  refine Goes.of (fun t k => XS.bipush X164.here hx rfl (hb hby at_158) k) ?_
  show Goes p e below (T164.setTop (mkF m 160 #[.val (.int p1), .val (.int p2), .val (.int p3), .val (.int p4), .val (.ref b30), .unset, .unset, .unset, .unset, .unset, .unset, .unset, .unset, .unset, .unset, .unset, .unset, .unset] [(.int (9 : Int32)), (.ref b109), (.ref b109)])) _
  refine Goes.of (fun t k => XS.sipush X164.here hx rfl (hb hby at_160) k) ?_
  have Vc168 := V164
  obtain ⟨clc168, Arc168, qc168, Sc168, Nc168, Hc168, Gc168⟩ := Vc168
  have hin169 : ¬ ((9 : Int32) < 0 ∨ clc168.slots.size ≤ ((9 : Int32)).toNatClampNeg) := inb_of Sc168 ⟨by decide, by decide⟩
  obtain ⟨T170, h170, X170, e170, W170, st170⟩ := stI X164 hx hZ e164 Arc168 (j := (9 : Int32)) hin169 (g := (mkF m 163 #[.val (.int p1), .val (.int p2), .val (.int p3), .val (.int p4), .val (.ref b30), .unset, .unset, .unset, .unset, .unset, .unset, .unset, .unset, .unset, .unset, .unset, .unset, .unset] [(.int (8591 : Int32)), (.int (9 : Int32)), (.ref b109), (.ref b109)])) rfl rfl (hb hby at_163)
  have V170 : Arv Z h170 b109 k109 .int (15 : Int32) [(.int (90 : Int32)), (.int (95 : Int32)), (.int (122 : Int32)), (.int (214 : Int32)), (.int (246 : Int32)), (.int (767 : Int32)), (.int (893 : Int32)), (.int (8191 : Int32)), (.int (8205 : Int32)), (.int (8591 : Int32)), (.int (0 : Int32)), (.int (0 : Int32)), (.int (0 : Int32)), (.int (0 : Int32)), (.int (0 : Int32))] (.int (0 : Int32)) := Arv.set Arc168 qc168 Sc168 Nc168 Hc168 Gc168 rfl W170 9 rfl (Nat.le_of_ble_eq_true rfl)
  have z171 := Nat.le_trans z165 (Keep.of_wr W170).1
  have f172 := f166.other W170 q112
  have N170 := Fr.snoc X170 N164 g110
  refine Goes.of st170 ?_
  show Goes p e below (T170.setTop (mkF m 164 #[.val (.int p1), .val (.int p2), .val (.int p3), .val (.int p4), .val (.ref b30), .unset, .unset, .unset, .unset, .unset, .unset, .unset, .unset, .unset, .unset, .unset, .unset, .unset] [(.ref b109)])) _
  refine Goes.of (fun t k => XS.dup X170.here hx rfl (hb hby at_164) rfl rfl k) ?_
  show Goes p e below (T170.setTop (mkF m 165 #[.val (.int p1), .val (.int p2), .val (.int p3), .val (.int p4), .val (.ref b30), .unset, .unset, .unset, .unset, .unset, .unset, .unset, .unset, .unset, .unset, .unset, .unset, .unset] [(.ref b109), (.ref b109)])) _
  refine Goes.of (fun t k => XS.bipush X170.here hx rfl (hb hby at_165) k) ?_
  show Goes p e below (T170.setTop (mkF m 167 #[.val (.int p1), .val (.int p2), .val (.int p3), .val (.int p4), .val (.ref b30), .unset, .unset, .unset, .unset, .unset, .unset, .unset, .unset, .unset, .unset, .unset, .unset, .unset] [(.int (10 : Int32)), (.ref b109), (.ref b109)])) _
  refine Goes.of (fun t k => XS.sipush X170.here hx rfl (hb hby at_167) k) ?_
  have Vc174 := V170
  obtain ⟨clc174, Arc174, qc174, Sc174, Nc174, Hc174, Gc174⟩ := Vc174
  have hin175 : ¬ ((10 : Int32) < 0 ∨ clc174.slots.size ≤ ((10 : Int32)).toNatClampNeg) := inb_of Sc174 ⟨by decide, by decide⟩
  obtain ⟨T176, h176, X176, e176, W176, st176⟩ := stI X170 hx hZ e170 Arc174 (j := (10 : Int32)) hin175 (g := (mkF m 170 #[.val (.int p1), .val (.int p2), .val (.int p3), .val (.int p4), .val (.ref b30), .unset, .unset, .unset, .unset, .unset, .unset, .unset, .unset, .unset, .unset, .unset, .unset, .unset] [(.int (12271 : Int32)), (.int (10 : Int32)), (.ref b109), (.ref b109)])) rfl rfl (hb hby at_170)
  have V176 : Arv Z h176 b109 k109 .int (15 : Int32) [(.int (90 : Int32)), (.int (95 : Int32)), (.int (122 : Int32)), (.int (214 : Int32)), (.int (246 : Int32)), (.int (767 : Int32)), (.int (893 : Int32)), (.int (8191 : Int32)), (.int (8205 : Int32)), (.int (8591 : Int32)), (.int (12271 : Int32)), (.int (0 : Int32)), (.int (0 : Int32)), (.int (0 : Int32)), (.int (0 : Int32))] (.int (0 : Int32)) := Arv.set Arc174 qc174 Sc174 Nc174 Hc174 Gc174 rfl W176 10 rfl (Nat.le_of_ble_eq_true rfl)
  have z177 := Nat.le_trans z171 (Keep.of_wr W176).1
  have f178 := f172.other W176 q112
  have N176 := Fr.snoc X176 N170 g110
  refine Goes.of st176 ?_
  show Goes p e below (T176.setTop (mkF m 171 #[.val (.int p1), .val (.int p2), .val (.int p3), .val (.int p4), .val (.ref b30), .unset, .unset, .unset, .unset, .unset, .unset, .unset, .unset, .unset, .unset, .unset, .unset, .unset] [(.ref b109)])) _
  refine Goes.of (fun t k => XS.dup X176.here hx rfl (hb hby at_171) rfl rfl k) ?_
  show Goes p e below (T176.setTop (mkF m 172 #[.val (.int p1), .val (.int p2), .val (.int p3), .val (.int p4), .val (.ref b30), .unset, .unset, .unset, .unset, .unset, .unset, .unset, .unset, .unset, .unset, .unset, .unset, .unset] [(.ref b109), (.ref b109)])) _
  refine Goes.of (fun t k => XS.bipush X176.here hx rfl (hb hby at_172) k) ?_
  show Goes p e below (T176.setTop (mkF m 174 #[.val (.int p1), .val (.int p2), .val (.int p3), .val (.int p4), .val (.ref b30), .unset, .unset, .unset, .unset, .unset, .unset, .unset, .unset, .unset, .unset, .unset, .unset, .unset] [(.int (11 : Int32)), (.ref b109), (.ref b109)])) _
  refine Goes.of (fun t k => X176.ldcInt hx hown (mvT hZ (wd hw 4 rfl)) (g := (mkF m 174 #[.val (.int p1), .val (.int p2), .val (.int p3), .val (.int p4), .val (.ref b30), .unset, .unset, .unset, .unset, .unset, .unset, .unset, .unset, .unset, .unset, .unset, .unset, .unset] [(.int (11 : Int32)), (.ref b109), (.ref b109)])) rfl (hb hby at_174) _ k) ?_
  have Vc180 := V176
  obtain ⟨clc180, Arc180, qc180, Sc180, Nc180, Hc180, Gc180⟩ := Vc180
  have hin181 : ¬ ((11 : Int32) < 0 ∨ clc180.slots.size ≤ ((11 : Int32)).toNatClampNeg) := inb_of Sc180 ⟨by decide, by decide⟩
  obtain ⟨T182, h182, X182, e182, W182, st182⟩ := stI X176 hx hZ e176 Arc180 (j := (11 : Int32)) hin181 (g := (mkF m 176 #[.val (.int p1), .val (.int p2), .val (.int p3), .val (.int p4), .val (.ref b30), .unset, .unset, .unset, .unset, .unset, .unset, .unset, .unset, .unset, .unset, .unset, .unset, .unset] [(.int (55295 : Int32)), (.int (11 : Int32)), (.ref b109), (.ref b109)])) rfl rfl (hb hby at_176)
  have V182 : Arv Z h182 b109 k109 .int (15 : Int32) [(.int (90 : Int32)), (.int (95 : Int32)), (.int (122 : Int32)), (.int (214 : Int32)), (.int (246 : Int32)), (.int (767 : Int32)), (.int (893 : Int32)), (.int (8191 : Int32)), (.int (8205 : Int32)), (.int (8591 : Int32)), (.int (12271 : Int32)), (.int (55295 : Int32)), (.int (0 : Int32)), (.int (0 : Int32)), (.int (0 : Int32))] (.int (0 : Int32)) := Arv.set Arc180 qc180 Sc180 Nc180 Hc180 Gc180 rfl W182 11 rfl (Nat.le_of_ble_eq_true rfl)
  have z183 := Nat.le_trans z177 (Keep.of_wr W182).1
  have f184 := f178.other W182 q112
  have N182 := Fr.snoc X182 N176 g110
  refine Goes.of st182 ?_
  show Goes p e below (T182.setTop (mkF m 177 #[.val (.int p1), .val (.int p2), .val (.int p3), .val (.int p4), .val (.ref b30), .unset, .unset, .unset, .unset, .unset, .unset, .unset, .unset, .unset, .unset, .unset, .unset, .unset] [(.ref b109)])) _
  refine Goes.of (fun t k => XS.dup X182.here hx rfl (hb hby at_177) rfl rfl k) ?_
  show Goes p e below (T182.setTop (mkF m 178 #[.val (.int p1), .val (.int p2), .val (.int p3), .val (.int p4), .val (.ref b30), .unset, .unset, .unset, .unset, .unset, .unset, .unset, .unset, .unset, .unset, .unset, .unset, .unset] [(.ref b109), (.ref b109)])) _
  refine Goes.of (fun t k => XS.bipush X182.here hx rfl (hb hby at_178) k) ?_
  show Goes p e below (T182.setTop (mkF m 180 #[.val (.int p1), .val (.int p2), .val (.int p3), .val (.int p4), .val (.ref b30), .unset, .unset, .unset, .unset, .unset, .unset, .unset, .unset, .unset, .unset, .unset, .unset, .unset] [(.int (12 : Int32)), (.ref b109), (.ref b109)])) _
  refine Goes.of (fun t k => X182.ldcInt hx hown (mvT hZ (wd hw 5 rfl)) (g := (mkF m 180 #[.val (.int p1), .val (.int p2), .val (.int p3), .val (.int p4), .val (.ref b30), .unset, .unset, .unset, .unset, .unset, .unset, .unset, .unset, .unset, .unset, .unset, .unset, .unset] [(.int (12 : Int32)), (.ref b109), (.ref b109)])) rfl (hb hby at_180) _ k) ?_
  have Vc186 := V182
  obtain ⟨clc186, Arc186, qc186, Sc186, Nc186, Hc186, Gc186⟩ := Vc186
  have hin187 : ¬ ((12 : Int32) < 0 ∨ clc186.slots.size ≤ ((12 : Int32)).toNatClampNeg) := inb_of Sc186 ⟨by decide, by decide⟩
  obtain ⟨T188, h188, X188, e188, W188, st188⟩ := stI X182 hx hZ e182 Arc186 (j := (12 : Int32)) hin187 (g := (mkF m 182 #[.val (.int p1), .val (.int p2), .val (.int p3), .val (.int p4), .val (.ref b30), .unset, .unset, .unset, .unset, .unset, .unset, .unset, .unset, .unset, .unset, .unset, .unset, .unset] [(.int (64975 : Int32)), (.int (12 : Int32)), (.ref b109), (.ref b109)])) rfl rfl (hb hby at_182)
  have V188 : Arv Z h188 b109 k109 .int (15 : Int32) [(.int (90 : Int32)), (.int (95 : Int32)), (.int (122 : Int32)), (.int (214 : Int32)), (.int (246 : Int32)), (.int (767 : Int32)), (.int (893 : Int32)), (.int (8191 : Int32)), (.int (8205 : Int32)), (.int (8591 : Int32)), (.int (12271 : Int32)), (.int (55295 : Int32)), (.int (64975 : Int32)), (.int (0 : Int32)), (.int (0 : Int32))] (.int (0 : Int32)) := Arv.set Arc186 qc186 Sc186 Nc186 Hc186 Gc186 rfl W188 12 rfl (Nat.le_of_ble_eq_true rfl)
  have z189 := Nat.le_trans z183 (Keep.of_wr W188).1
  have f190 := f184.other W188 q112
  have N188 := Fr.snoc X188 N182 g110
  refine Goes.of st188 ?_
  show Goes p e below (T188.setTop (mkF m 183 #[.val (.int p1), .val (.int p2), .val (.int p3), .val (.int p4), .val (.ref b30), .unset, .unset, .unset, .unset, .unset, .unset, .unset, .unset, .unset, .unset, .unset, .unset, .unset] [(.ref b109)])) _
  refine Goes.of (fun t k => XS.dup X188.here hx rfl (hb hby at_183) rfl rfl k) ?_
  show Goes p e below (T188.setTop (mkF m 184 #[.val (.int p1), .val (.int p2), .val (.int p3), .val (.int p4), .val (.ref b30), .unset, .unset, .unset, .unset, .unset, .unset, .unset, .unset, .unset, .unset, .unset, .unset, .unset] [(.ref b109), (.ref b109)])) _
  refine Goes.of (fun t k => XS.bipush X188.here hx rfl (hb hby at_184) k) ?_
  show Goes p e below (T188.setTop (mkF m 186 #[.val (.int p1), .val (.int p2), .val (.int p3), .val (.int p4), .val (.ref b30), .unset, .unset, .unset, .unset, .unset, .unset, .unset, .unset, .unset, .unset, .unset, .unset, .unset] [(.int (13 : Int32)), (.ref b109), (.ref b109)])) _
  refine Goes.of (fun t k => X188.ldcInt hx hown (mvT hZ (wd hw 6 rfl)) (g := (mkF m 186 #[.val (.int p1), .val (.int p2), .val (.int p3), .val (.int p4), .val (.ref b30), .unset, .unset, .unset, .unset, .unset, .unset, .unset, .unset, .unset, .unset, .unset, .unset, .unset] [(.int (13 : Int32)), (.ref b109), (.ref b109)])) rfl (hb hby at_186) _ k) ?_
  have Vc192 := V188
  obtain ⟨clc192, Arc192, qc192, Sc192, Nc192, Hc192, Gc192⟩ := Vc192
  have hin193 : ¬ ((13 : Int32) < 0 ∨ clc192.slots.size ≤ ((13 : Int32)).toNatClampNeg) := inb_of Sc192 ⟨by decide, by decide⟩
  obtain ⟨T194, h194, X194, e194, W194, st194⟩ := stI X188 hx hZ e188 Arc192 (j := (13 : Int32)) hin193 (g := (mkF m 188 #[.val (.int p1), .val (.int p2), .val (.int p3), .val (.int p4), .val (.ref b30), .unset, .unset, .unset, .unset, .unset, .unset, .unset, .unset, .unset, .unset, .unset, .unset, .unset] [(.int (65533 : Int32)), (.int (13 : Int32)), (.ref b109), (.ref b109)])) rfl rfl (hb hby at_188)
  have V194 : Arv Z h194 b109 k109 .int (15 : Int32) [(.int (90 : Int32)), (.int (95 : Int32)), (.int (122 : Int32)), (.int (214 : Int32)), (.int (246 : Int32)), (.int (767 : Int32)), (.int (893 : Int32)), (.int (8191 : Int32)), (.int (8205 : Int32)), (.int (8591 : Int32)), (.int (12271 : Int32)), (.int (55295 : Int32)), (.int (64975 : Int32)), (.int (65533 : Int32)), (.int (0 : Int32))] (.int (0 : Int32)) := Arv.set Arc192 qc192 Sc192 Nc192 Hc192 Gc192 rfl W194 13 rfl (Nat.le_of_ble_eq_true rfl)
  have z195 := Nat.le_trans z189 (Keep.of_wr W194).1
  have f196 := f190.other W194 q112
  have N194 := Fr.snoc X194 N188 g110
  refine Goes.of st194 ?_
  show Goes p e below (T194.setTop (mkF m 189 #[.val (.int p1), .val (.int p2), .val (.int p3), .val (.int p4), .val (.ref b30), .unset, .unset, .unset, .unset, .unset, .unset, .unset, .unset, .unset, .unset, .unset, .unset, .unset] [(.ref b109)])) _
  refine Goes.of (fun t k => XS.dup X194.here hx rfl (hb hby at_189) rfl rfl k) ?_
  show Goes p e below (T194.setTop (mkF m 190 #[.val (.int p1), .val (.int p2), .val (.int p3), .val (.int p4), .val (.ref b30), .unset, .unset, .unset, .unset, .unset, .unset, .unset, .unset, .unset, .unset, .unset, .unset, .unset] [(.ref b109), (.ref b109)])) _
  refine Goes.of (fun t k => XS.bipush X194.here hx rfl (hb hby at_190) k) ?_
  show Goes p e below (T194.setTop (mkF m 192 #[.val (.int p1), .val (.int p2), .val (.int p3), .val (.int p4), .val (.ref b30), .unset, .unset, .unset, .unset, .unset, .unset, .unset, .unset, .unset, .unset, .unset, .unset, .unset] [(.int (14 : Int32)), (.ref b109), (.ref b109)])) _
  refine Goes.of (fun t k => X194.ldcInt hx hown (mvT hZ (wd hw 7 rfl)) (g := (mkF m 192 #[.val (.int p1), .val (.int p2), .val (.int p3), .val (.int p4), .val (.ref b30), .unset, .unset, .unset, .unset, .unset, .unset, .unset, .unset, .unset, .unset, .unset, .unset, .unset] [(.int (14 : Int32)), (.ref b109), (.ref b109)])) rfl (hb hby at_192) _ k) ?_
  have Vc198 := V194
  obtain ⟨clc198, Arc198, qc198, Sc198, Nc198, Hc198, Gc198⟩ := Vc198
  have hin199 : ¬ ((14 : Int32) < 0 ∨ clc198.slots.size ≤ ((14 : Int32)).toNatClampNeg) := inb_of Sc198 ⟨by decide, by decide⟩
  obtain ⟨T200, h200, X200, e200, W200, st200⟩ := stI X194 hx hZ e194 Arc198 (j := (14 : Int32)) hin199 (g := (mkF m 194 #[.val (.int p1), .val (.int p2), .val (.int p3), .val (.int p4), .val (.ref b30), .unset, .unset, .unset, .unset, .unset, .unset, .unset, .unset, .unset, .unset, .unset, .unset, .unset] [(.int (983039 : Int32)), (.int (14 : Int32)), (.ref b109), (.ref b109)])) rfl rfl (hb hby at_194)
  have V200 : Arv Z h200 b109 k109 .int (15 : Int32) [(.int (90 : Int32)), (.int (95 : Int32)), (.int (122 : Int32)), (.int (214 : Int32)), (.int (246 : Int32)), (.int (767 : Int32)), (.int (893 : Int32)), (.int (8191 : Int32)), (.int (8205 : Int32)), (.int (8591 : Int32)), (.int (12271 : Int32)), (.int (55295 : Int32)), (.int (64975 : Int32)), (.int (65533 : Int32)), (.int (983039 : Int32))] (.int (0 : Int32)) := Arv.set Arc198 qc198 Sc198 Nc198 Hc198 Gc198 rfl W200 14 rfl (Nat.le_of_ble_eq_true rfl)
  have z201 := Nat.le_trans z195 (Keep.of_wr W200).1
  have f202 := f196.other W200 q112
  have N200 := Fr.snoc X200 N194 g110
  refine Goes.of st200 ?_
  show Goes p e below (T200.setTop (mkF m 195 #[.val (.int p1), .val (.int p2), .val (.int p3), .val (.int p4), .val (.ref b30), .unset, .unset, .unset, .unset, .unset, .unset, .unset, .unset, .unset, .unset, .unset, .unset, .unset] [(.ref b109)])) _
  obtain ⟨LX204, X204, N204⟩ : ∃ LX, Stand p l e room_1 s m #[(.int p1), (.int p2), (.int p3), (.int p4)] below meth c T200 LX 2 30 ∧ Fr n0 LX := ⟨_, X200, N200⟩
  refine Goes.of (fun t k => XS.astore X204.here hx rfl (hb hby at_195) rfl rfl (l' := #[.val (.int p1), .val (.int p2), .val (.int p3), .val (.int p4), .val (.ref b30), .val (.ref b109), .unset, .unset, .unset, .unset, .unset, .unset, .unset, .unset, .unset, .unset, .unset, .unset]) rfl k) ?_
  show Goes p e below (T200.setTop (mkF m 197 #[.val (.int p1), .val (.int p2), .val (.int p3), .val (.int p4), .val (.ref b30), .val (.ref b109), .unset, .unset, .unset, .unset, .unset, .unset, .unset, .unset, .unset, .unset, .unset, .unset] [])) _
  refine Goes.of (fun t k => XS.iloadN X204.here hx rfl (hb hby at_197) rfl k) ?_
  show Goes p e below (T200.setTop (mkF m 198 #[.val (.int p1), .val (.int p2), .val (.int p3), .val (.int p4), .val (.ref b30), .val (.ref b109), .unset, .unset, .unset, .unset, .unset, .unset, .unset, .unset, .unset, .unset, .unset, .unset] [(.int p1)])) _
  refine Goes.of (fun t k => X204.ldcInt hx hown (mvT hZ (wd hw 8 rfl)) (g := (mkF m 198 #[.val (.int p1), .val (.int p2), .val (.int p3), .val (.int p4), .val (.ref b30), .val (.ref b109), .unset, .unset, .unset, .unset, .unset, .unset, .unset, .unset, .unset, .unset, .unset, .unset] [(.int p1)])) rfl (hb hby at_198) _ k) ?_
  show Goes p e below (T200.setTop (mkF m 200 #[.val (.int p1), .val (.int p2), .val (.int p3), .val (.int p4), .val (.ref b30), .val (.ref b109), .unset, .unset, .unset, .unset, .unset, .unset, .unset, .unset, .unset, .unset, .unset, .unset] [(.int (2147483647 : Int32)), (.int p1)])) _
  refine Goes.of (fun t k => XS.iand X204.here hx rfl (hb hby at_200) rfl k) ?_
  show Goes p e below (T200.setTop (mkF m 201 #[.val (.int p1), .val (.int p2), .val (.int p3), .val (.int p4), .val (.ref b30), .val (.ref b109), .unset, .unset, .unset, .unset, .unset, .unset, .unset, .unset, .unset, .unset, .unset, .unset] [(.int (p1 &&& (2147483647 : Int32)))])) _
  refine Goes.of (fun t k => XS.bipush X204.here hx rfl (hb hby at_201) k) ?_
  show Goes p e below (T200.setTop (mkF m 203 #[.val (.int p1), .val (.int p2), .val (.int p3), .val (.int p4), .val (.ref b30), .val (.ref b109), .unset, .unset, .unset, .unset, .unset, .unset, .unset, .unset, .unset, .unset, .unset, .unset] [(.int (15 : Int32)), (.int (p1 &&& (2147483647 : Int32)))])) _
  refine Goes.of (fun t k => XS.irem X204.here hx rfl (hb hby at_203) rfl (by decide) k) ?_
  show Goes p e below (T200.setTop (mkF m 204 #[.val (.int p1), .val (.int p2), .val (.int p3), .val (.int p4), .val (.ref b30), .val (.ref b109), .unset, .unset, .unset, .unset, .unset, .unset, .unset, .unset, .unset, .unset, .unset, .unset] [(.int ((p1 &&& (2147483647 : Int32)) - (p1 &&& (2147483647 : Int32)) / (15 : Int32) * (15 : Int32)))])) _
  refine Goes.of (fun t k => XS.istore X204.here hx rfl (hb hby at_204) rfl (l' := #[.val (.int p1), .val (.int p2), .val (.int p3), .val (.int p4), .val (.ref b30), .val (.ref b109), .val (.int ((p1 &&& (2147483647 : Int32)) - (p1 &&& (2147483647 : Int32)) / (15 : Int32) * (15 : Int32))), .unset, .unset, .unset, .unset, .unset, .unset, .unset, .unset, .unset, .unset, .unset]) rfl k) ?_
  show Goes p e below (T200.setTop (mkF m 206 #[.val (.int p1), .val (.int p2), .val (.int p3), .val (.int p4), .val (.ref b30), .val (.ref b109), .val (.int ((p1 &&& (2147483647 : Int32)) - (p1 &&& (2147483647 : Int32)) / (15 : Int32) * (15 : Int32))), .unset, .unset, .unset, .unset, .unset, .unset, .unset, .unset, .unset, .unset, .unset] [])) _
  have hi := own_idx p1
  obtain ⟨i, ei⟩ : ∃ z : Int32, z = ((p1 &&& (2147483647 : Int32)) - (p1 &&& (2147483647 : Int32)) / (15 : Int32) * (15 : Int32)) := ⟨_, rfl⟩
  rw [← ei] at hi
  rw [← ei]
  show Goes p e below (T200.setTop (mkF m 206 #[.val (.int p1), .val (.int p2), .val (.int p3), .val (.int p4), .val (.ref b30), .val (.ref b109), .val (.int i), .unset, .unset, .unset, .unset, .unset, .unset, .unset, .unset, .unset, .unset, .unset] [])) _
  obtain ⟨t1, t2, t3, t4, t5, t6, t7, t8, t9, t10, t11⟩ := own_tab i hi
  have bi := own_bnd i hi
  refine Goes.of (fun t k => XS.aload X204.here hx rfl (hb hby at_206) rfl rfl k) ?_
  show Goes p e below (T200.setTop (mkF m 208 #[.val (.int p1), .val (.int p2), .val (.int p3), .val (.int p4), .val (.ref b30), .val (.ref b109), .val (.int i), .unset, .unset, .unset, .unset, .unset, .unset, .unset, .unset, .unset, .unset, .unset] [(.ref b30)])) _
  refine Goes.of (fun t k => XS.iload X204.here hx rfl (hb hby at_208) rfl k) ?_
  have Vc205 := f202
  obtain ⟨clc205, Arc205, qc205, Sc205, Nc205, Hc205, Gc205⟩ := Vc205
  have hin206 : ¬ (i < 0 ∨ clc205.slots.size ≤ (i).toNatClampNeg) := inb_of Sc205 bi
  have hat207 : clc205.slots[(i).toNatClampNeg]? = some (.int (own_lov i)) := Hc205.at hin206 (own_lo_at _)
  refine Goes.of (fun t k => X204.iaload hx (j := i) (v := (.int (own_lov i))) (by rw [e200]; exact Arc205.1) (State.isArrayOf_alike hZ.alike Arc205.2.1) Arc205.2.2 hin206 hat207 (g := (mkF m 210 #[.val (.int p1), .val (.int p2), .val (.int p3), .val (.int p4), .val (.ref b30), .val (.ref b109), .val (.int i), .unset, .unset, .unset, .unset, .unset, .unset, .unset, .unset, .unset, .unset, .unset] [(.int i), (.ref b30)])) rfl rfl (hb hby at_210) _ k) ?_
  show Goes p e below (T200.setTop (mkF m 211 #[.val (.int p1), .val (.int p2), .val (.int p3), .val (.int p4), .val (.ref b30), .val (.ref b109), .val (.int i), .unset, .unset, .unset, .unset, .unset, .unset, .unset, .unset, .unset, .unset, .unset] [(.int (own_lov i))])) _
  refine Goes.of (fun t k => XS.istore X204.here hx rfl (hb hby at_211) rfl (l' := #[.val (.int p1), .val (.int p2), .val (.int p3), .val (.int p4), .val (.ref b30), .val (.ref b109), .val (.int i), .val (.int (own_lov i)), .unset, .unset, .unset, .unset, .unset, .unset, .unset, .unset, .unset, .unset]) rfl k) ?_
  show Goes p e below (T200.setTop (mkF m 213 #[.val (.int p1), .val (.int p2), .val (.int p3), .val (.int p4), .val (.ref b30), .val (.ref b109), .val (.int i), .val (.int (own_lov i)), .unset, .unset, .unset, .unset, .unset, .unset, .unset, .unset, .unset, .unset] [])) _
  refine Goes.of (fun t k => XS.aload X204.here hx rfl (hb hby at_213) rfl rfl k) ?_
  show Goes p e below (T200.setTop (mkF m 215 #[.val (.int p1), .val (.int p2), .val (.int p3), .val (.int p4), .val (.ref b30), .val (.ref b109), .val (.int i), .val (.int (own_lov i)), .unset, .unset, .unset, .unset, .unset, .unset, .unset, .unset, .unset, .unset] [(.ref b109)])) _
  refine Goes.of (fun t k => XS.iload X204.here hx rfl (hb hby at_215) rfl k) ?_
  have Vc208 := V200
  obtain ⟨clc208, Arc208, qc208, Sc208, Nc208, Hc208, Gc208⟩ := Vc208
  have hin209 : ¬ (i < 0 ∨ clc208.slots.size ≤ (i).toNatClampNeg) := inb_of Sc208 bi
  have hat210 : clc208.slots[(i).toNatClampNeg]? = some (.int (own_hiv i)) := Hc208.at hin209 (own_hi_at _)
  refine Goes.of (fun t k => X204.iaload hx (j := i) (v := (.int (own_hiv i))) (by rw [e200]; exact Arc208.1) (State.isArrayOf_alike hZ.alike Arc208.2.1) Arc208.2.2 hin209 hat210 (g := (mkF m 217 #[.val (.int p1), .val (.int p2), .val (.int p3), .val (.int p4), .val (.ref b30), .val (.ref b109), .val (.int i), .val (.int (own_lov i)), .unset, .unset, .unset, .unset, .unset, .unset, .unset, .unset, .unset, .unset] [(.int i), (.ref b109)])) rfl rfl (hb hby at_217) _ k) ?_
  show Goes p e below (T200.setTop (mkF m 218 #[.val (.int p1), .val (.int p2), .val (.int p3), .val (.int p4), .val (.ref b30), .val (.ref b109), .val (.int i), .val (.int (own_lov i)), .unset, .unset, .unset, .unset, .unset, .unset, .unset, .unset, .unset, .unset] [(.int (own_hiv i))])) _
  refine Goes.of (fun t k => XS.istore X204.here hx rfl (hb hby at_218) rfl (l' := #[.val (.int p1), .val (.int p2), .val (.int p3), .val (.int p4), .val (.ref b30), .val (.ref b109), .val (.int i), .val (.int (own_lov i)), .val (.int (own_hiv i)), .unset, .unset, .unset, .unset, .unset, .unset, .unset, .unset, .unset]) rfl k) ?_
  show Goes p e below (T200.setTop (mkF m 220 #[.val (.int p1), .val (.int p2), .val (.int p3), .val (.int p4), .val (.ref b30), .val (.ref b109), .val (.int i), .val (.int (own_lov i)), .val (.int (own_hiv i)), .unset, .unset, .unset, .unset, .unset, .unset, .unset, .unset, .unset] [])) _
  refine Goes.of (fun t k => XS.iload X204.here hx rfl (hb hby at_220) rfl k) ?_
  show Goes p e below (T200.setTop (mkF m 222 #[.val (.int p1), .val (.int p2), .val (.int p3), .val (.int p4), .val (.ref b30), .val (.ref b109), .val (.int i), .val (.int (own_lov i)), .val (.int (own_hiv i)), .unset, .unset, .unset, .unset, .unset, .unset, .unset, .unset, .unset] [(.int (own_hiv i))])) _
  refine Goes.of (fun t k => XS.iload X204.here hx rfl (hb hby at_222) rfl k) ?_
  show Goes p e below (T200.setTop (mkF m 224 #[.val (.int p1), .val (.int p2), .val (.int p3), .val (.int p4), .val (.ref b30), .val (.ref b109), .val (.int i), .val (.int (own_lov i)), .val (.int (own_hiv i)), .unset, .unset, .unset, .unset, .unset, .unset, .unset, .unset, .unset] [(.int (own_lov i)), (.int (own_hiv i))])) _
  refine Goes.of (fun t k => XS.isub X204.here hx rfl (hb hby at_224) rfl k) ?_
  show Goes p e below (T200.setTop (mkF m 225 #[.val (.int p1), .val (.int p2), .val (.int p3), .val (.int p4), .val (.ref b30), .val (.ref b109), .val (.int i), .val (.int (own_lov i)), .val (.int (own_hiv i)), .unset, .unset, .unset, .unset, .unset, .unset, .unset, .unset, .unset] [(.int ((own_hiv i) - (own_lov i)))])) _
  refine Goes.of (fun t k => XS.iconst X204.here hx rfl (hb hby at_225) k) ?_
  show Goes p e below (T200.setTop (mkF m 226 #[.val (.int p1), .val (.int p2), .val (.int p3), .val (.int p4), .val (.ref b30), .val (.ref b109), .val (.int i), .val (.int (own_lov i)), .val (.int (own_hiv i)), .unset, .unset, .unset, .unset, .unset, .unset, .unset, .unset, .unset] [(.int (1 : Int32)), (.int ((own_hiv i) - (own_lov i)))])) _
  refine Goes.of (fun t k => XS.iadd X204.here hx rfl (hb hby at_226) rfl k) ?_
  show Goes p e below (T200.setTop (mkF m 227 #[.val (.int p1), .val (.int p2), .val (.int p3), .val (.int p4), .val (.ref b30), .val (.ref b109), .val (.int i), .val (.int (own_lov i)), .val (.int (own_hiv i)), .unset, .unset, .unset, .unset, .unset, .unset, .unset, .unset, .unset] [(.int (((own_hiv i) - (own_lov i)) + (1 : Int32)))])) _
  refine Goes.of (fun t k => XS.istore X204.here hx rfl (hb hby at_227) rfl (l' := #[.val (.int p1), .val (.int p2), .val (.int p3), .val (.int p4), .val (.ref b30), .val (.ref b109), .val (.int i), .val (.int (own_lov i)), .val (.int (own_hiv i)), .val (.int (((own_hiv i) - (own_lov i)) + (1 : Int32))), .unset, .unset, .unset, .unset, .unset, .unset, .unset, .unset]) rfl k) ?_
  show Goes p e below (T200.setTop (mkF m 229 #[.val (.int p1), .val (.int p2), .val (.int p3), .val (.int p4), .val (.ref b30), .val (.ref b109), .val (.int i), .val (.int (own_lov i)), .val (.int (own_hiv i)), .val (.int (((own_hiv i) - (own_lov i)) + (1 : Int32))), .unset, .unset, .unset, .unset, .unset, .unset, .unset, .unset] [])) _
  refine Goes.of (fun t k => XS.iload X204.here hx rfl (hb hby at_229) rfl k) ?_
  show Goes p e below (T200.setTop (mkF m 231 #[.val (.int p1), .val (.int p2), .val (.int p3), .val (.int p4), .val (.ref b30), .val (.ref b109), .val (.int i), .val (.int (own_lov i)), .val (.int (own_hiv i)), .val (.int (((own_hiv i) - (own_lov i)) + (1 : Int32))), .unset, .unset, .unset, .unset, .unset, .unset, .unset, .unset] [(.int (own_lov i))])) _
  refine Goes.of (fun t k => XS.iloadN X204.here hx rfl (hb hby at_231) rfl k) ?_
  show Goes p e below (T200.setTop (mkF m 232 #[.val (.int p1), .val (.int p2), .val (.int p3), .val (.int p4), .val (.ref b30), .val (.ref b109), .val (.int i), .val (.int (own_lov i)), .val (.int (own_hiv i)), .val (.int (((own_hiv i) - (own_lov i)) + (1 : Int32))), .unset, .unset, .unset, .unset, .unset, .unset, .unset, .unset] [(.int p2), (.int (own_lov i))])) _
  refine Goes.of (fun t k => X204.ldcInt hx hown (mvT hZ (wd hw 8 rfl)) (g := (mkF m 232 #[.val (.int p1), .val (.int p2), .val (.int p3), .val (.int p4), .val (.ref b30), .val (.ref b109), .val (.int i), .val (.int (own_lov i)), .val (.int (own_hiv i)), .val (.int (((own_hiv i) - (own_lov i)) + (1 : Int32))), .unset, .unset, .unset, .unset, .unset, .unset, .unset, .unset] [(.int p2), (.int (own_lov i))])) rfl (hb hby at_232) _ k) ?_
  show Goes p e below (T200.setTop (mkF m 234 #[.val (.int p1), .val (.int p2), .val (.int p3), .val (.int p4), .val (.ref b30), .val (.ref b109), .val (.int i), .val (.int (own_lov i)), .val (.int (own_hiv i)), .val (.int (((own_hiv i) - (own_lov i)) + (1 : Int32))), .unset, .unset, .unset, .unset, .unset, .unset, .unset, .unset] [(.int (2147483647 : Int32)), (.int p2), (.int (own_lov i))])) _
  refine Goes.of (fun t k => XS.iand X204.here hx rfl (hb hby at_234) rfl k) ?_
  show Goes p e below (T200.setTop (mkF m 235 #[.val (.int p1), .val (.int p2), .val (.int p3), .val (.int p4), .val (.ref b30), .val (.ref b109), .val (.int i), .val (.int (own_lov i)), .val (.int (own_hiv i)), .val (.int (((own_hiv i) - (own_lov i)) + (1 : Int32))), .unset, .unset, .unset, .unset, .unset, .unset, .unset, .unset] [(.int (p2 &&& (2147483647 : Int32))), (.int (own_lov i))])) _
  refine Goes.of (fun t k => XS.iload X204.here hx rfl (hb hby at_235) rfl k) ?_
  show Goes p e below (T200.setTop (mkF m 237 #[.val (.int p1), .val (.int p2), .val (.int p3), .val (.int p4), .val (.ref b30), .val (.ref b109), .val (.int i), .val (.int (own_lov i)), .val (.int (own_hiv i)), .val (.int (((own_hiv i) - (own_lov i)) + (1 : Int32))), .unset, .unset, .unset, .unset, .unset, .unset, .unset, .unset] [(.int (((own_hiv i) - (own_lov i)) + (1 : Int32))), (.int (p2 &&& (2147483647 : Int32))), (.int (own_lov i))])) _
  refine Goes.of (fun t k => XS.irem X204.here hx rfl (hb hby at_237) rfl (own_nz t1) k) ?_
  show Goes p e below (T200.setTop (mkF m 238 #[.val (.int p1), .val (.int p2), .val (.int p3), .val (.int p4), .val (.ref b30), .val (.ref b109), .val (.int i), .val (.int (own_lov i)), .val (.int (own_hiv i)), .val (.int (((own_hiv i) - (own_lov i)) + (1 : Int32))), .unset, .unset, .unset, .unset, .unset, .unset, .unset, .unset] [(.int ((p2 &&& (2147483647 : Int32)) - (p2 &&& (2147483647 : Int32)) / (((own_hiv i) - (own_lov i)) + (1 : Int32)) * (((own_hiv i) - (own_lov i)) + (1 : Int32)))), (.int (own_lov i))])) _
  refine Goes.of (fun t k => XS.iadd X204.here hx rfl (hb hby at_238) rfl k) ?_
  show Goes p e below (T200.setTop (mkF m 239 #[.val (.int p1), .val (.int p2), .val (.int p3), .val (.int p4), .val (.ref b30), .val (.ref b109), .val (.int i), .val (.int (own_lov i)), .val (.int (own_hiv i)), .val (.int (((own_hiv i) - (own_lov i)) + (1 : Int32))), .unset, .unset, .unset, .unset, .unset, .unset, .unset, .unset] [(.int ((own_lov i) + ((p2 &&& (2147483647 : Int32)) - (p2 &&& (2147483647 : Int32)) / (((own_hiv i) - (own_lov i)) + (1 : Int32)) * (((own_hiv i) - (own_lov i)) + (1 : Int32)))))])) _
  refine Goes.of (fun t k => XS.istore X204.here hx rfl (hb hby at_239) rfl (l' := #[.val (.int p1), .val (.int p2), .val (.int p3), .val (.int p4), .val (.ref b30), .val (.ref b109), .val (.int i), .val (.int (own_lov i)), .val (.int (own_hiv i)), .val (.int (((own_hiv i) - (own_lov i)) + (1 : Int32))), .val (.int ((own_lov i) + ((p2 &&& (2147483647 : Int32)) - (p2 &&& (2147483647 : Int32)) / (((own_hiv i) - (own_lov i)) + (1 : Int32)) * (((own_hiv i) - (own_lov i)) + (1 : Int32))))), .unset, .unset, .unset, .unset, .unset, .unset, .unset]) rfl k) ?_
  show Goes p e below (T200.setTop (mkF m 241 #[.val (.int p1), .val (.int p2), .val (.int p3), .val (.int p4), .val (.ref b30), .val (.ref b109), .val (.int i), .val (.int (own_lov i)), .val (.int (own_hiv i)), .val (.int (((own_hiv i) - (own_lov i)) + (1 : Int32))), .val (.int ((own_lov i) + ((p2 &&& (2147483647 : Int32)) - (p2 &&& (2147483647 : Int32)) / (((own_hiv i) - (own_lov i)) + (1 : Int32)) * (((own_hiv i) - (own_lov i)) + (1 : Int32))))), .unset, .unset, .unset, .unset, .unset, .unset, .unset] [])) _
  obtain ⟨q, eq⟩ : ∃ z : Int32, z = ((own_lov i) + ((p2 &&& (2147483647 : Int32)) - (p2 &&& (2147483647 : Int32)) / (((own_hiv i) - (own_lov i)) + (1 : Int32)) * (((own_hiv i) - (own_lov i)) + (1 : Int32)))) := ⟨_, rfl⟩
  rw [← eq]
  show Goes p e below (T200.setTop (mkF m 241 #[.val (.int p1), .val (.int p2), .val (.int p3), .val (.int p4), .val (.ref b30), .val (.ref b109), .val (.int i), .val (.int (own_lov i)), .val (.int (own_hiv i)), .val (.int (((own_hiv i) - (own_lov i)) + (1 : Int32))), .val (.int q), .unset, .unset, .unset, .unset, .unset, .unset, .unset] [])) _
  refine Goes.of (fun t k => XS.iload X204.here hx rfl (hb hby at_241) rfl k) ?_
  show Goes p e below (T200.setTop (mkF m 243 #[.val (.int p1), .val (.int p2), .val (.int p3), .val (.int p4), .val (.ref b30), .val (.ref b109), .val (.int i), .val (.int (own_lov i)), .val (.int (own_hiv i)), .val (.int (((own_hiv i) - (own_lov i)) + (1 : Int32))), .val (.int q), .unset, .unset, .unset, .unset, .unset, .unset, .unset] [(.int i)])) _
  have bq : own_in q := by
    have b := own_off p2 _ _ t1 t2 t4
    rw [← eq, t3] at b
    exact t9 q b.1 b.2
  by_cases hc243_211 : i = (0 : Int32)
  · refine Goes.of (fun t k => XS.ifNo X204.here hx rfl (hb hby at_243) rfl ((if0 _ _).trans (teq hc243_211).2) k) ?_
    show Goes p e below (T200.setTop (mkF m 246 #[.val (.int p1), .val (.int p2), .val (.int p3), .val (.int p4), .val (.ref b30), .val (.ref b109), .val (.int i), .val (.int (own_lov i)), .val (.int (own_hiv i)), .val (.int (((own_hiv i) - (own_lov i)) + (1 : Int32))), .val (.int q), .unset, .unset, .unset, .unset, .unset, .unset, .unset] [])) _
    refine Goes.of (fun t k => XS.iconst X204.here hx rfl (hb hby at_246) k) ?_
    show Goes p e below (T200.setTop (mkF m 247 #[.val (.int p1), .val (.int p2), .val (.int p3), .val (.int p4), .val (.ref b30), .val (.ref b109), .val (.int i), .val (.int (own_lov i)), .val (.int (own_hiv i)), .val (.int (((own_hiv i) - (own_lov i)) + (1 : Int32))), .val (.int q), .unset, .unset, .unset, .unset, .unset, .unset, .unset] [(.int (0 : Int32))])) _
    refine Goes.of (fun t k => XS.goto X204.here hx rfl (pc0 := 247) (pc' := 259) rfl (hb hby at_247) (by decide) (by decide) k) ?_
    show Goes p e below (T200.setTop (mkF m 259 #[.val (.int p1), .val (.int p2), .val (.int p3), .val (.int p4), .val (.ref b30), .val (.ref b109), .val (.int i), .val (.int (own_lov i)), .val (.int (own_hiv i)), .val (.int (((own_hiv i) - (own_lov i)) + (1 : Int32))), .val (.int q), .unset, .unset, .unset, .unset, .unset, .unset, .unset] [(.int (0 : Int32))])) _
    refine Goes.of (fun t k => XS.istore X204.here hx rfl (hb hby at_259) rfl (l' := #[.val (.int p1), .val (.int p2), .val (.int p3), .val (.int p4), .val (.ref b30), .val (.ref b109), .val (.int i), .val (.int (own_lov i)), .val (.int (own_hiv i)), .val (.int (((own_hiv i) - (own_lov i)) + (1 : Int32))), .val (.int q), .val (.int (0 : Int32)), .unset, .unset, .unset, .unset, .unset, .unset]) rfl k) ?_
    show Goes p e below (T200.setTop (mkF m 261 #[.val (.int p1), .val (.int p2), .val (.int p3), .val (.int p4), .val (.ref b30), .val (.ref b109), .val (.int i), .val (.int (own_lov i)), .val (.int (own_hiv i)), .val (.int (((own_hiv i) - (own_lov i)) + (1 : Int32))), .val (.int q), .val (.int (0 : Int32)), .unset, .unset, .unset, .unset, .unset, .unset] [])) _
    refine Goes.of (fun t k => XS.iload X204.here hx rfl (hb hby at_261) rfl k) ?_
    show Goes p e below (T200.setTop (mkF m 263 #[.val (.int p1), .val (.int p2), .val (.int p3), .val (.int p4), .val (.ref b30), .val (.ref b109), .val (.int i), .val (.int (own_lov i)), .val (.int (own_hiv i)), .val (.int (((own_hiv i) - (own_lov i)) + (1 : Int32))), .val (.int q), .val (.int (0 : Int32)), .unset, .unset, .unset, .unset, .unset, .unset] [(.int (own_lov i))])) _
    refine Goes.of (fun t k => XS.iconst X204.here hx rfl (hb hby at_263) k) ?_
    show Goes p e below (T200.setTop (mkF m 264 #[.val (.int p1), .val (.int p2), .val (.int p3), .val (.int p4), .val (.ref b30), .val (.ref b109), .val (.int i), .val (.int (own_lov i)), .val (.int (own_hiv i)), .val (.int (((own_hiv i) - (own_lov i)) + (1 : Int32))), .val (.int q), .val (.int (0 : Int32)), .unset, .unset, .unset, .unset, .unset, .unset] [(.int (1 : Int32)), (.int (own_lov i))])) _
    refine Goes.of (fun t k => XS.isub X204.here hx rfl (hb hby at_264) rfl k) ?_
    show Goes p e below (T200.setTop (mkF m 265 #[.val (.int p1), .val (.int p2), .val (.int p3), .val (.int p4), .val (.ref b30), .val (.ref b109), .val (.int i), .val (.int (own_lov i)), .val (.int (own_hiv i)), .val (.int (((own_hiv i) - (own_lov i)) + (1 : Int32))), .val (.int q), .val (.int (0 : Int32)), .unset, .unset, .unset, .unset, .unset, .unset] [(.int ((own_lov i) - (1 : Int32)))])) _
    refine Goes.of (fun t k => XS.istore X204.here hx rfl (hb hby at_265) rfl (l' := #[.val (.int p1), .val (.int p2), .val (.int p3), .val (.int p4), .val (.ref b30), .val (.ref b109), .val (.int i), .val (.int (own_lov i)), .val (.int (own_hiv i)), .val (.int (((own_hiv i) - (own_lov i)) + (1 : Int32))), .val (.int q), .val (.int (0 : Int32)), .val (.int ((own_lov i) - (1 : Int32))), .unset, .unset, .unset, .unset, .unset]) rfl k) ?_
    show Goes p e below (T200.setTop (mkF m 267 #[.val (.int p1), .val (.int p2), .val (.int p3), .val (.int p4), .val (.ref b30), .val (.ref b109), .val (.int i), .val (.int (own_lov i)), .val (.int (own_hiv i)), .val (.int (((own_hiv i) - (own_lov i)) + (1 : Int32))), .val (.int q), .val (.int (0 : Int32)), .val (.int ((own_lov i) - (1 : Int32))), .unset, .unset, .unset, .unset, .unset] [])) _
    refine Goes.of (fun t k => XS.iload X204.here hx rfl (hb hby at_267) rfl k) ?_
    show Goes p e below (T200.setTop (mkF m 269 #[.val (.int p1), .val (.int p2), .val (.int p3), .val (.int p4), .val (.ref b30), .val (.ref b109), .val (.int i), .val (.int (own_lov i)), .val (.int (own_hiv i)), .val (.int (((own_hiv i) - (own_lov i)) + (1 : Int32))), .val (.int q), .val (.int (0 : Int32)), .val (.int ((own_lov i) - (1 : Int32))), .unset, .unset, .unset, .unset, .unset] [(.int ((own_lov i) - (1 : Int32)))])) _
    refine Goes.of (fun t k => XS.iload X204.here hx rfl (hb hby at_269) rfl k) ?_
    show Goes p e below (T200.setTop (mkF m 271 #[.val (.int p1), .val (.int p2), .val (.int p3), .val (.int p4), .val (.ref b30), .val (.ref b109), .val (.int i), .val (.int (own_lov i)), .val (.int (own_hiv i)), .val (.int (((own_hiv i) - (own_lov i)) + (1 : Int32))), .val (.int q), .val (.int (0 : Int32)), .val (.int ((own_lov i) - (1 : Int32))), .unset, .unset, .unset, .unset, .unset] [(.int (0 : Int32)), (.int ((own_lov i) - (1 : Int32)))])) _
    refine Goes.of (fun t k => XS.isub X204.here hx rfl (hb hby at_271) rfl k) ?_
    show Goes p e below (T200.setTop (mkF m 272 #[.val (.int p1), .val (.int p2), .val (.int p3), .val (.int p4), .val (.ref b30), .val (.ref b109), .val (.int i), .val (.int (own_lov i)), .val (.int (own_hiv i)), .val (.int (((own_hiv i) - (own_lov i)) + (1 : Int32))), .val (.int q), .val (.int (0 : Int32)), .val (.int ((own_lov i) - (1 : Int32))), .unset, .unset, .unset, .unset, .unset] [(.int (((own_lov i) - (1 : Int32)) - (0 : Int32)))])) _
    refine Goes.of (fun t k => XS.iconst X204.here hx rfl (hb hby at_272) k) ?_
    show Goes p e below (T200.setTop (mkF m 273 #[.val (.int p1), .val (.int p2), .val (.int p3), .val (.int p4), .val (.ref b30), .val (.ref b109), .val (.int i), .val (.int (own_lov i)), .val (.int (own_hiv i)), .val (.int (((own_hiv i) - (own_lov i)) + (1 : Int32))), .val (.int q), .val (.int (0 : Int32)), .val (.int ((own_lov i) - (1 : Int32))), .unset, .unset, .unset, .unset, .unset] [(.int (1 : Int32)), (.int (((own_lov i) - (1 : Int32)) - (0 : Int32)))])) _
    refine Goes.of (fun t k => XS.iadd X204.here hx rfl (hb hby at_273) rfl k) ?_
    show Goes p e below (T200.setTop (mkF m 274 #[.val (.int p1), .val (.int p2), .val (.int p3), .val (.int p4), .val (.ref b30), .val (.ref b109), .val (.int i), .val (.int (own_lov i)), .val (.int (own_hiv i)), .val (.int (((own_hiv i) - (own_lov i)) + (1 : Int32))), .val (.int q), .val (.int (0 : Int32)), .val (.int ((own_lov i) - (1 : Int32))), .unset, .unset, .unset, .unset, .unset] [(.int ((((own_lov i) - (1 : Int32)) - (0 : Int32)) + (1 : Int32)))])) _
    refine Goes.of (fun t k => XS.istore X204.here hx rfl (hb hby at_274) rfl (l' := #[.val (.int p1), .val (.int p2), .val (.int p3), .val (.int p4), .val (.ref b30), .val (.ref b109), .val (.int i), .val (.int (own_lov i)), .val (.int (own_hiv i)), .val (.int (((own_hiv i) - (own_lov i)) + (1 : Int32))), .val (.int q), .val (.int (0 : Int32)), .val (.int ((own_lov i) - (1 : Int32))), .val (.int ((((own_lov i) - (1 : Int32)) - (0 : Int32)) + (1 : Int32))), .unset, .unset, .unset, .unset]) rfl k) ?_
    show Goes p e below (T200.setTop (mkF m 276 #[.val (.int p1), .val (.int p2), .val (.int p3), .val (.int p4), .val (.ref b30), .val (.ref b109), .val (.int i), .val (.int (own_lov i)), .val (.int (own_hiv i)), .val (.int (((own_hiv i) - (own_lov i)) + (1 : Int32))), .val (.int q), .val (.int (0 : Int32)), .val (.int ((own_lov i) - (1 : Int32))), .val (.int ((((own_lov i) - (1 : Int32)) - (0 : Int32)) + (1 : Int32))), .unset, .unset, .unset, .unset] [])) _
    refine Goes.of (fun t k => XS.iload X204.here hx rfl (hb hby at_276) rfl k) ?_
    show Goes p e below (T200.setTop (mkF m 278 #[.val (.int p1), .val (.int p2), .val (.int p3), .val (.int p4), .val (.ref b30), .val (.ref b109), .val (.int i), .val (.int (own_lov i)), .val (.int (own_hiv i)), .val (.int (((own_hiv i) - (own_lov i)) + (1 : Int32))), .val (.int q), .val (.int (0 : Int32)), .val (.int ((own_lov i) - (1 : Int32))), .val (.int ((((own_lov i) - (1 : Int32)) - (0 : Int32)) + (1 : Int32))), .unset, .unset, .unset, .unset] [(.int (0 : Int32))])) _
    refine Goes.of (fun t k => XS.iloadN X204.here hx rfl (hb hby at_278) rfl k) ?_
    show Goes p e below (T200.setTop (mkF m 279 #[.val (.int p1), .val (.int p2), .val (.int p3), .val (.int p4), .val (.ref b30), .val (.ref b109), .val (.int i), .val (.int (own_lov i)), .val (.int (own_hiv i)), .val (.int (((own_hiv i) - (own_lov i)) + (1 : Int32))), .val (.int q), .val (.int (0 : Int32)), .val (.int ((own_lov i) - (1 : Int32))), .val (.int ((((own_lov i) - (1 : Int32)) - (0 : Int32)) + (1 : Int32))), .unset, .unset, .unset, .unset] [(.int p3), (.int (0 : Int32))])) _
    refine Goes.of (fun t k => X204.ldcInt hx hown (mvT hZ (wd hw 8 rfl)) (g := (mkF m 279 #[.val (.int p1), .val (.int p2), .val (.int p3), .val (.int p4), .val (.ref b30), .val (.ref b109), .val (.int i), .val (.int (own_lov i)), .val (.int (own_hiv i)), .val (.int (((own_hiv i) - (own_lov i)) + (1 : Int32))), .val (.int q), .val (.int (0 : Int32)), .val (.int ((own_lov i) - (1 : Int32))), .val (.int ((((own_lov i) - (1 : Int32)) - (0 : Int32)) + (1 : Int32))), .unset, .unset, .unset, .unset] [(.int p3), (.int (0 : Int32))])) rfl (hb hby at_279) _ k) ?_
    show Goes p e below (T200.setTop (mkF m 281 #[.val (.int p1), .val (.int p2), .val (.int p3), .val (.int p4), .val (.ref b30), .val (.ref b109), .val (.int i), .val (.int (own_lov i)), .val (.int (own_hiv i)), .val (.int (((own_hiv i) - (own_lov i)) + (1 : Int32))), .val (.int q), .val (.int (0 : Int32)), .val (.int ((own_lov i) - (1 : Int32))), .val (.int ((((own_lov i) - (1 : Int32)) - (0 : Int32)) + (1 : Int32))), .unset, .unset, .unset, .unset] [(.int (2147483647 : Int32)), (.int p3), (.int (0 : Int32))])) _
    refine Goes.of (fun t k => XS.iand X204.here hx rfl (hb hby at_281) rfl k) ?_
    show Goes p e below (T200.setTop (mkF m 282 #[.val (.int p1), .val (.int p2), .val (.int p3), .val (.int p4), .val (.ref b30), .val (.ref b109), .val (.int i), .val (.int (own_lov i)), .val (.int (own_hiv i)), .val (.int (((own_hiv i) - (own_lov i)) + (1 : Int32))), .val (.int q), .val (.int (0 : Int32)), .val (.int ((own_lov i) - (1 : Int32))), .val (.int ((((own_lov i) - (1 : Int32)) - (0 : Int32)) + (1 : Int32))), .unset, .unset, .unset, .unset] [(.int (p3 &&& (2147483647 : Int32))), (.int (0 : Int32))])) _
    refine Goes.of (fun t k => XS.iload X204.here hx rfl (hb hby at_282) rfl k) ?_
    show Goes p e below (T200.setTop (mkF m 284 #[.val (.int p1), .val (.int p2), .val (.int p3), .val (.int p4), .val (.ref b30), .val (.ref b109), .val (.int i), .val (.int (own_lov i)), .val (.int (own_hiv i)), .val (.int (((own_hiv i) - (own_lov i)) + (1 : Int32))), .val (.int q), .val (.int (0 : Int32)), .val (.int ((own_lov i) - (1 : Int32))), .val (.int ((((own_lov i) - (1 : Int32)) - (0 : Int32)) + (1 : Int32))), .unset, .unset, .unset, .unset] [(.int ((((own_lov i) - (1 : Int32)) - (0 : Int32)) + (1 : Int32))), (.int (p3 &&& (2147483647 : Int32))), (.int (0 : Int32))])) _
    refine Goes.of (fun t k => XS.irem X204.here hx rfl (hb hby at_284) rfl (own_nz (t10 hc243_211).1) k) ?_
    show Goes p e below (T200.setTop (mkF m 285 #[.val (.int p1), .val (.int p2), .val (.int p3), .val (.int p4), .val (.ref b30), .val (.ref b109), .val (.int i), .val (.int (own_lov i)), .val (.int (own_hiv i)), .val (.int (((own_hiv i) - (own_lov i)) + (1 : Int32))), .val (.int q), .val (.int (0 : Int32)), .val (.int ((own_lov i) - (1 : Int32))), .val (.int ((((own_lov i) - (1 : Int32)) - (0 : Int32)) + (1 : Int32))), .unset, .unset, .unset, .unset] [(.int ((p3 &&& (2147483647 : Int32)) - (p3 &&& (2147483647 : Int32)) / ((((own_lov i) - (1 : Int32)) - (0 : Int32)) + (1 : Int32)) * ((((own_lov i) - (1 : Int32)) - (0 : Int32)) + (1 : Int32)))), (.int (0 : Int32))])) _
    refine Goes.of (fun t k => XS.iadd X204.here hx rfl (hb hby at_285) rfl k) ?_
    show Goes p e below (T200.setTop (mkF m 286 #[.val (.int p1), .val (.int p2), .val (.int p3), .val (.int p4), .val (.ref b30), .val (.ref b109), .val (.int i), .val (.int (own_lov i)), .val (.int (own_hiv i)), .val (.int (((own_hiv i) - (own_lov i)) + (1 : Int32))), .val (.int q), .val (.int (0 : Int32)), .val (.int ((own_lov i) - (1 : Int32))), .val (.int ((((own_lov i) - (1 : Int32)) - (0 : Int32)) + (1 : Int32))), .unset, .unset, .unset, .unset] [(.int ((0 : Int32) + ((p3 &&& (2147483647 : Int32)) - (p3 &&& (2147483647 : Int32)) / ((((own_lov i) - (1 : Int32)) - (0 : Int32)) + (1 : Int32)) * ((((own_lov i) - (1 : Int32)) - (0 : Int32)) + (1 : Int32)))))])) _
    refine Goes.of (fun t k => XS.istore X204.here hx rfl (hb hby at_286) rfl (l' := #[.val (.int p1), .val (.int p2), .val (.int p3), .val (.int p4), .val (.ref b30), .val (.ref b109), .val (.int i), .val (.int (own_lov i)), .val (.int (own_hiv i)), .val (.int (((own_hiv i) - (own_lov i)) + (1 : Int32))), .val (.int q), .val (.int (0 : Int32)), .val (.int ((own_lov i) - (1 : Int32))), .val (.int ((((own_lov i) - (1 : Int32)) - (0 : Int32)) + (1 : Int32))), .val (.int ((0 : Int32) + ((p3 &&& (2147483647 : Int32)) - (p3 &&& (2147483647 : Int32)) / ((((own_lov i) - (1 : Int32)) - (0 : Int32)) + (1 : Int32)) * ((((own_lov i) - (1 : Int32)) - (0 : Int32)) + (1 : Int32))))), .unset, .unset, .unset]) rfl k) ?_
    show Goes p e below (T200.setTop (mkF m 288 #[.val (.int p1), .val (.int p2), .val (.int p3), .val (.int p4), .val (.ref b30), .val (.ref b109), .val (.int i), .val (.int (own_lov i)), .val (.int (own_hiv i)), .val (.int (((own_hiv i) - (own_lov i)) + (1 : Int32))), .val (.int q), .val (.int (0 : Int32)), .val (.int ((own_lov i) - (1 : Int32))), .val (.int ((((own_lov i) - (1 : Int32)) - (0 : Int32)) + (1 : Int32))), .val (.int ((0 : Int32) + ((p3 &&& (2147483647 : Int32)) - (p3 &&& (2147483647 : Int32)) / ((((own_lov i) - (1 : Int32)) - (0 : Int32)) + (1 : Int32)) * ((((own_lov i) - (1 : Int32)) - (0 : Int32)) + (1 : Int32))))), .unset, .unset, .unset] [])) _
    obtain ⟨pv, ep⟩ : ∃ z : Int32, z = ((0 : Int32) + ((p3 &&& (2147483647 : Int32)) - (p3 &&& (2147483647 : Int32)) / ((((own_lov i) - (1 : Int32)) - (0 : Int32)) + (1 : Int32)) * ((((own_lov i) - (1 : Int32)) - (0 : Int32)) + (1 : Int32)))) := ⟨_, rfl⟩
    rw [← ep]
    show Goes p e below (T200.setTop (mkF m 288 #[.val (.int p1), .val (.int p2), .val (.int p3), .val (.int p4), .val (.ref b30), .val (.ref b109), .val (.int i), .val (.int (own_lov i)), .val (.int (own_hiv i)), .val (.int (((own_hiv i) - (own_lov i)) + (1 : Int32))), .val (.int q), .val (.int (0 : Int32)), .val (.int ((own_lov i) - (1 : Int32))), .val (.int ((((own_lov i) - (1 : Int32)) - (0 : Int32)) + (1 : Int32))), .val (.int pv), .unset, .unset, .unset] [])) _
    have bp : ¬ own_in pv := by
      have b := own_off p3 _ _ (t10 hc243_211).1 (by decide) (t10 hc243_211).2.2.1
      rw [← ep, (t10 hc243_211).2.1] at b
      exact (t10 hc243_211).2.2.2 pv b.1 b.2
    refine Goes.of (fun t k => XS.iload X204.here hx rfl (hb hby at_288) rfl k) ?_
    obtain ⟨_, _, ⟨T212, L212, k212, n212⟩, -, X212, ⟨Lc212, hQ212, l212, y212, z212⟩, st212⟩ := Jvm.LawKit.callS X204 hx (y := (⟨"com/example/strict_xslt/strictxslt/XmlNames", "isNameStart", "(I)Z"⟩ : MethodName)) hown (mvT hZ (wd hw 9 rfl)) (mvT hZ (wd hw 10 rfl)) (mvT hZ (wd hw 11 rfl)) (mvT hZ (wd hw 12 rfl)) (by decide) (backOf (W := 0) (rm1 l Z a0 hw [] q  h200 n0 z201 ) hZ (wd hw 12 rfl) (wd hw 11 rfl) (by decide) (by decide)) (g := (mkF m 290 #[.val (.int p1), .val (.int p2), .val (.int p3), .val (.int p4), .val (.ref b30), .val (.ref b109), .val (.int i), .val (.int (own_lov i)), .val (.int (own_hiv i)), .val (.int (((own_hiv i) - (own_lov i)) + (1 : Int32))), .val (.int q), .val (.int (0 : Int32)), .val (.int ((own_lov i) - (1 : Int32))), .val (.int ((((own_lov i) - (1 : Int32)) - (0 : Int32)) + (1 : Int32))), .val (.int pv), .unset, .unset, .unset] [(.int q)])) rfl (by rw [hml]; rfl) (argsL := [(.int q)]) (rest := []) (lenOf pd_2 rfl) rfl (by show 2 * 0 + _ ≤ _; exact Nat.le_of_eq rfl) (hb hby at_290) (fun _ _ => ⟨rfl, e200, (by decide : 2 + 0 ≤ _), (by decide : 30 + 0 ≤ _)⟩)
    dsimp only [Pt.U, Pt.locs, Pt.cells, Pt.slots] at X212 l212 y212 z212 st212 hQ212
    subst l212 y212 z212
    obtain ⟨rfl, N212q, e212⟩ := hQ212
    have N212 := Fr.app N204 N212q
    refine Goes.of st212 ?_
    show Goes p e below (T212.setTop (mkF m 293 #[.val (.int p1), .val (.int p2), .val (.int p3), .val (.int p4), .val (.ref b30), .val (.ref b109), .val (.int i), .val (.int (own_lov i)), .val (.int (own_hiv i)), .val (.int (((own_hiv i) - (own_lov i)) + (1 : Int32))), .val (.int q), .val (.int (0 : Int32)), .val (.int ((own_lov i) - (1 : Int32))), .val (.int ((((own_lov i) - (1 : Int32)) - (0 : Int32)) + (1 : Int32))), .val (.int pv), .unset, .unset, .unset] [(.int (if own_in q then 1 else 0))])) _
    have hi213 : own_in q := bq
    have hd293_214 : ¬ ((if own_in q then 1 else 0) = (0 : Int32)) := by rw [if_pos hi213]; decide
    refine Goes.of (fun t k => XS.ifNo X212.here hx rfl (hb hby at_293) rfl ((if0 _ _).trans (feq hd293_214).1) k) ?_
    show Goes p e below (T212.setTop (mkF m 296 #[.val (.int p1), .val (.int p2), .val (.int p3), .val (.int p4), .val (.ref b30), .val (.ref b109), .val (.int i), .val (.int (own_lov i)), .val (.int (own_hiv i)), .val (.int (((own_hiv i) - (own_lov i)) + (1 : Int32))), .val (.int q), .val (.int (0 : Int32)), .val (.int ((own_lov i) - (1 : Int32))), .val (.int ((((own_lov i) - (1 : Int32)) - (0 : Int32)) + (1 : Int32))), .val (.int pv), .unset, .unset, .unset] [])) _
    refine Goes.of (fun t k => XS.iload X212.here hx rfl (hb hby at_296) rfl k) ?_
    obtain ⟨_, _, ⟨T215, L215, k215, n215⟩, -, X215, ⟨Lc215, hQ215, l215, y215, z215⟩, st215⟩ := Jvm.LawKit.callS X212 hx (y := (⟨"com/example/strict_xslt/strictxslt/XmlNames", "isNameStart", "(I)Z"⟩ : MethodName)) hown (mvT hZ (wd hw 9 rfl)) (mvT hZ (wd hw 10 rfl)) (mvT hZ (wd hw 11 rfl)) (mvT hZ (wd hw 12 rfl)) (by decide) (backOf (W := 0) (rm1 l Z a0 hw [] pv  h200 n0 z201 ) hZ (wd hw 12 rfl) (wd hw 11 rfl) (by decide) (by decide)) (g := (mkF m 298 #[.val (.int p1), .val (.int p2), .val (.int p3), .val (.int p4), .val (.ref b30), .val (.ref b109), .val (.int i), .val (.int (own_lov i)), .val (.int (own_hiv i)), .val (.int (((own_hiv i) - (own_lov i)) + (1 : Int32))), .val (.int q), .val (.int (0 : Int32)), .val (.int ((own_lov i) - (1 : Int32))), .val (.int ((((own_lov i) - (1 : Int32)) - (0 : Int32)) + (1 : Int32))), .val (.int pv), .unset, .unset, .unset] [(.int pv)])) rfl (by rw [hml]; rfl) (argsL := [(.int pv)]) (rest := []) (lenOf pd_2 rfl) rfl (by show 2 * 0 + _ ≤ _; exact Nat.le_of_eq rfl) (hb hby at_298) (fun _ _ => ⟨rfl, e212, (by decide : 2 + 0 ≤ _), (by decide : 30 + 0 ≤ _)⟩)
    dsimp only [Pt.U, Pt.locs, Pt.cells, Pt.slots] at X215 l215 y215 z215 st215 hQ215
    subst l215 y215 z215
    obtain ⟨rfl, N215q, e215⟩ := hQ215
    have N215 := Fr.app N212 N215q
    refine Goes.of st215 ?_
    show Goes p e below (T215.setTop (mkF m 301 #[.val (.int p1), .val (.int p2), .val (.int p3), .val (.int p4), .val (.ref b30), .val (.ref b109), .val (.int i), .val (.int (own_lov i)), .val (.int (own_hiv i)), .val (.int (((own_hiv i) - (own_lov i)) + (1 : Int32))), .val (.int q), .val (.int (0 : Int32)), .val (.int ((own_lov i) - (1 : Int32))), .val (.int ((((own_lov i) - (1 : Int32)) - (0 : Int32)) + (1 : Int32))), .val (.int pv), .unset, .unset, .unset] [(.int (if own_in pv then 1 else 0))])) _
    have hi216 : ¬ own_in pv := bp
    have hd301_217 : (if own_in pv then 1 else 0) = (0 : Int32) := by rw [if_neg hi216]
    refine Goes.of (fun t k => XS.ifNo X215.here hx rfl (hb hby at_301) rfl ((if0 _ _).trans (teq hd301_217).2) k) ?_
    show Goes p e below (T215.setTop (mkF m 304 #[.val (.int p1), .val (.int p2), .val (.int p3), .val (.int p4), .val (.ref b30), .val (.ref b109), .val (.int i), .val (.int (own_lov i)), .val (.int (own_hiv i)), .val (.int (((own_hiv i) - (own_lov i)) + (1 : Int32))), .val (.int q), .val (.int (0 : Int32)), .val (.int ((own_lov i) - (1 : Int32))), .val (.int ((((own_lov i) - (1 : Int32)) - (0 : Int32)) + (1 : Int32))), .val (.int pv), .unset, .unset, .unset] [])) _
    refine Goes.of (fun t k => XS.iload X215.here hx rfl (hb hby at_304) rfl k) ?_
    obtain ⟨_, _, ⟨T218, L218, k218, n218⟩, -, X218, ⟨Lc218, hQ218, l218, y218, z218⟩, st218⟩ := Jvm.LawKit.callS X215 hx (y := (⟨"com/example/strict_xslt/strictxslt/XmlNames", "isNameStart", "(I)Z"⟩ : MethodName)) hown (mvT hZ (wd hw 9 rfl)) (mvT hZ (wd hw 10 rfl)) (mvT hZ (wd hw 11 rfl)) (mvT hZ (wd hw 12 rfl)) (by decide) (backOf (W := 0) (rm1 l Z a0 hw [] (own_lov i)  h200 n0 z201 ) hZ (wd hw 12 rfl) (wd hw 11 rfl) (by decide) (by decide)) (g := (mkF m 306 #[.val (.int p1), .val (.int p2), .val (.int p3), .val (.int p4), .val (.ref b30), .val (.ref b109), .val (.int i), .val (.int (own_lov i)), .val (.int (own_hiv i)), .val (.int (((own_hiv i) - (own_lov i)) + (1 : Int32))), .val (.int q), .val (.int (0 : Int32)), .val (.int ((own_lov i) - (1 : Int32))), .val (.int ((((own_lov i) - (1 : Int32)) - (0 : Int32)) + (1 : Int32))), .val (.int pv), .unset, .unset, .unset] [(.int (own_lov i))])) rfl (by rw [hml]; rfl) (argsL := [(.int (own_lov i))]) (rest := []) (lenOf pd_2 rfl) rfl (by show 2 * 0 + _ ≤ _; exact Nat.le_of_eq rfl) (hb hby at_306) (fun _ _ => ⟨rfl, e215, (by decide : 2 + 0 ≤ _), (by decide : 30 + 0 ≤ _)⟩)
    dsimp only [Pt.U, Pt.locs, Pt.cells, Pt.slots] at X218 l218 y218 z218 st218 hQ218
    subst l218 y218 z218
    obtain ⟨rfl, N218q, e218⟩ := hQ218
    have N218 := Fr.app N215 N218q
    refine Goes.of st218 ?_
    show Goes p e below (T218.setTop (mkF m 309 #[.val (.int p1), .val (.int p2), .val (.int p3), .val (.int p4), .val (.ref b30), .val (.ref b109), .val (.int i), .val (.int (own_lov i)), .val (.int (own_hiv i)), .val (.int (((own_hiv i) - (own_lov i)) + (1 : Int32))), .val (.int q), .val (.int (0 : Int32)), .val (.int ((own_lov i) - (1 : Int32))), .val (.int ((((own_lov i) - (1 : Int32)) - (0 : Int32)) + (1 : Int32))), .val (.int pv), .unset, .unset, .unset] [(.int (if own_in (own_lov i) then 1 else 0))])) _
    have hi219 : own_in (own_lov i) := t5
    have hd309_220 : ¬ ((if own_in (own_lov i) then 1 else 0) = (0 : Int32)) := by rw [if_pos hi219]; decide
    refine Goes.of (fun t k => XS.ifNo X218.here hx rfl (hb hby at_309) rfl ((if0 _ _).trans (feq hd309_220).1) k) ?_
    show Goes p e below (T218.setTop (mkF m 312 #[.val (.int p1), .val (.int p2), .val (.int p3), .val (.int p4), .val (.ref b30), .val (.ref b109), .val (.int i), .val (.int (own_lov i)), .val (.int (own_hiv i)), .val (.int (((own_hiv i) - (own_lov i)) + (1 : Int32))), .val (.int q), .val (.int (0 : Int32)), .val (.int ((own_lov i) - (1 : Int32))), .val (.int ((((own_lov i) - (1 : Int32)) - (0 : Int32)) + (1 : Int32))), .val (.int pv), .unset, .unset, .unset] [])) _
    refine Goes.of (fun t k => XS.iload X218.here hx rfl (hb hby at_312) rfl k) ?_
    obtain ⟨_, _, ⟨T221, L221, k221, n221⟩, -, X221, ⟨Lc221, hQ221, l221, y221, z221⟩, st221⟩ := Jvm.LawKit.callS X218 hx (y := (⟨"com/example/strict_xslt/strictxslt/XmlNames", "isNameStart", "(I)Z"⟩ : MethodName)) hown (mvT hZ (wd hw 9 rfl)) (mvT hZ (wd hw 10 rfl)) (mvT hZ (wd hw 11 rfl)) (mvT hZ (wd hw 12 rfl)) (by decide) (backOf (W := 0) (rm1 l Z a0 hw [] (own_hiv i)  h200 n0 z201 ) hZ (wd hw 12 rfl) (wd hw 11 rfl) (by decide) (by decide)) (g := (mkF m 314 #[.val (.int p1), .val (.int p2), .val (.int p3), .val (.int p4), .val (.ref b30), .val (.ref b109), .val (.int i), .val (.int (own_lov i)), .val (.int (own_hiv i)), .val (.int (((own_hiv i) - (own_lov i)) + (1 : Int32))), .val (.int q), .val (.int (0 : Int32)), .val (.int ((own_lov i) - (1 : Int32))), .val (.int ((((own_lov i) - (1 : Int32)) - (0 : Int32)) + (1 : Int32))), .val (.int pv), .unset, .unset, .unset] [(.int (own_hiv i))])) rfl (by rw [hml]; rfl) (argsL := [(.int (own_hiv i))]) (rest := []) (lenOf pd_2 rfl) rfl (by show 2 * 0 + _ ≤ _; exact Nat.le_of_eq rfl) (hb hby at_314) (fun _ _ => ⟨rfl, e218, (by decide : 2 + 0 ≤ _), (by decide : 30 + 0 ≤ _)⟩)
    dsimp only [Pt.U, Pt.locs, Pt.cells, Pt.slots] at X221 l221 y221 z221 st221 hQ221
    subst l221 y221 z221
    obtain ⟨rfl, N221q, e221⟩ := hQ221
    have N221 := Fr.app N218 N221q
    refine Goes.of st221 ?_
    show Goes p e below (T221.setTop (mkF m 317 #[.val (.int p1), .val (.int p2), .val (.int p3), .val (.int p4), .val (.ref b30), .val (.ref b109), .val (.int i), .val (.int (own_lov i)), .val (.int (own_hiv i)), .val (.int (((own_hiv i) - (own_lov i)) + (1 : Int32))), .val (.int q), .val (.int (0 : Int32)), .val (.int ((own_lov i) - (1 : Int32))), .val (.int ((((own_lov i) - (1 : Int32)) - (0 : Int32)) + (1 : Int32))), .val (.int pv), .unset, .unset, .unset] [(.int (if own_in (own_hiv i) then 1 else 0))])) _
    have hi222 : own_in (own_hiv i) := t6
    have hd317_223 : ¬ ((if own_in (own_hiv i) then 1 else 0) = (0 : Int32)) := by rw [if_pos hi222]; decide
    refine Goes.of (fun t k => XS.ifNo X221.here hx rfl (hb hby at_317) rfl ((if0 _ _).trans (feq hd317_223).1) k) ?_
    show Goes p e below (T221.setTop (mkF m 320 #[.val (.int p1), .val (.int p2), .val (.int p3), .val (.int p4), .val (.ref b30), .val (.ref b109), .val (.int i), .val (.int (own_lov i)), .val (.int (own_hiv i)), .val (.int (((own_hiv i) - (own_lov i)) + (1 : Int32))), .val (.int q), .val (.int (0 : Int32)), .val (.int ((own_lov i) - (1 : Int32))), .val (.int ((((own_lov i) - (1 : Int32)) - (0 : Int32)) + (1 : Int32))), .val (.int pv), .unset, .unset, .unset] [])) _
    refine Goes.of (fun t k => XS.iload X221.here hx rfl (hb hby at_320) rfl k) ?_
    show Goes p e below (T221.setTop (mkF m 322 #[.val (.int p1), .val (.int p2), .val (.int p3), .val (.int p4), .val (.ref b30), .val (.ref b109), .val (.int i), .val (.int (own_lov i)), .val (.int (own_hiv i)), .val (.int (((own_hiv i) - (own_lov i)) + (1 : Int32))), .val (.int q), .val (.int (0 : Int32)), .val (.int ((own_lov i) - (1 : Int32))), .val (.int ((((own_lov i) - (1 : Int32)) - (0 : Int32)) + (1 : Int32))), .val (.int pv), .unset, .unset, .unset] [(.int (own_lov i))])) _
    refine Goes.of (fun t k => XS.iconst X221.here hx rfl (hb hby at_322) k) ?_
    show Goes p e below (T221.setTop (mkF m 323 #[.val (.int p1), .val (.int p2), .val (.int p3), .val (.int p4), .val (.ref b30), .val (.ref b109), .val (.int i), .val (.int (own_lov i)), .val (.int (own_hiv i)), .val (.int (((own_hiv i) - (own_lov i)) + (1 : Int32))), .val (.int q), .val (.int (0 : Int32)), .val (.int ((own_lov i) - (1 : Int32))), .val (.int ((((own_lov i) - (1 : Int32)) - (0 : Int32)) + (1 : Int32))), .val (.int pv), .unset, .unset, .unset] [(.int (1 : Int32)), (.int (own_lov i))])) _
    refine Goes.of (fun t k => XS.isub X221.here hx rfl (hb hby at_323) rfl k) ?_
    obtain ⟨_, _, ⟨T224, L224, k224, n224⟩, -, X224, ⟨Lc224, hQ224, l224, y224, z224⟩, st224⟩ := Jvm.LawKit.callS X221 hx (y := (⟨"com/example/strict_xslt/strictxslt/XmlNames", "isNameStart", "(I)Z"⟩ : MethodName)) hown (mvT hZ (wd hw 9 rfl)) (mvT hZ (wd hw 10 rfl)) (mvT hZ (wd hw 11 rfl)) (mvT hZ (wd hw 12 rfl)) (by decide) (backOf (W := 0) (rm1 l Z a0 hw [] ((own_lov i) - (1 : Int32))  h200 n0 z201 ) hZ (wd hw 12 rfl) (wd hw 11 rfl) (by decide) (by decide)) (g := (mkF m 324 #[.val (.int p1), .val (.int p2), .val (.int p3), .val (.int p4), .val (.ref b30), .val (.ref b109), .val (.int i), .val (.int (own_lov i)), .val (.int (own_hiv i)), .val (.int (((own_hiv i) - (own_lov i)) + (1 : Int32))), .val (.int q), .val (.int (0 : Int32)), .val (.int ((own_lov i) - (1 : Int32))), .val (.int ((((own_lov i) - (1 : Int32)) - (0 : Int32)) + (1 : Int32))), .val (.int pv), .unset, .unset, .unset] [(.int ((own_lov i) - (1 : Int32)))])) rfl (by rw [hml]; rfl) (argsL := [(.int ((own_lov i) - (1 : Int32)))]) (rest := []) (lenOf pd_2 rfl) rfl (by show 2 * 0 + _ ≤ _; exact Nat.le_of_eq rfl) (hb hby at_324) (fun _ _ => ⟨rfl, e221, (by decide : 2 + 0 ≤ _), (by decide : 30 + 0 ≤ _)⟩)
    dsimp only [Pt.U, Pt.locs, Pt.cells, Pt.slots] at X224 l224 y224 z224 st224 hQ224
    subst l224 y224 z224
    obtain ⟨rfl, N224q, e224⟩ := hQ224
    have N224 := Fr.app N221 N224q
    refine Goes.of st224 ?_
    show Goes p e below (T224.setTop (mkF m 327 #[.val (.int p1), .val (.int p2), .val (.int p3), .val (.int p4), .val (.ref b30), .val (.ref b109), .val (.int i), .val (.int (own_lov i)), .val (.int (own_hiv i)), .val (.int (((own_hiv i) - (own_lov i)) + (1 : Int32))), .val (.int q), .val (.int (0 : Int32)), .val (.int ((own_lov i) - (1 : Int32))), .val (.int ((((own_lov i) - (1 : Int32)) - (0 : Int32)) + (1 : Int32))), .val (.int pv), .unset, .unset, .unset] [(.int (if own_in ((own_lov i) - (1 : Int32)) then 1 else 0))])) _
    have hi225 : ¬ own_in ((own_lov i) - (1 : Int32)) := t7
    have hd327_226 : (if own_in ((own_lov i) - (1 : Int32)) then 1 else 0) = (0 : Int32) := by rw [if_neg hi225]
    refine Goes.of (fun t k => XS.ifNo X224.here hx rfl (hb hby at_327) rfl ((if0 _ _).trans (teq hd327_226).2) k) ?_
    show Goes p e below (T224.setTop (mkF m 330 #[.val (.int p1), .val (.int p2), .val (.int p3), .val (.int p4), .val (.ref b30), .val (.ref b109), .val (.int i), .val (.int (own_lov i)), .val (.int (own_hiv i)), .val (.int (((own_hiv i) - (own_lov i)) + (1 : Int32))), .val (.int q), .val (.int (0 : Int32)), .val (.int ((own_lov i) - (1 : Int32))), .val (.int ((((own_lov i) - (1 : Int32)) - (0 : Int32)) + (1 : Int32))), .val (.int pv), .unset, .unset, .unset] [])) _
    refine Goes.of (fun t k => XS.iload X224.here hx rfl (hb hby at_330) rfl k) ?_
    show Goes p e below (T224.setTop (mkF m 332 #[.val (.int p1), .val (.int p2), .val (.int p3), .val (.int p4), .val (.ref b30), .val (.ref b109), .val (.int i), .val (.int (own_lov i)), .val (.int (own_hiv i)), .val (.int (((own_hiv i) - (own_lov i)) + (1 : Int32))), .val (.int q), .val (.int (0 : Int32)), .val (.int ((own_lov i) - (1 : Int32))), .val (.int ((((own_lov i) - (1 : Int32)) - (0 : Int32)) + (1 : Int32))), .val (.int pv), .unset, .unset, .unset] [(.int (own_hiv i))])) _
    refine Goes.of (fun t k => XS.iconst X224.here hx rfl (hb hby at_332) k) ?_
    show Goes p e below (T224.setTop (mkF m 333 #[.val (.int p1), .val (.int p2), .val (.int p3), .val (.int p4), .val (.ref b30), .val (.ref b109), .val (.int i), .val (.int (own_lov i)), .val (.int (own_hiv i)), .val (.int (((own_hiv i) - (own_lov i)) + (1 : Int32))), .val (.int q), .val (.int (0 : Int32)), .val (.int ((own_lov i) - (1 : Int32))), .val (.int ((((own_lov i) - (1 : Int32)) - (0 : Int32)) + (1 : Int32))), .val (.int pv), .unset, .unset, .unset] [(.int (1 : Int32)), (.int (own_hiv i))])) _
    refine Goes.of (fun t k => XS.iadd X224.here hx rfl (hb hby at_333) rfl k) ?_
    obtain ⟨_, _, ⟨T227, L227, k227, n227⟩, -, X227, ⟨Lc227, hQ227, l227, y227, z227⟩, st227⟩ := Jvm.LawKit.callS X224 hx (y := (⟨"com/example/strict_xslt/strictxslt/XmlNames", "isNameStart", "(I)Z"⟩ : MethodName)) hown (mvT hZ (wd hw 9 rfl)) (mvT hZ (wd hw 10 rfl)) (mvT hZ (wd hw 11 rfl)) (mvT hZ (wd hw 12 rfl)) (by decide) (backOf (W := 0) (rm1 l Z a0 hw [] ((own_hiv i) + (1 : Int32))  h200 n0 z201 ) hZ (wd hw 12 rfl) (wd hw 11 rfl) (by decide) (by decide)) (g := (mkF m 334 #[.val (.int p1), .val (.int p2), .val (.int p3), .val (.int p4), .val (.ref b30), .val (.ref b109), .val (.int i), .val (.int (own_lov i)), .val (.int (own_hiv i)), .val (.int (((own_hiv i) - (own_lov i)) + (1 : Int32))), .val (.int q), .val (.int (0 : Int32)), .val (.int ((own_lov i) - (1 : Int32))), .val (.int ((((own_lov i) - (1 : Int32)) - (0 : Int32)) + (1 : Int32))), .val (.int pv), .unset, .unset, .unset] [(.int ((own_hiv i) + (1 : Int32)))])) rfl (by rw [hml]; rfl) (argsL := [(.int ((own_hiv i) + (1 : Int32)))]) (rest := []) (lenOf pd_2 rfl) rfl (by show 2 * 0 + _ ≤ _; exact Nat.le_of_eq rfl) (hb hby at_334) (fun _ _ => ⟨rfl, e224, (by decide : 2 + 0 ≤ _), (by decide : 30 + 0 ≤ _)⟩)
    dsimp only [Pt.U, Pt.locs, Pt.cells, Pt.slots] at X227 l227 y227 z227 st227 hQ227
    subst l227 y227 z227
    obtain ⟨rfl, N227q, e227⟩ := hQ227
    have N227 := Fr.app N224 N227q
    refine Goes.of st227 ?_
    show Goes p e below (T227.setTop (mkF m 337 #[.val (.int p1), .val (.int p2), .val (.int p3), .val (.int p4), .val (.ref b30), .val (.ref b109), .val (.int i), .val (.int (own_lov i)), .val (.int (own_hiv i)), .val (.int (((own_hiv i) - (own_lov i)) + (1 : Int32))), .val (.int q), .val (.int (0 : Int32)), .val (.int ((own_lov i) - (1 : Int32))), .val (.int ((((own_lov i) - (1 : Int32)) - (0 : Int32)) + (1 : Int32))), .val (.int pv), .unset, .unset, .unset] [(.int (if own_in ((own_hiv i) + (1 : Int32)) then 1 else 0))])) _
    have hi228 : ¬ own_in ((own_hiv i) + (1 : Int32)) := t8
    have hd337_229 : (if own_in ((own_hiv i) + (1 : Int32)) then 1 else 0) = (0 : Int32) := by rw [if_neg hi228]
    refine Goes.of (fun t k => XS.ifNo X227.here hx rfl (hb hby at_337) rfl ((if0 _ _).trans (teq hd337_229).2) k) ?_
    show Goes p e below (T227.setTop (mkF m 340 #[.val (.int p1), .val (.int p2), .val (.int p3), .val (.int p4), .val (.ref b30), .val (.ref b109), .val (.int i), .val (.int (own_lov i)), .val (.int (own_hiv i)), .val (.int (((own_hiv i) - (own_lov i)) + (1 : Int32))), .val (.int q), .val (.int (0 : Int32)), .val (.int ((own_lov i) - (1 : Int32))), .val (.int ((((own_lov i) - (1 : Int32)) - (0 : Int32)) + (1 : Int32))), .val (.int pv), .unset, .unset, .unset] [])) _
    refine Goes.of (fun t k => XS.iconst X227.here hx rfl (hb hby at_340) k) ?_
    show Goes p e below (T227.setTop (mkF m 341 #[.val (.int p1), .val (.int p2), .val (.int p3), .val (.int p4), .val (.ref b30), .val (.ref b109), .val (.int i), .val (.int (own_lov i)), .val (.int (own_hiv i)), .val (.int (((own_hiv i) - (own_lov i)) + (1 : Int32))), .val (.int q), .val (.int (0 : Int32)), .val (.int ((own_lov i) - (1 : Int32))), .val (.int ((((own_lov i) - (1 : Int32)) - (0 : Int32)) + (1 : Int32))), .val (.int pv), .unset, .unset, .unset] [(.int (1 : Int32))])) _
    refine Goes.of (fun t k => XS.goto X227.here hx rfl (pc0 := 341) (pc' := 345) rfl (hb hby at_341) (by decide) (by decide) k) ?_
    show Goes p e below (T227.setTop (mkF m 345 #[.val (.int p1), .val (.int p2), .val (.int p3), .val (.int p4), .val (.ref b30), .val (.ref b109), .val (.int i), .val (.int (own_lov i)), .val (.int (own_hiv i)), .val (.int (((own_hiv i) - (own_lov i)) + (1 : Int32))), .val (.int q), .val (.int (0 : Int32)), .val (.int ((own_lov i) - (1 : Int32))), .val (.int ((((own_lov i) - (1 : Int32)) - (0 : Int32)) + (1 : Int32))), .val (.int pv), .unset, .unset, .unset] [(.int (1 : Int32))])) _
    refine Goes.of (fun t k => XS.istore X227.here hx rfl (hb hby at_345) rfl (l' := #[.val (.int p1), .val (.int p2), .val (.int p3), .val (.int p4), .val (.ref b30), .val (.ref b109), .val (.int i), .val (.int (own_lov i)), .val (.int (own_hiv i)), .val (.int (((own_hiv i) - (own_lov i)) + (1 : Int32))), .val (.int q), .val (.int (0 : Int32)), .val (.int ((own_lov i) - (1 : Int32))), .val (.int ((((own_lov i) - (1 : Int32)) - (0 : Int32)) + (1 : Int32))), .val (.int pv), .val (.int (1 : Int32)), .unset, .unset]) rfl k) ?_
    show Goes p e below (T227.setTop (mkF m 347 #[.val (.int p1), .val (.int p2), .val (.int p3), .val (.int p4), .val (.ref b30), .val (.ref b109), .val (.int i), .val (.int (own_lov i)), .val (.int (own_hiv i)), .val (.int (((own_hiv i) - (own_lov i)) + (1 : Int32))), .val (.int q), .val (.int (0 : Int32)), .val (.int ((own_lov i) - (1 : Int32))), .val (.int ((((own_lov i) - (1 : Int32)) - (0 : Int32)) + (1 : Int32))), .val (.int pv), .val (.int (1 : Int32)), .unset, .unset] [])) _
    refine Goes.of (fun t k => XS.iloadN X227.here hx rfl (hb hby at_347) rfl k) ?_
    show Goes p e below (T227.setTop (mkF m 348 #[.val (.int p1), .val (.int p2), .val (.int p3), .val (.int p4), .val (.ref b30), .val (.ref b109), .val (.int i), .val (.int (own_lov i)), .val (.int (own_hiv i)), .val (.int (((own_hiv i) - (own_lov i)) + (1 : Int32))), .val (.int q), .val (.int (0 : Int32)), .val (.int ((own_lov i) - (1 : Int32))), .val (.int ((((own_lov i) - (1 : Int32)) - (0 : Int32)) + (1 : Int32))), .val (.int pv), .val (.int (1 : Int32)), .unset, .unset] [(.int p4)])) _
    by_cases hc348_230 : p4 < (0 : Int32)
    · refine Goes.of (fun t k => XS.ifYes X227.here hx rfl (pc0 := 348) (pc' := 357) rfl (hb hby at_348) rfl ((if0 _ _).trans (tlt hc348_230).1) (by decide) (by decide) k) ?_
      show Goes p e below (T227.setTop (mkF m 357 #[.val (.int p1), .val (.int p2), .val (.int p3), .val (.int p4), .val (.ref b30), .val (.ref b109), .val (.int i), .val (.int (own_lov i)), .val (.int (own_hiv i)), .val (.int (((own_hiv i) - (own_lov i)) + (1 : Int32))), .val (.int q), .val (.int (0 : Int32)), .val (.int ((own_lov i) - (1 : Int32))), .val (.int ((((own_lov i) - (1 : Int32)) - (0 : Int32)) + (1 : Int32))), .val (.int pv), .val (.int (1 : Int32)), .unset, .unset] [])) _
      have hz0 : p4.toInt < 0 := by have := Int32.lt_iff_toInt_lt.mp hc348_230; simpa using this
      refine Goes.of (fun t k => XS.iconst X227.here hx rfl (hb hby at_357) k) ?_
      show Goes p e below (T227.setTop (mkF m 358 #[.val (.int p1), .val (.int p2), .val (.int p3), .val (.int p4), .val (.ref b30), .val (.ref b109), .val (.int i), .val (.int (own_lov i)), .val (.int (own_hiv i)), .val (.int (((own_hiv i) - (own_lov i)) + (1 : Int32))), .val (.int q), .val (.int (0 : Int32)), .val (.int ((own_lov i) - (1 : Int32))), .val (.int ((((own_lov i) - (1 : Int32)) - (0 : Int32)) + (1 : Int32))), .val (.int pv), .val (.int (1 : Int32)), .unset, .unset] [(.int (1 : Int32))])) _
      refine Goes.of (fun t k => XS.goto X227.here hx rfl (pc0 := 358) (pc' := 362) rfl (hb hby at_358) (by decide) (by decide) k) ?_
      show Goes p e below (T227.setTop (mkF m 362 #[.val (.int p1), .val (.int p2), .val (.int p3), .val (.int p4), .val (.ref b30), .val (.ref b109), .val (.int i), .val (.int (own_lov i)), .val (.int (own_hiv i)), .val (.int (((own_hiv i) - (own_lov i)) + (1 : Int32))), .val (.int q), .val (.int (0 : Int32)), .val (.int ((own_lov i) - (1 : Int32))), .val (.int ((((own_lov i) - (1 : Int32)) - (0 : Int32)) + (1 : Int32))), .val (.int pv), .val (.int (1 : Int32)), .unset, .unset] [(.int (1 : Int32))])) _
      refine Goes.of (fun t k => XS.istore X227.here hx rfl (hb hby at_362) rfl (l' := #[.val (.int p1), .val (.int p2), .val (.int p3), .val (.int p4), .val (.ref b30), .val (.ref b109), .val (.int i), .val (.int (own_lov i)), .val (.int (own_hiv i)), .val (.int (((own_hiv i) - (own_lov i)) + (1 : Int32))), .val (.int q), .val (.int (0 : Int32)), .val (.int ((own_lov i) - (1 : Int32))), .val (.int ((((own_lov i) - (1 : Int32)) - (0 : Int32)) + (1 : Int32))), .val (.int pv), .val (.int (1 : Int32)), .val (.int (1 : Int32)), .unset]) rfl k) ?_
      show Goes p e below (T227.setTop (mkF m 364 #[.val (.int p1), .val (.int p2), .val (.int p3), .val (.int p4), .val (.ref b30), .val (.ref b109), .val (.int i), .val (.int (own_lov i)), .val (.int (own_hiv i)), .val (.int (((own_hiv i) - (own_lov i)) + (1 : Int32))), .val (.int q), .val (.int (0 : Int32)), .val (.int ((own_lov i) - (1 : Int32))), .val (.int ((((own_lov i) - (1 : Int32)) - (0 : Int32)) + (1 : Int32))), .val (.int pv), .val (.int (1 : Int32)), .val (.int (1 : Int32)), .unset] [])) _
      refine Goes.of (fun t k => XS.iload X227.here hx rfl (hb hby at_364) rfl k) ?_
      show Goes p e below (T227.setTop (mkF m 366 #[.val (.int p1), .val (.int p2), .val (.int p3), .val (.int p4), .val (.ref b30), .val (.ref b109), .val (.int i), .val (.int (own_lov i)), .val (.int (own_hiv i)), .val (.int (((own_hiv i) - (own_lov i)) + (1 : Int32))), .val (.int q), .val (.int (0 : Int32)), .val (.int ((own_lov i) - (1 : Int32))), .val (.int ((((own_lov i) - (1 : Int32)) - (0 : Int32)) + (1 : Int32))), .val (.int pv), .val (.int (1 : Int32)), .val (.int (1 : Int32)), .unset] [(.int (1 : Int32))])) _
      refine Goes.of (fun t k => XS.ifNo X227.here hx rfl (hb hby at_366) rfl ((if0 _ _).trans (feq (by decide)).1) k) ?_
      show Goes p e below (T227.setTop (mkF m 369 #[.val (.int p1), .val (.int p2), .val (.int p3), .val (.int p4), .val (.ref b30), .val (.ref b109), .val (.int i), .val (.int (own_lov i)), .val (.int (own_hiv i)), .val (.int (((own_hiv i) - (own_lov i)) + (1 : Int32))), .val (.int q), .val (.int (0 : Int32)), .val (.int ((own_lov i) - (1 : Int32))), .val (.int ((((own_lov i) - (1 : Int32)) - (0 : Int32)) + (1 : Int32))), .val (.int pv), .val (.int (1 : Int32)), .val (.int (1 : Int32)), .unset] [])) _
      refine Goes.of (fun t k => XS.iloadN X227.here hx rfl (hb hby at_369) rfl k) ?_
      obtain ⟨_, _, ⟨T231, L231, k231, n231⟩, -, X231, ⟨Lc231, hQ231, l231, y231, z231⟩, st231⟩ := Jvm.LawKit.callS X227 hx (y := (⟨"com/example/strict_xslt/strictxslt/XmlNames", "isNameStart", "(I)Z"⟩ : MethodName)) hown (mvT hZ (wd hw 9 rfl)) (mvT hZ (wd hw 10 rfl)) (mvT hZ (wd hw 11 rfl)) (mvT hZ (wd hw 12 rfl)) (by decide) (backOf (W := 0) (rm1 l Z a0 hw [] p4  h200 n0 z201 ) hZ (wd hw 12 rfl) (wd hw 11 rfl) (by decide) (by decide)) (g := (mkF m 370 #[.val (.int p1), .val (.int p2), .val (.int p3), .val (.int p4), .val (.ref b30), .val (.ref b109), .val (.int i), .val (.int (own_lov i)), .val (.int (own_hiv i)), .val (.int (((own_hiv i) - (own_lov i)) + (1 : Int32))), .val (.int q), .val (.int (0 : Int32)), .val (.int ((own_lov i) - (1 : Int32))), .val (.int ((((own_lov i) - (1 : Int32)) - (0 : Int32)) + (1 : Int32))), .val (.int pv), .val (.int (1 : Int32)), .val (.int (1 : Int32)), .unset] [(.int p4)])) rfl (by rw [hml]; rfl) (argsL := [(.int p4)]) (rest := []) (lenOf pd_2 rfl) rfl (by show 2 * 0 + _ ≤ _; exact Nat.le_of_eq rfl) (hb hby at_370) (fun _ _ => ⟨rfl, e227, (by decide : 2 + 0 ≤ _), (by decide : 30 + 0 ≤ _)⟩)
      dsimp only [Pt.U, Pt.locs, Pt.cells, Pt.slots] at X231 l231 y231 z231 st231 hQ231
      subst l231 y231 z231
      obtain ⟨rfl, N231q, e231⟩ := hQ231
      have N231 := Fr.app N227 N231q
      refine Goes.of st231 ?_
      show Goes p e below (T231.setTop (mkF m 373 #[.val (.int p1), .val (.int p2), .val (.int p3), .val (.int p4), .val (.ref b30), .val (.ref b109), .val (.int i), .val (.int (own_lov i)), .val (.int (own_hiv i)), .val (.int (((own_hiv i) - (own_lov i)) + (1 : Int32))), .val (.int q), .val (.int (0 : Int32)), .val (.int ((own_lov i) - (1 : Int32))), .val (.int ((((own_lov i) - (1 : Int32)) - (0 : Int32)) + (1 : Int32))), .val (.int pv), .val (.int (1 : Int32)), .val (.int (1 : Int32)), .unset] [(.int (if own_in p4 then 1 else 0))])) _
      have hz : ¬ own_in p4 := fun h => by have h := (own_inI p4).mp h; omega
      have hd373_232 : (if own_in p4 then 1 else 0) = (0 : Int32) := by rw [if_neg hz]
      refine Goes.of (fun t k => XS.ifNo X231.here hx rfl (hb hby at_373) rfl ((if0 _ _).trans (teq hd373_232).2) k) ?_
      show Goes p e below (T231.setTop (mkF m 376 #[.val (.int p1), .val (.int p2), .val (.int p3), .val (.int p4), .val (.ref b30), .val (.ref b109), .val (.int i), .val (.int (own_lov i)), .val (.int (own_hiv i)), .val (.int (((own_hiv i) - (own_lov i)) + (1 : Int32))), .val (.int q), .val (.int (0 : Int32)), .val (.int ((own_lov i) - (1 : Int32))), .val (.int ((((own_lov i) - (1 : Int32)) - (0 : Int32)) + (1 : Int32))), .val (.int pv), .val (.int (1 : Int32)), .val (.int (1 : Int32)), .unset] [])) _
      refine Goes.of (fun t k => XS.iconst X231.here hx rfl (hb hby at_376) k) ?_
      show Goes p e below (T231.setTop (mkF m 377 #[.val (.int p1), .val (.int p2), .val (.int p3), .val (.int p4), .val (.ref b30), .val (.ref b109), .val (.int i), .val (.int (own_lov i)), .val (.int (own_hiv i)), .val (.int (((own_hiv i) - (own_lov i)) + (1 : Int32))), .val (.int q), .val (.int (0 : Int32)), .val (.int ((own_lov i) - (1 : Int32))), .val (.int ((((own_lov i) - (1 : Int32)) - (0 : Int32)) + (1 : Int32))), .val (.int pv), .val (.int (1 : Int32)), .val (.int (1 : Int32)), .unset] [(.int (1 : Int32))])) _
      refine Goes.of (fun t k => XS.goto X231.here hx rfl (pc0 := 377) (pc' := 381) rfl (hb hby at_377) (by decide) (by decide) k) ?_
      show Goes p e below (T231.setTop (mkF m 381 #[.val (.int p1), .val (.int p2), .val (.int p3), .val (.int p4), .val (.ref b30), .val (.ref b109), .val (.int i), .val (.int (own_lov i)), .val (.int (own_hiv i)), .val (.int (((own_hiv i) - (own_lov i)) + (1 : Int32))), .val (.int q), .val (.int (0 : Int32)), .val (.int ((own_lov i) - (1 : Int32))), .val (.int ((((own_lov i) - (1 : Int32)) - (0 : Int32)) + (1 : Int32))), .val (.int pv), .val (.int (1 : Int32)), .val (.int (1 : Int32)), .unset] [(.int (1 : Int32))])) _
      refine Goes.of (fun t k => XS.istore X231.here hx rfl (hb hby at_381) rfl (l' := #[.val (.int p1), .val (.int p2), .val (.int p3), .val (.int p4), .val (.ref b30), .val (.ref b109), .val (.int i), .val (.int (own_lov i)), .val (.int (own_hiv i)), .val (.int (((own_hiv i) - (own_lov i)) + (1 : Int32))), .val (.int q), .val (.int (0 : Int32)), .val (.int ((own_lov i) - (1 : Int32))), .val (.int ((((own_lov i) - (1 : Int32)) - (0 : Int32)) + (1 : Int32))), .val (.int pv), .val (.int (1 : Int32)), .val (.int (1 : Int32)), .val (.int (1 : Int32))]) rfl k) ?_
      show Goes p e below (T231.setTop (mkF m 383 #[.val (.int p1), .val (.int p2), .val (.int p3), .val (.int p4), .val (.ref b30), .val (.ref b109), .val (.int i), .val (.int (own_lov i)), .val (.int (own_hiv i)), .val (.int (((own_hiv i) - (own_lov i)) + (1 : Int32))), .val (.int q), .val (.int (0 : Int32)), .val (.int ((own_lov i) - (1 : Int32))), .val (.int ((((own_lov i) - (1 : Int32)) - (0 : Int32)) + (1 : Int32))), .val (.int pv), .val (.int (1 : Int32)), .val (.int (1 : Int32)), .val (.int (1 : Int32))] [])) _
      refine Goes.of (fun t k => XS.iload X231.here hx rfl (hb hby at_383) rfl k) ?_
      show Goes p e below (T231.setTop (mkF m 385 #[.val (.int p1), .val (.int p2), .val (.int p3), .val (.int p4), .val (.ref b30), .val (.ref b109), .val (.int i), .val (.int (own_lov i)), .val (.int (own_hiv i)), .val (.int (((own_hiv i) - (own_lov i)) + (1 : Int32))), .val (.int q), .val (.int (0 : Int32)), .val (.int ((own_lov i) - (1 : Int32))), .val (.int ((((own_lov i) - (1 : Int32)) - (0 : Int32)) + (1 : Int32))), .val (.int pv), .val (.int (1 : Int32)), .val (.int (1 : Int32)), .val (.int (1 : Int32))] [(.int (1 : Int32))])) _
      refine Goes.of (fun t k => XS.ifNo X231.here hx rfl (hb hby at_385) rfl ((if0 _ _).trans (feq (by decide)).1) k) ?_
      show Goes p e below (T231.setTop (mkF m 388 #[.val (.int p1), .val (.int p2), .val (.int p3), .val (.int p4), .val (.ref b30), .val (.ref b109), .val (.int i), .val (.int (own_lov i)), .val (.int (own_hiv i)), .val (.int (((own_hiv i) - (own_lov i)) + (1 : Int32))), .val (.int q), .val (.int (0 : Int32)), .val (.int ((own_lov i) - (1 : Int32))), .val (.int ((((own_lov i) - (1 : Int32)) - (0 : Int32)) + (1 : Int32))), .val (.int pv), .val (.int (1 : Int32)), .val (.int (1 : Int32)), .val (.int (1 : Int32))] [])) _
      refine Goes.of (fun t k => XS.iload X231.here hx rfl (hb hby at_388) rfl k) ?_
      show Goes p e below (T231.setTop (mkF m 390 #[.val (.int p1), .val (.int p2), .val (.int p3), .val (.int p4), .val (.ref b30), .val (.ref b109), .val (.int i), .val (.int (own_lov i)), .val (.int (own_hiv i)), .val (.int (((own_hiv i) - (own_lov i)) + (1 : Int32))), .val (.int q), .val (.int (0 : Int32)), .val (.int ((own_lov i) - (1 : Int32))), .val (.int ((((own_lov i) - (1 : Int32)) - (0 : Int32)) + (1 : Int32))), .val (.int pv), .val (.int (1 : Int32)), .val (.int (1 : Int32)), .val (.int (1 : Int32))] [(.int (1 : Int32))])) _
      refine Goes.of (fun t k => XS.ifNo X231.here hx rfl (hb hby at_390) rfl ((if0 _ _).trans (feq (by decide)).1) k) ?_
      show Goes p e below (T231.setTop (mkF m 393 #[.val (.int p1), .val (.int p2), .val (.int p3), .val (.int p4), .val (.ref b30), .val (.ref b109), .val (.int i), .val (.int (own_lov i)), .val (.int (own_hiv i)), .val (.int (((own_hiv i) - (own_lov i)) + (1 : Int32))), .val (.int q), .val (.int (0 : Int32)), .val (.int ((own_lov i) - (1 : Int32))), .val (.int ((((own_lov i) - (1 : Int32)) - (0 : Int32)) + (1 : Int32))), .val (.int pv), .val (.int (1 : Int32)), .val (.int (1 : Int32)), .val (.int (1 : Int32))] [])) _
      refine Goes.of (fun t k => XS.iconst X231.here hx rfl (hb hby at_393) k) ?_
      show Goes p e below (T231.setTop (mkF m 394 #[.val (.int p1), .val (.int p2), .val (.int p3), .val (.int p4), .val (.ref b30), .val (.ref b109), .val (.int i), .val (.int (own_lov i)), .val (.int (own_hiv i)), .val (.int (((own_hiv i) - (own_lov i)) + (1 : Int32))), .val (.int q), .val (.int (0 : Int32)), .val (.int ((own_lov i) - (1 : Int32))), .val (.int ((((own_lov i) - (1 : Int32)) - (0 : Int32)) + (1 : Int32))), .val (.int pv), .val (.int (1 : Int32)), .val (.int (1 : Int32)), .val (.int (1 : Int32))] [(.int (1 : Int32))])) _
      refine Goes.of (fun t k => XS.goto X231.here hx rfl (pc0 := 394) (pc' := 398) rfl (hb hby at_394) (by decide) (by decide) k) ?_
      show Goes p e below (T231.setTop (mkF m 398 #[.val (.int p1), .val (.int p2), .val (.int p3), .val (.int p4), .val (.ref b30), .val (.ref b109), .val (.int i), .val (.int (own_lov i)), .val (.int (own_hiv i)), .val (.int (((own_hiv i) - (own_lov i)) + (1 : Int32))), .val (.int q), .val (.int (0 : Int32)), .val (.int ((own_lov i) - (1 : Int32))), .val (.int ((((own_lov i) - (1 : Int32)) - (0 : Int32)) + (1 : Int32))), .val (.int pv), .val (.int (1 : Int32)), .val (.int (1 : Int32)), .val (.int (1 : Int32))] [(.int (1 : Int32))])) _
      exact Goes.retN (t := .boolean) X231 hx Bd.returns (by simp) hlocks (hb hby at_398) (⟨rfl, N231⟩) (by decide) (by decide)
    · refine Goes.of (fun t k => XS.ifNo X227.here hx rfl (hb hby at_348) rfl ((if0 _ _).trans (flt hc348_230).1) k) ?_
      show Goes p e below (T227.setTop (mkF m 351 #[.val (.int p1), .val (.int p2), .val (.int p3), .val (.int p4), .val (.ref b30), .val (.ref b109), .val (.int i), .val (.int (own_lov i)), .val (.int (own_hiv i)), .val (.int (((own_hiv i) - (own_lov i)) + (1 : Int32))), .val (.int q), .val (.int (0 : Int32)), .val (.int ((own_lov i) - (1 : Int32))), .val (.int ((((own_lov i) - (1 : Int32)) - (0 : Int32)) + (1 : Int32))), .val (.int pv), .val (.int (1 : Int32)), .unset, .unset] [])) _
      refine Goes.of (fun t k => XS.iloadN X227.here hx rfl (hb hby at_351) rfl k) ?_
      show Goes p e below (T227.setTop (mkF m 352 #[.val (.int p1), .val (.int p2), .val (.int p3), .val (.int p4), .val (.ref b30), .val (.ref b109), .val (.int i), .val (.int (own_lov i)), .val (.int (own_hiv i)), .val (.int (((own_hiv i) - (own_lov i)) + (1 : Int32))), .val (.int q), .val (.int (0 : Int32)), .val (.int ((own_lov i) - (1 : Int32))), .val (.int ((((own_lov i) - (1 : Int32)) - (0 : Int32)) + (1 : Int32))), .val (.int pv), .val (.int (1 : Int32)), .unset, .unset] [(.int p4)])) _
      refine Goes.of (fun t k => X227.ldcInt hx hown (mvT hZ (wd hw 7 rfl)) (g := (mkF m 352 #[.val (.int p1), .val (.int p2), .val (.int p3), .val (.int p4), .val (.ref b30), .val (.ref b109), .val (.int i), .val (.int (own_lov i)), .val (.int (own_hiv i)), .val (.int (((own_hiv i) - (own_lov i)) + (1 : Int32))), .val (.int q), .val (.int (0 : Int32)), .val (.int ((own_lov i) - (1 : Int32))), .val (.int ((((own_lov i) - (1 : Int32)) - (0 : Int32)) + (1 : Int32))), .val (.int pv), .val (.int (1 : Int32)), .unset, .unset] [(.int p4)])) rfl (hb hby at_352) _ k) ?_
      show Goes p e below (T227.setTop (mkF m 354 #[.val (.int p1), .val (.int p2), .val (.int p3), .val (.int p4), .val (.ref b30), .val (.ref b109), .val (.int i), .val (.int (own_lov i)), .val (.int (own_hiv i)), .val (.int (((own_hiv i) - (own_lov i)) + (1 : Int32))), .val (.int q), .val (.int (0 : Int32)), .val (.int ((own_lov i) - (1 : Int32))), .val (.int ((((own_lov i) - (1 : Int32)) - (0 : Int32)) + (1 : Int32))), .val (.int pv), .val (.int (1 : Int32)), .unset, .unset] [(.int (983039 : Int32)), (.int p4)])) _
      by_cases hc354_233 : (983039 : Int32) < p4
      · refine Goes.of (fun t k => XS.icmpNo X227.here hx rfl (hb hby at_354) rfl (tlt hc354_233).2.2.2 k) ?_
        show Goes p e below (T227.setTop (mkF m 357 #[.val (.int p1), .val (.int p2), .val (.int p3), .val (.int p4), .val (.ref b30), .val (.ref b109), .val (.int i), .val (.int (own_lov i)), .val (.int (own_hiv i)), .val (.int (((own_hiv i) - (own_lov i)) + (1 : Int32))), .val (.int q), .val (.int (0 : Int32)), .val (.int ((own_lov i) - (1 : Int32))), .val (.int ((((own_lov i) - (1 : Int32)) - (0 : Int32)) + (1 : Int32))), .val (.int pv), .val (.int (1 : Int32)), .unset, .unset] [])) _
        have hz0 : 983039 < p4.toInt := by have := Int32.lt_iff_toInt_lt.mp hc354_233; have e2 : (983039 : Int32).toInt = 983039 := (by decide); omega
        refine Goes.of (fun t k => XS.iconst X227.here hx rfl (hb hby at_357) k) ?_
        show Goes p e below (T227.setTop (mkF m 358 #[.val (.int p1), .val (.int p2), .val (.int p3), .val (.int p4), .val (.ref b30), .val (.ref b109), .val (.int i), .val (.int (own_lov i)), .val (.int (own_hiv i)), .val (.int (((own_hiv i) - (own_lov i)) + (1 : Int32))), .val (.int q), .val (.int (0 : Int32)), .val (.int ((own_lov i) - (1 : Int32))), .val (.int ((((own_lov i) - (1 : Int32)) - (0 : Int32)) + (1 : Int32))), .val (.int pv), .val (.int (1 : Int32)), .unset, .unset] [(.int (1 : Int32))])) _
        refine Goes.of (fun t k => XS.goto X227.here hx rfl (pc0 := 358) (pc' := 362) rfl (hb hby at_358) (by decide) (by decide) k) ?_
        show Goes p e below (T227.setTop (mkF m 362 #[.val (.int p1), .val (.int p2), .val (.int p3), .val (.int p4), .val (.ref b30), .val (.ref b109), .val (.int i), .val (.int (own_lov i)), .val (.int (own_hiv i)), .val (.int (((own_hiv i) - (own_lov i)) + (1 : Int32))), .val (.int q), .val (.int (0 : Int32)), .val (.int ((own_lov i) - (1 : Int32))), .val (.int ((((own_lov i) - (1 : Int32)) - (0 : Int32)) + (1 : Int32))), .val (.int pv), .val (.int (1 : Int32)), .unset, .unset] [(.int (1 : Int32))])) _
        refine Goes.of (fun t k => XS.istore X227.here hx rfl (hb hby at_362) rfl (l' := #[.val (.int p1), .val (.int p2), .val (.int p3), .val (.int p4), .val (.ref b30), .val (.ref b109), .val (.int i), .val (.int (own_lov i)), .val (.int (own_hiv i)), .val (.int (((own_hiv i) - (own_lov i)) + (1 : Int32))), .val (.int q), .val (.int (0 : Int32)), .val (.int ((own_lov i) - (1 : Int32))), .val (.int ((((own_lov i) - (1 : Int32)) - (0 : Int32)) + (1 : Int32))), .val (.int pv), .val (.int (1 : Int32)), .val (.int (1 : Int32)), .unset]) rfl k) ?_
        show Goes p e below (T227.setTop (mkF m 364 #[.val (.int p1), .val (.int p2), .val (.int p3), .val (.int p4), .val (.ref b30), .val (.ref b109), .val (.int i), .val (.int (own_lov i)), .val (.int (own_hiv i)), .val (.int (((own_hiv i) - (own_lov i)) + (1 : Int32))), .val (.int q), .val (.int (0 : Int32)), .val (.int ((own_lov i) - (1 : Int32))), .val (.int ((((own_lov i) - (1 : Int32)) - (0 : Int32)) + (1 : Int32))), .val (.int pv), .val (.int (1 : Int32)), .val (.int (1 : Int32)), .unset] [])) _
        refine Goes.of (fun t k => XS.iload X227.here hx rfl (hb hby at_364) rfl k) ?_
        show Goes p e below (T227.setTop (mkF m 366 #[.val (.int p1), .val (.int p2), .val (.int p3), .val (.int p4), .val (.ref b30), .val (.ref b109), .val (.int i), .val (.int (own_lov i)), .val (.int (own_hiv i)), .val (.int (((own_hiv i) - (own_lov i)) + (1 : Int32))), .val (.int q), .val (.int (0 : Int32)), .val (.int ((own_lov i) - (1 : Int32))), .val (.int ((((own_lov i) - (1 : Int32)) - (0 : Int32)) + (1 : Int32))), .val (.int pv), .val (.int (1 : Int32)), .val (.int (1 : Int32)), .unset] [(.int (1 : Int32))])) _
        refine Goes.of (fun t k => XS.ifNo X227.here hx rfl (hb hby at_366) rfl ((if0 _ _).trans (feq (by decide)).1) k) ?_
        show Goes p e below (T227.setTop (mkF m 369 #[.val (.int p1), .val (.int p2), .val (.int p3), .val (.int p4), .val (.ref b30), .val (.ref b109), .val (.int i), .val (.int (own_lov i)), .val (.int (own_hiv i)), .val (.int (((own_hiv i) - (own_lov i)) + (1 : Int32))), .val (.int q), .val (.int (0 : Int32)), .val (.int ((own_lov i) - (1 : Int32))), .val (.int ((((own_lov i) - (1 : Int32)) - (0 : Int32)) + (1 : Int32))), .val (.int pv), .val (.int (1 : Int32)), .val (.int (1 : Int32)), .unset] [])) _
        refine Goes.of (fun t k => XS.iloadN X227.here hx rfl (hb hby at_369) rfl k) ?_
        obtain ⟨_, _, ⟨T234, L234, k234, n234⟩, -, X234, ⟨Lc234, hQ234, l234, y234, z234⟩, st234⟩ := Jvm.LawKit.callS X227 hx (y := (⟨"com/example/strict_xslt/strictxslt/XmlNames", "isNameStart", "(I)Z"⟩ : MethodName)) hown (mvT hZ (wd hw 9 rfl)) (mvT hZ (wd hw 10 rfl)) (mvT hZ (wd hw 11 rfl)) (mvT hZ (wd hw 12 rfl)) (by decide) (backOf (W := 0) (rm1 l Z a0 hw [] p4  h200 n0 z201 ) hZ (wd hw 12 rfl) (wd hw 11 rfl) (by decide) (by decide)) (g := (mkF m 370 #[.val (.int p1), .val (.int p2), .val (.int p3), .val (.int p4), .val (.ref b30), .val (.ref b109), .val (.int i), .val (.int (own_lov i)), .val (.int (own_hiv i)), .val (.int (((own_hiv i) - (own_lov i)) + (1 : Int32))), .val (.int q), .val (.int (0 : Int32)), .val (.int ((own_lov i) - (1 : Int32))), .val (.int ((((own_lov i) - (1 : Int32)) - (0 : Int32)) + (1 : Int32))), .val (.int pv), .val (.int (1 : Int32)), .val (.int (1 : Int32)), .unset] [(.int p4)])) rfl (by rw [hml]; rfl) (argsL := [(.int p4)]) (rest := []) (lenOf pd_2 rfl) rfl (by show 2 * 0 + _ ≤ _; exact Nat.le_of_eq rfl) (hb hby at_370) (fun _ _ => ⟨rfl, e227, (by decide : 2 + 0 ≤ _), (by decide : 30 + 0 ≤ _)⟩)
        dsimp only [Pt.U, Pt.locs, Pt.cells, Pt.slots] at X234 l234 y234 z234 st234 hQ234
        subst l234 y234 z234
        obtain ⟨rfl, N234q, e234⟩ := hQ234
        have N234 := Fr.app N227 N234q
        refine Goes.of st234 ?_
        show Goes p e below (T234.setTop (mkF m 373 #[.val (.int p1), .val (.int p2), .val (.int p3), .val (.int p4), .val (.ref b30), .val (.ref b109), .val (.int i), .val (.int (own_lov i)), .val (.int (own_hiv i)), .val (.int (((own_hiv i) - (own_lov i)) + (1 : Int32))), .val (.int q), .val (.int (0 : Int32)), .val (.int ((own_lov i) - (1 : Int32))), .val (.int ((((own_lov i) - (1 : Int32)) - (0 : Int32)) + (1 : Int32))), .val (.int pv), .val (.int (1 : Int32)), .val (.int (1 : Int32)), .unset] [(.int (if own_in p4 then 1 else 0))])) _
        have hz : ¬ own_in p4 := fun h => by have h := (own_inI p4).mp h; omega
        have hd373_235 : (if own_in p4 then 1 else 0) = (0 : Int32) := by rw [if_neg hz]
        refine Goes.of (fun t k => XS.ifNo X234.here hx rfl (hb hby at_373) rfl ((if0 _ _).trans (teq hd373_235).2) k) ?_
        show Goes p e below (T234.setTop (mkF m 376 #[.val (.int p1), .val (.int p2), .val (.int p3), .val (.int p4), .val (.ref b30), .val (.ref b109), .val (.int i), .val (.int (own_lov i)), .val (.int (own_hiv i)), .val (.int (((own_hiv i) - (own_lov i)) + (1 : Int32))), .val (.int q), .val (.int (0 : Int32)), .val (.int ((own_lov i) - (1 : Int32))), .val (.int ((((own_lov i) - (1 : Int32)) - (0 : Int32)) + (1 : Int32))), .val (.int pv), .val (.int (1 : Int32)), .val (.int (1 : Int32)), .unset] [])) _
        refine Goes.of (fun t k => XS.iconst X234.here hx rfl (hb hby at_376) k) ?_
        show Goes p e below (T234.setTop (mkF m 377 #[.val (.int p1), .val (.int p2), .val (.int p3), .val (.int p4), .val (.ref b30), .val (.ref b109), .val (.int i), .val (.int (own_lov i)), .val (.int (own_hiv i)), .val (.int (((own_hiv i) - (own_lov i)) + (1 : Int32))), .val (.int q), .val (.int (0 : Int32)), .val (.int ((own_lov i) - (1 : Int32))), .val (.int ((((own_lov i) - (1 : Int32)) - (0 : Int32)) + (1 : Int32))), .val (.int pv), .val (.int (1 : Int32)), .val (.int (1 : Int32)), .unset] [(.int (1 : Int32))])) _
        refine Goes.of (fun t k => XS.goto X234.here hx rfl (pc0 := 377) (pc' := 381) rfl (hb hby at_377) (by decide) (by decide) k) ?_
        show Goes p e below (T234.setTop (mkF m 381 #[.val (.int p1), .val (.int p2), .val (.int p3), .val (.int p4), .val (.ref b30), .val (.ref b109), .val (.int i), .val (.int (own_lov i)), .val (.int (own_hiv i)), .val (.int (((own_hiv i) - (own_lov i)) + (1 : Int32))), .val (.int q), .val (.int (0 : Int32)), .val (.int ((own_lov i) - (1 : Int32))), .val (.int ((((own_lov i) - (1 : Int32)) - (0 : Int32)) + (1 : Int32))), .val (.int pv), .val (.int (1 : Int32)), .val (.int (1 : Int32)), .unset] [(.int (1 : Int32))])) _
        refine Goes.of (fun t k => XS.istore X234.here hx rfl (hb hby at_381) rfl (l' := #[.val (.int p1), .val (.int p2), .val (.int p3), .val (.int p4), .val (.ref b30), .val (.ref b109), .val (.int i), .val (.int (own_lov i)), .val (.int (own_hiv i)), .val (.int (((own_hiv i) - (own_lov i)) + (1 : Int32))), .val (.int q), .val (.int (0 : Int32)), .val (.int ((own_lov i) - (1 : Int32))), .val (.int ((((own_lov i) - (1 : Int32)) - (0 : Int32)) + (1 : Int32))), .val (.int pv), .val (.int (1 : Int32)), .val (.int (1 : Int32)), .val (.int (1 : Int32))]) rfl k) ?_
        show Goes p e below (T234.setTop (mkF m 383 #[.val (.int p1), .val (.int p2), .val (.int p3), .val (.int p4), .val (.ref b30), .val (.ref b109), .val (.int i), .val (.int (own_lov i)), .val (.int (own_hiv i)), .val (.int (((own_hiv i) - (own_lov i)) + (1 : Int32))), .val (.int q), .val (.int (0 : Int32)), .val (.int ((own_lov i) - (1 : Int32))), .val (.int ((((own_lov i) - (1 : Int32)) - (0 : Int32)) + (1 : Int32))), .val (.int pv), .val (.int (1 : Int32)), .val (.int (1 : Int32)), .val (.int (1 : Int32))] [])) _
        refine Goes.of (fun t k => XS.iload X234.here hx rfl (hb hby at_383) rfl k) ?_
        show Goes p e below (T234.setTop (mkF m 385 #[.val (.int p1), .val (.int p2), .val (.int p3), .val (.int p4), .val (.ref b30), .val (.ref b109), .val (.int i), .val (.int (own_lov i)), .val (.int (own_hiv i)), .val (.int (((own_hiv i) - (own_lov i)) + (1 : Int32))), .val (.int q), .val (.int (0 : Int32)), .val (.int ((own_lov i) - (1 : Int32))), .val (.int ((((own_lov i) - (1 : Int32)) - (0 : Int32)) + (1 : Int32))), .val (.int pv), .val (.int (1 : Int32)), .val (.int (1 : Int32)), .val (.int (1 : Int32))] [(.int (1 : Int32))])) _
        refine Goes.of (fun t k => XS.ifNo X234.here hx rfl (hb hby at_385) rfl ((if0 _ _).trans (feq (by decide)).1) k) ?_
        show Goes p e below (T234.setTop (mkF m 388 #[.val (.int p1), .val (.int p2), .val (.int p3), .val (.int p4), .val (.ref b30), .val (.ref b109), .val (.int i), .val (.int (own_lov i)), .val (.int (own_hiv i)), .val (.int (((own_hiv i) - (own_lov i)) + (1 : Int32))), .val (.int q), .val (.int (0 : Int32)), .val (.int ((own_lov i) - (1 : Int32))), .val (.int ((((own_lov i) - (1 : Int32)) - (0 : Int32)) + (1 : Int32))), .val (.int pv), .val (.int (1 : Int32)), .val (.int (1 : Int32)), .val (.int (1 : Int32))] [])) _
        refine Goes.of (fun t k => XS.iload X234.here hx rfl (hb hby at_388) rfl k) ?_
        show Goes p e below (T234.setTop (mkF m 390 #[.val (.int p1), .val (.int p2), .val (.int p3), .val (.int p4), .val (.ref b30), .val (.ref b109), .val (.int i), .val (.int (own_lov i)), .val (.int (own_hiv i)), .val (.int (((own_hiv i) - (own_lov i)) + (1 : Int32))), .val (.int q), .val (.int (0 : Int32)), .val (.int ((own_lov i) - (1 : Int32))), .val (.int ((((own_lov i) - (1 : Int32)) - (0 : Int32)) + (1 : Int32))), .val (.int pv), .val (.int (1 : Int32)), .val (.int (1 : Int32)), .val (.int (1 : Int32))] [(.int (1 : Int32))])) _
        refine Goes.of (fun t k => XS.ifNo X234.here hx rfl (hb hby at_390) rfl ((if0 _ _).trans (feq (by decide)).1) k) ?_
        show Goes p e below (T234.setTop (mkF m 393 #[.val (.int p1), .val (.int p2), .val (.int p3), .val (.int p4), .val (.ref b30), .val (.ref b109), .val (.int i), .val (.int (own_lov i)), .val (.int (own_hiv i)), .val (.int (((own_hiv i) - (own_lov i)) + (1 : Int32))), .val (.int q), .val (.int (0 : Int32)), .val (.int ((own_lov i) - (1 : Int32))), .val (.int ((((own_lov i) - (1 : Int32)) - (0 : Int32)) + (1 : Int32))), .val (.int pv), .val (.int (1 : Int32)), .val (.int (1 : Int32)), .val (.int (1 : Int32))] [])) _
        refine Goes.of (fun t k => XS.iconst X234.here hx rfl (hb hby at_393) k) ?_
        show Goes p e below (T234.setTop (mkF m 394 #[.val (.int p1), .val (.int p2), .val (.int p3), .val (.int p4), .val (.ref b30), .val (.ref b109), .val (.int i), .val (.int (own_lov i)), .val (.int (own_hiv i)), .val (.int (((own_hiv i) - (own_lov i)) + (1 : Int32))), .val (.int q), .val (.int (0 : Int32)), .val (.int ((own_lov i) - (1 : Int32))), .val (.int ((((own_lov i) - (1 : Int32)) - (0 : Int32)) + (1 : Int32))), .val (.int pv), .val (.int (1 : Int32)), .val (.int (1 : Int32)), .val (.int (1 : Int32))] [(.int (1 : Int32))])) _
        refine Goes.of (fun t k => XS.goto X234.here hx rfl (pc0 := 394) (pc' := 398) rfl (hb hby at_394) (by decide) (by decide) k) ?_
        show Goes p e below (T234.setTop (mkF m 398 #[.val (.int p1), .val (.int p2), .val (.int p3), .val (.int p4), .val (.ref b30), .val (.ref b109), .val (.int i), .val (.int (own_lov i)), .val (.int (own_hiv i)), .val (.int (((own_hiv i) - (own_lov i)) + (1 : Int32))), .val (.int q), .val (.int (0 : Int32)), .val (.int ((own_lov i) - (1 : Int32))), .val (.int ((((own_lov i) - (1 : Int32)) - (0 : Int32)) + (1 : Int32))), .val (.int pv), .val (.int (1 : Int32)), .val (.int (1 : Int32)), .val (.int (1 : Int32))] [(.int (1 : Int32))])) _
        exact Goes.retN (t := .boolean) X234 hx Bd.returns (by simp) hlocks (hb hby at_398) (⟨rfl, N234⟩) (by decide) (by decide)
      · refine Goes.of (fun t k => XS.icmpYes X227.here hx rfl (pc0 := 354) (pc' := 361) rfl (hb hby at_354) rfl (flt hc354_233).2.2.2 (by decide) (by decide) k) ?_
        show Goes p e below (T227.setTop (mkF m 361 #[.val (.int p1), .val (.int p2), .val (.int p3), .val (.int p4), .val (.ref b30), .val (.ref b109), .val (.int i), .val (.int (own_lov i)), .val (.int (own_hiv i)), .val (.int (((own_hiv i) - (own_lov i)) + (1 : Int32))), .val (.int q), .val (.int (0 : Int32)), .val (.int ((own_lov i) - (1 : Int32))), .val (.int ((((own_lov i) - (1 : Int32)) - (0 : Int32)) + (1 : Int32))), .val (.int pv), .val (.int (1 : Int32)), .unset, .unset] [])) _
        refine Goes.of (fun t k => XS.iconst X227.here hx rfl (hb hby at_361) k) ?_
        show Goes p e below (T227.setTop (mkF m 362 #[.val (.int p1), .val (.int p2), .val (.int p3), .val (.int p4), .val (.ref b30), .val (.ref b109), .val (.int i), .val (.int (own_lov i)), .val (.int (own_hiv i)), .val (.int (((own_hiv i) - (own_lov i)) + (1 : Int32))), .val (.int q), .val (.int (0 : Int32)), .val (.int ((own_lov i) - (1 : Int32))), .val (.int ((((own_lov i) - (1 : Int32)) - (0 : Int32)) + (1 : Int32))), .val (.int pv), .val (.int (1 : Int32)), .unset, .unset] [(.int (0 : Int32))])) _
        refine Goes.of (fun t k => XS.istore X227.here hx rfl (hb hby at_362) rfl (l' := #[.val (.int p1), .val (.int p2), .val (.int p3), .val (.int p4), .val (.ref b30), .val (.ref b109), .val (.int i), .val (.int (own_lov i)), .val (.int (own_hiv i)), .val (.int (((own_hiv i) - (own_lov i)) + (1 : Int32))), .val (.int q), .val (.int (0 : Int32)), .val (.int ((own_lov i) - (1 : Int32))), .val (.int ((((own_lov i) - (1 : Int32)) - (0 : Int32)) + (1 : Int32))), .val (.int pv), .val (.int (1 : Int32)), .val (.int (0 : Int32)), .unset]) rfl k) ?_
        show Goes p e below (T227.setTop (mkF m 364 #[.val (.int p1), .val (.int p2), .val (.int p3), .val (.int p4), .val (.ref b30), .val (.ref b109), .val (.int i), .val (.int (own_lov i)), .val (.int (own_hiv i)), .val (.int (((own_hiv i) - (own_lov i)) + (1 : Int32))), .val (.int q), .val (.int (0 : Int32)), .val (.int ((own_lov i) - (1 : Int32))), .val (.int ((((own_lov i) - (1 : Int32)) - (0 : Int32)) + (1 : Int32))), .val (.int pv), .val (.int (1 : Int32)), .val (.int (0 : Int32)), .unset] [])) _
        refine Goes.of (fun t k => XS.iload X227.here hx rfl (hb hby at_364) rfl k) ?_
        show Goes p e below (T227.setTop (mkF m 366 #[.val (.int p1), .val (.int p2), .val (.int p3), .val (.int p4), .val (.ref b30), .val (.ref b109), .val (.int i), .val (.int (own_lov i)), .val (.int (own_hiv i)), .val (.int (((own_hiv i) - (own_lov i)) + (1 : Int32))), .val (.int q), .val (.int (0 : Int32)), .val (.int ((own_lov i) - (1 : Int32))), .val (.int ((((own_lov i) - (1 : Int32)) - (0 : Int32)) + (1 : Int32))), .val (.int pv), .val (.int (1 : Int32)), .val (.int (0 : Int32)), .unset] [(.int (0 : Int32))])) _
        refine Goes.of (fun t k => XS.ifYes X227.here hx rfl (pc0 := 366) (pc' := 376) rfl (hb hby at_366) rfl ((if0 _ _).trans (teq (by decide)).1) (by decide) (by decide) k) ?_
        show Goes p e below (T227.setTop (mkF m 376 #[.val (.int p1), .val (.int p2), .val (.int p3), .val (.int p4), .val (.ref b30), .val (.ref b109), .val (.int i), .val (.int (own_lov i)), .val (.int (own_hiv i)), .val (.int (((own_hiv i) - (own_lov i)) + (1 : Int32))), .val (.int q), .val (.int (0 : Int32)), .val (.int ((own_lov i) - (1 : Int32))), .val (.int ((((own_lov i) - (1 : Int32)) - (0 : Int32)) + (1 : Int32))), .val (.int pv), .val (.int (1 : Int32)), .val (.int (0 : Int32)), .unset] [])) _
        refine Goes.of (fun t k => XS.iconst X227.here hx rfl (hb hby at_376) k) ?_
        show Goes p e below (T227.setTop (mkF m 377 #[.val (.int p1), .val (.int p2), .val (.int p3), .val (.int p4), .val (.ref b30), .val (.ref b109), .val (.int i), .val (.int (own_lov i)), .val (.int (own_hiv i)), .val (.int (((own_hiv i) - (own_lov i)) + (1 : Int32))), .val (.int q), .val (.int (0 : Int32)), .val (.int ((own_lov i) - (1 : Int32))), .val (.int ((((own_lov i) - (1 : Int32)) - (0 : Int32)) + (1 : Int32))), .val (.int pv), .val (.int (1 : Int32)), .val (.int (0 : Int32)), .unset] [(.int (1 : Int32))])) _
        refine Goes.of (fun t k => XS.goto X227.here hx rfl (pc0 := 377) (pc' := 381) rfl (hb hby at_377) (by decide) (by decide) k) ?_
        show Goes p e below (T227.setTop (mkF m 381 #[.val (.int p1), .val (.int p2), .val (.int p3), .val (.int p4), .val (.ref b30), .val (.ref b109), .val (.int i), .val (.int (own_lov i)), .val (.int (own_hiv i)), .val (.int (((own_hiv i) - (own_lov i)) + (1 : Int32))), .val (.int q), .val (.int (0 : Int32)), .val (.int ((own_lov i) - (1 : Int32))), .val (.int ((((own_lov i) - (1 : Int32)) - (0 : Int32)) + (1 : Int32))), .val (.int pv), .val (.int (1 : Int32)), .val (.int (0 : Int32)), .unset] [(.int (1 : Int32))])) _
        refine Goes.of (fun t k => XS.istore X227.here hx rfl (hb hby at_381) rfl (l' := #[.val (.int p1), .val (.int p2), .val (.int p3), .val (.int p4), .val (.ref b30), .val (.ref b109), .val (.int i), .val (.int (own_lov i)), .val (.int (own_hiv i)), .val (.int (((own_hiv i) - (own_lov i)) + (1 : Int32))), .val (.int q), .val (.int (0 : Int32)), .val (.int ((own_lov i) - (1 : Int32))), .val (.int ((((own_lov i) - (1 : Int32)) - (0 : Int32)) + (1 : Int32))), .val (.int pv), .val (.int (1 : Int32)), .val (.int (0 : Int32)), .val (.int (1 : Int32))]) rfl k) ?_
        show Goes p e below (T227.setTop (mkF m 383 #[.val (.int p1), .val (.int p2), .val (.int p3), .val (.int p4), .val (.ref b30), .val (.ref b109), .val (.int i), .val (.int (own_lov i)), .val (.int (own_hiv i)), .val (.int (((own_hiv i) - (own_lov i)) + (1 : Int32))), .val (.int q), .val (.int (0 : Int32)), .val (.int ((own_lov i) - (1 : Int32))), .val (.int ((((own_lov i) - (1 : Int32)) - (0 : Int32)) + (1 : Int32))), .val (.int pv), .val (.int (1 : Int32)), .val (.int (0 : Int32)), .val (.int (1 : Int32))] [])) _
        refine Goes.of (fun t k => XS.iload X227.here hx rfl (hb hby at_383) rfl k) ?_
        show Goes p e below (T227.setTop (mkF m 385 #[.val (.int p1), .val (.int p2), .val (.int p3), .val (.int p4), .val (.ref b30), .val (.ref b109), .val (.int i), .val (.int (own_lov i)), .val (.int (own_hiv i)), .val (.int (((own_hiv i) - (own_lov i)) + (1 : Int32))), .val (.int q), .val (.int (0 : Int32)), .val (.int ((own_lov i) - (1 : Int32))), .val (.int ((((own_lov i) - (1 : Int32)) - (0 : Int32)) + (1 : Int32))), .val (.int pv), .val (.int (1 : Int32)), .val (.int (0 : Int32)), .val (.int (1 : Int32))] [(.int (1 : Int32))])) _
        refine Goes.of (fun t k => XS.ifNo X227.here hx rfl (hb hby at_385) rfl ((if0 _ _).trans (feq (by decide)).1) k) ?_
        show Goes p e below (T227.setTop (mkF m 388 #[.val (.int p1), .val (.int p2), .val (.int p3), .val (.int p4), .val (.ref b30), .val (.ref b109), .val (.int i), .val (.int (own_lov i)), .val (.int (own_hiv i)), .val (.int (((own_hiv i) - (own_lov i)) + (1 : Int32))), .val (.int q), .val (.int (0 : Int32)), .val (.int ((own_lov i) - (1 : Int32))), .val (.int ((((own_lov i) - (1 : Int32)) - (0 : Int32)) + (1 : Int32))), .val (.int pv), .val (.int (1 : Int32)), .val (.int (0 : Int32)), .val (.int (1 : Int32))] [])) _
        refine Goes.of (fun t k => XS.iload X227.here hx rfl (hb hby at_388) rfl k) ?_
        show Goes p e below (T227.setTop (mkF m 390 #[.val (.int p1), .val (.int p2), .val (.int p3), .val (.int p4), .val (.ref b30), .val (.ref b109), .val (.int i), .val (.int (own_lov i)), .val (.int (own_hiv i)), .val (.int (((own_hiv i) - (own_lov i)) + (1 : Int32))), .val (.int q), .val (.int (0 : Int32)), .val (.int ((own_lov i) - (1 : Int32))), .val (.int ((((own_lov i) - (1 : Int32)) - (0 : Int32)) + (1 : Int32))), .val (.int pv), .val (.int (1 : Int32)), .val (.int (0 : Int32)), .val (.int (1 : Int32))] [(.int (1 : Int32))])) _
        refine Goes.of (fun t k => XS.ifNo X227.here hx rfl (hb hby at_390) rfl ((if0 _ _).trans (feq (by decide)).1) k) ?_
        show Goes p e below (T227.setTop (mkF m 393 #[.val (.int p1), .val (.int p2), .val (.int p3), .val (.int p4), .val (.ref b30), .val (.ref b109), .val (.int i), .val (.int (own_lov i)), .val (.int (own_hiv i)), .val (.int (((own_hiv i) - (own_lov i)) + (1 : Int32))), .val (.int q), .val (.int (0 : Int32)), .val (.int ((own_lov i) - (1 : Int32))), .val (.int ((((own_lov i) - (1 : Int32)) - (0 : Int32)) + (1 : Int32))), .val (.int pv), .val (.int (1 : Int32)), .val (.int (0 : Int32)), .val (.int (1 : Int32))] [])) _
        refine Goes.of (fun t k => XS.iconst X227.here hx rfl (hb hby at_393) k) ?_
        show Goes p e below (T227.setTop (mkF m 394 #[.val (.int p1), .val (.int p2), .val (.int p3), .val (.int p4), .val (.ref b30), .val (.ref b109), .val (.int i), .val (.int (own_lov i)), .val (.int (own_hiv i)), .val (.int (((own_hiv i) - (own_lov i)) + (1 : Int32))), .val (.int q), .val (.int (0 : Int32)), .val (.int ((own_lov i) - (1 : Int32))), .val (.int ((((own_lov i) - (1 : Int32)) - (0 : Int32)) + (1 : Int32))), .val (.int pv), .val (.int (1 : Int32)), .val (.int (0 : Int32)), .val (.int (1 : Int32))] [(.int (1 : Int32))])) _
        refine Goes.of (fun t k => XS.goto X227.here hx rfl (pc0 := 394) (pc' := 398) rfl (hb hby at_394) (by decide) (by decide) k) ?_
        show Goes p e below (T227.setTop (mkF m 398 #[.val (.int p1), .val (.int p2), .val (.int p3), .val (.int p4), .val (.ref b30), .val (.ref b109), .val (.int i), .val (.int (own_lov i)), .val (.int (own_hiv i)), .val (.int (((own_hiv i) - (own_lov i)) + (1 : Int32))), .val (.int q), .val (.int (0 : Int32)), .val (.int ((own_lov i) - (1 : Int32))), .val (.int ((((own_lov i) - (1 : Int32)) - (0 : Int32)) + (1 : Int32))), .val (.int pv), .val (.int (1 : Int32)), .val (.int (0 : Int32)), .val (.int (1 : Int32))] [(.int (1 : Int32))])) _
        exact Goes.retN (t := .boolean) X227 hx Bd.returns (by simp) hlocks (hb hby at_398) (⟨rfl, N227⟩) (by decide) (by decide)
  · refine Goes.of (fun t k => XS.ifYes X204.here hx rfl (pc0 := 243) (pc' := 250) rfl (hb hby at_243) rfl ((if0 _ _).trans (feq hc243_211).2) (by decide) (by decide) k) ?_
    show Goes p e below (T200.setTop (mkF m 250 #[.val (.int p1), .val (.int p2), .val (.int p3), .val (.int p4), .val (.ref b30), .val (.ref b109), .val (.int i), .val (.int (own_lov i)), .val (.int (own_hiv i)), .val (.int (((own_hiv i) - (own_lov i)) + (1 : Int32))), .val (.int q), .unset, .unset, .unset, .unset, .unset, .unset, .unset] [])) _
    refine Goes.of (fun t k => XS.aload X204.here hx rfl (hb hby at_250) rfl rfl k) ?_
    show Goes p e below (T200.setTop (mkF m 252 #[.val (.int p1), .val (.int p2), .val (.int p3), .val (.int p4), .val (.ref b30), .val (.ref b109), .val (.int i), .val (.int (own_lov i)), .val (.int (own_hiv i)), .val (.int (((own_hiv i) - (own_lov i)) + (1 : Int32))), .val (.int q), .unset, .unset, .unset, .unset, .unset, .unset, .unset] [(.ref b109)])) _
    refine Goes.of (fun t k => XS.iload X204.here hx rfl (hb hby at_252) rfl k) ?_
    show Goes p e below (T200.setTop (mkF m 254 #[.val (.int p1), .val (.int p2), .val (.int p3), .val (.int p4), .val (.ref b30), .val (.ref b109), .val (.int i), .val (.int (own_lov i)), .val (.int (own_hiv i)), .val (.int (((own_hiv i) - (own_lov i)) + (1 : Int32))), .val (.int q), .unset, .unset, .unset, .unset, .unset, .unset, .unset] [(.int i), (.ref b109)])) _
    refine Goes.of (fun t k => XS.iconst X204.here hx rfl (hb hby at_254) k) ?_
    show Goes p e below (T200.setTop (mkF m 255 #[.val (.int p1), .val (.int p2), .val (.int p3), .val (.int p4), .val (.ref b30), .val (.ref b109), .val (.int i), .val (.int (own_lov i)), .val (.int (own_hiv i)), .val (.int (((own_hiv i) - (own_lov i)) + (1 : Int32))), .val (.int q), .unset, .unset, .unset, .unset, .unset, .unset, .unset] [(.int (1 : Int32)), (.int i), (.ref b109)])) _
    refine Goes.of (fun t k => XS.isub X204.here hx rfl (hb hby at_255) rfl k) ?_
    have Vc236 := V200
    obtain ⟨clc236, Arc236, qc236, Sc236, Nc236, Hc236, Gc236⟩ := Vc236
    have hin237 : ¬ ((i - (1 : Int32)) < 0 ∨ clc236.slots.size ≤ ((i - (1 : Int32))).toNatClampNeg) := inb_of Sc236 ⟨(t11 hc243_211).1, (t11 hc243_211).2.1⟩
    have hat238 : clc236.slots[((i - (1 : Int32))).toNatClampNeg]? = some (.int (own_hiv (i - (1 : Int32)))) := Hc236.at hin237 (own_hi_at _)
    refine Goes.of (fun t k => X204.iaload hx (j := (i - (1 : Int32))) (v := (.int (own_hiv (i - (1 : Int32))))) (by rw [e200]; exact Arc236.1) (State.isArrayOf_alike hZ.alike Arc236.2.1) Arc236.2.2 hin237 hat238 (g := (mkF m 256 #[.val (.int p1), .val (.int p2), .val (.int p3), .val (.int p4), .val (.ref b30), .val (.ref b109), .val (.int i), .val (.int (own_lov i)), .val (.int (own_hiv i)), .val (.int (((own_hiv i) - (own_lov i)) + (1 : Int32))), .val (.int q), .unset, .unset, .unset, .unset, .unset, .unset, .unset] [(.int (i - (1 : Int32))), (.ref b109)])) rfl rfl (hb hby at_256) _ k) ?_
    show Goes p e below (T200.setTop (mkF m 257 #[.val (.int p1), .val (.int p2), .val (.int p3), .val (.int p4), .val (.ref b30), .val (.ref b109), .val (.int i), .val (.int (own_lov i)), .val (.int (own_hiv i)), .val (.int (((own_hiv i) - (own_lov i)) + (1 : Int32))), .val (.int q), .unset, .unset, .unset, .unset, .unset, .unset, .unset] [(.int (own_hiv (i - (1 : Int32))))])) _
    refine Goes.of (fun t k => XS.iconst X204.here hx rfl (hb hby at_257) k) ?_
    show Goes p e below (T200.setTop (mkF m 258 #[.val (.int p1), .val (.int p2), .val (.int p3), .val (.int p4), .val (.ref b30), .val (.ref b109), .val (.int i), .val (.int (own_lov i)), .val (.int (own_hiv i)), .val (.int (((own_hiv i) - (own_lov i)) + (1 : Int32))), .val (.int q), .unset, .unset, .unset, .unset, .unset, .unset, .unset] [(.int (1 : Int32)), (.int (own_hiv (i - (1 : Int32))))])) _
    refine Goes.of (fun t k => XS.iadd X204.here hx rfl (hb hby at_258) rfl k) ?_
    show Goes p e below (T200.setTop (mkF m 259 #[.val (.int p1), .val (.int p2), .val (.int p3), .val (.int p4), .val (.ref b30), .val (.ref b109), .val (.int i), .val (.int (own_lov i)), .val (.int (own_hiv i)), .val (.int (((own_hiv i) - (own_lov i)) + (1 : Int32))), .val (.int q), .unset, .unset, .unset, .unset, .unset, .unset, .unset] [(.int ((own_hiv (i - (1 : Int32))) + (1 : Int32)))])) _
    refine Goes.of (fun t k => XS.istore X204.here hx rfl (hb hby at_259) rfl (l' := #[.val (.int p1), .val (.int p2), .val (.int p3), .val (.int p4), .val (.ref b30), .val (.ref b109), .val (.int i), .val (.int (own_lov i)), .val (.int (own_hiv i)), .val (.int (((own_hiv i) - (own_lov i)) + (1 : Int32))), .val (.int q), .val (.int ((own_hiv (i - (1 : Int32))) + (1 : Int32))), .unset, .unset, .unset, .unset, .unset, .unset]) rfl k) ?_
    show Goes p e below (T200.setTop (mkF m 261 #[.val (.int p1), .val (.int p2), .val (.int p3), .val (.int p4), .val (.ref b30), .val (.ref b109), .val (.int i), .val (.int (own_lov i)), .val (.int (own_hiv i)), .val (.int (((own_hiv i) - (own_lov i)) + (1 : Int32))), .val (.int q), .val (.int ((own_hiv (i - (1 : Int32))) + (1 : Int32))), .unset, .unset, .unset, .unset, .unset, .unset] [])) _
    refine Goes.of (fun t k => XS.iload X204.here hx rfl (hb hby at_261) rfl k) ?_
    show Goes p e below (T200.setTop (mkF m 263 #[.val (.int p1), .val (.int p2), .val (.int p3), .val (.int p4), .val (.ref b30), .val (.ref b109), .val (.int i), .val (.int (own_lov i)), .val (.int (own_hiv i)), .val (.int (((own_hiv i) - (own_lov i)) + (1 : Int32))), .val (.int q), .val (.int ((own_hiv (i - (1 : Int32))) + (1 : Int32))), .unset, .unset, .unset, .unset, .unset, .unset] [(.int (own_lov i))])) _
    refine Goes.of (fun t k => XS.iconst X204.here hx rfl (hb hby at_263) k) ?_
    show Goes p e below (T200.setTop (mkF m 264 #[.val (.int p1), .val (.int p2), .val (.int p3), .val (.int p4), .val (.ref b30), .val (.ref b109), .val (.int i), .val (.int (own_lov i)), .val (.int (own_hiv i)), .val (.int (((own_hiv i) - (own_lov i)) + (1 : Int32))), .val (.int q), .val (.int ((own_hiv (i - (1 : Int32))) + (1 : Int32))), .unset, .unset, .unset, .unset, .unset, .unset] [(.int (1 : Int32)), (.int (own_lov i))])) _
    refine Goes.of (fun t k => XS.isub X204.here hx rfl (hb hby at_264) rfl k) ?_
    show Goes p e below (T200.setTop (mkF m 265 #[.val (.int p1), .val (.int p2), .val (.int p3), .val (.int p4), .val (.ref b30), .val (.ref b109), .val (.int i), .val (.int (own_lov i)), .val (.int (own_hiv i)), .val (.int (((own_hiv i) - (own_lov i)) + (1 : Int32))), .val (.int q), .val (.int ((own_hiv (i - (1 : Int32))) + (1 : Int32))), .unset, .unset, .unset, .unset, .unset, .unset] [(.int ((own_lov i) - (1 : Int32)))])) _
    refine Goes.of (fun t k => XS.istore X204.here hx rfl (hb hby at_265) rfl (l' := #[.val (.int p1), .val (.int p2), .val (.int p3), .val (.int p4), .val (.ref b30), .val (.ref b109), .val (.int i), .val (.int (own_lov i)), .val (.int (own_hiv i)), .val (.int (((own_hiv i) - (own_lov i)) + (1 : Int32))), .val (.int q), .val (.int ((own_hiv (i - (1 : Int32))) + (1 : Int32))), .val (.int ((own_lov i) - (1 : Int32))), .unset, .unset, .unset, .unset, .unset]) rfl k) ?_
    show Goes p e below (T200.setTop (mkF m 267 #[.val (.int p1), .val (.int p2), .val (.int p3), .val (.int p4), .val (.ref b30), .val (.ref b109), .val (.int i), .val (.int (own_lov i)), .val (.int (own_hiv i)), .val (.int (((own_hiv i) - (own_lov i)) + (1 : Int32))), .val (.int q), .val (.int ((own_hiv (i - (1 : Int32))) + (1 : Int32))), .val (.int ((own_lov i) - (1 : Int32))), .unset, .unset, .unset, .unset, .unset] [])) _
    refine Goes.of (fun t k => XS.iload X204.here hx rfl (hb hby at_267) rfl k) ?_
    show Goes p e below (T200.setTop (mkF m 269 #[.val (.int p1), .val (.int p2), .val (.int p3), .val (.int p4), .val (.ref b30), .val (.ref b109), .val (.int i), .val (.int (own_lov i)), .val (.int (own_hiv i)), .val (.int (((own_hiv i) - (own_lov i)) + (1 : Int32))), .val (.int q), .val (.int ((own_hiv (i - (1 : Int32))) + (1 : Int32))), .val (.int ((own_lov i) - (1 : Int32))), .unset, .unset, .unset, .unset, .unset] [(.int ((own_lov i) - (1 : Int32)))])) _
    refine Goes.of (fun t k => XS.iload X204.here hx rfl (hb hby at_269) rfl k) ?_
    show Goes p e below (T200.setTop (mkF m 271 #[.val (.int p1), .val (.int p2), .val (.int p3), .val (.int p4), .val (.ref b30), .val (.ref b109), .val (.int i), .val (.int (own_lov i)), .val (.int (own_hiv i)), .val (.int (((own_hiv i) - (own_lov i)) + (1 : Int32))), .val (.int q), .val (.int ((own_hiv (i - (1 : Int32))) + (1 : Int32))), .val (.int ((own_lov i) - (1 : Int32))), .unset, .unset, .unset, .unset, .unset] [(.int ((own_hiv (i - (1 : Int32))) + (1 : Int32))), (.int ((own_lov i) - (1 : Int32)))])) _
    refine Goes.of (fun t k => XS.isub X204.here hx rfl (hb hby at_271) rfl k) ?_
    show Goes p e below (T200.setTop (mkF m 272 #[.val (.int p1), .val (.int p2), .val (.int p3), .val (.int p4), .val (.ref b30), .val (.ref b109), .val (.int i), .val (.int (own_lov i)), .val (.int (own_hiv i)), .val (.int (((own_hiv i) - (own_lov i)) + (1 : Int32))), .val (.int q), .val (.int ((own_hiv (i - (1 : Int32))) + (1 : Int32))), .val (.int ((own_lov i) - (1 : Int32))), .unset, .unset, .unset, .unset, .unset] [(.int (((own_lov i) - (1 : Int32)) - ((own_hiv (i - (1 : Int32))) + (1 : Int32))))])) _
    refine Goes.of (fun t k => XS.iconst X204.here hx rfl (hb hby at_272) k) ?_
    show Goes p e below (T200.setTop (mkF m 273 #[.val (.int p1), .val (.int p2), .val (.int p3), .val (.int p4), .val (.ref b30), .val (.ref b109), .val (.int i), .val (.int (own_lov i)), .val (.int (own_hiv i)), .val (.int (((own_hiv i) - (own_lov i)) + (1 : Int32))), .val (.int q), .val (.int ((own_hiv (i - (1 : Int32))) + (1 : Int32))), .val (.int ((own_lov i) - (1 : Int32))), .unset, .unset, .unset, .unset, .unset] [(.int (1 : Int32)), (.int (((own_lov i) - (1 : Int32)) - ((own_hiv (i - (1 : Int32))) + (1 : Int32))))])) _
    refine Goes.of (fun t k => XS.iadd X204.here hx rfl (hb hby at_273) rfl k) ?_
    show Goes p e below (T200.setTop (mkF m 274 #[.val (.int p1), .val (.int p2), .val (.int p3), .val (.int p4), .val (.ref b30), .val (.ref b109), .val (.int i), .val (.int (own_lov i)), .val (.int (own_hiv i)), .val (.int (((own_hiv i) - (own_lov i)) + (1 : Int32))), .val (.int q), .val (.int ((own_hiv (i - (1 : Int32))) + (1 : Int32))), .val (.int ((own_lov i) - (1 : Int32))), .unset, .unset, .unset, .unset, .unset] [(.int ((((own_lov i) - (1 : Int32)) - ((own_hiv (i - (1 : Int32))) + (1 : Int32))) + (1 : Int32)))])) _
    refine Goes.of (fun t k => XS.istore X204.here hx rfl (hb hby at_274) rfl (l' := #[.val (.int p1), .val (.int p2), .val (.int p3), .val (.int p4), .val (.ref b30), .val (.ref b109), .val (.int i), .val (.int (own_lov i)), .val (.int (own_hiv i)), .val (.int (((own_hiv i) - (own_lov i)) + (1 : Int32))), .val (.int q), .val (.int ((own_hiv (i - (1 : Int32))) + (1 : Int32))), .val (.int ((own_lov i) - (1 : Int32))), .val (.int ((((own_lov i) - (1 : Int32)) - ((own_hiv (i - (1 : Int32))) + (1 : Int32))) + (1 : Int32))), .unset, .unset, .unset, .unset]) rfl k) ?_
    show Goes p e below (T200.setTop (mkF m 276 #[.val (.int p1), .val (.int p2), .val (.int p3), .val (.int p4), .val (.ref b30), .val (.ref b109), .val (.int i), .val (.int (own_lov i)), .val (.int (own_hiv i)), .val (.int (((own_hiv i) - (own_lov i)) + (1 : Int32))), .val (.int q), .val (.int ((own_hiv (i - (1 : Int32))) + (1 : Int32))), .val (.int ((own_lov i) - (1 : Int32))), .val (.int ((((own_lov i) - (1 : Int32)) - ((own_hiv (i - (1 : Int32))) + (1 : Int32))) + (1 : Int32))), .unset, .unset, .unset, .unset] [])) _
    refine Goes.of (fun t k => XS.iload X204.here hx rfl (hb hby at_276) rfl k) ?_
    show Goes p e below (T200.setTop (mkF m 278 #[.val (.int p1), .val (.int p2), .val (.int p3), .val (.int p4), .val (.ref b30), .val (.ref b109), .val (.int i), .val (.int (own_lov i)), .val (.int (own_hiv i)), .val (.int (((own_hiv i) - (own_lov i)) + (1 : Int32))), .val (.int q), .val (.int ((own_hiv (i - (1 : Int32))) + (1 : Int32))), .val (.int ((own_lov i) - (1 : Int32))), .val (.int ((((own_lov i) - (1 : Int32)) - ((own_hiv (i - (1 : Int32))) + (1 : Int32))) + (1 : Int32))), .unset, .unset, .unset, .unset] [(.int ((own_hiv (i - (1 : Int32))) + (1 : Int32)))])) _
    refine Goes.of (fun t k => XS.iloadN X204.here hx rfl (hb hby at_278) rfl k) ?_
    show Goes p e below (T200.setTop (mkF m 279 #[.val (.int p1), .val (.int p2), .val (.int p3), .val (.int p4), .val (.ref b30), .val (.ref b109), .val (.int i), .val (.int (own_lov i)), .val (.int (own_hiv i)), .val (.int (((own_hiv i) - (own_lov i)) + (1 : Int32))), .val (.int q), .val (.int ((own_hiv (i - (1 : Int32))) + (1 : Int32))), .val (.int ((own_lov i) - (1 : Int32))), .val (.int ((((own_lov i) - (1 : Int32)) - ((own_hiv (i - (1 : Int32))) + (1 : Int32))) + (1 : Int32))), .unset, .unset, .unset, .unset] [(.int p3), (.int ((own_hiv (i - (1 : Int32))) + (1 : Int32)))])) _
    refine Goes.of (fun t k => X204.ldcInt hx hown (mvT hZ (wd hw 8 rfl)) (g := (mkF m 279 #[.val (.int p1), .val (.int p2), .val (.int p3), .val (.int p4), .val (.ref b30), .val (.ref b109), .val (.int i), .val (.int (own_lov i)), .val (.int (own_hiv i)), .val (.int (((own_hiv i) - (own_lov i)) + (1 : Int32))), .val (.int q), .val (.int ((own_hiv (i - (1 : Int32))) + (1 : Int32))), .val (.int ((own_lov i) - (1 : Int32))), .val (.int ((((own_lov i) - (1 : Int32)) - ((own_hiv (i - (1 : Int32))) + (1 : Int32))) + (1 : Int32))), .unset, .unset, .unset, .unset] [(.int p3), (.int ((own_hiv (i - (1 : Int32))) + (1 : Int32)))])) rfl (hb hby at_279) _ k) ?_
    show Goes p e below (T200.setTop (mkF m 281 #[.val (.int p1), .val (.int p2), .val (.int p3), .val (.int p4), .val (.ref b30), .val (.ref b109), .val (.int i), .val (.int (own_lov i)), .val (.int (own_hiv i)), .val (.int (((own_hiv i) - (own_lov i)) + (1 : Int32))), .val (.int q), .val (.int ((own_hiv (i - (1 : Int32))) + (1 : Int32))), .val (.int ((own_lov i) - (1 : Int32))), .val (.int ((((own_lov i) - (1 : Int32)) - ((own_hiv (i - (1 : Int32))) + (1 : Int32))) + (1 : Int32))), .unset, .unset, .unset, .unset] [(.int (2147483647 : Int32)), (.int p3), (.int ((own_hiv (i - (1 : Int32))) + (1 : Int32)))])) _
    refine Goes.of (fun t k => XS.iand X204.here hx rfl (hb hby at_281) rfl k) ?_
    show Goes p e below (T200.setTop (mkF m 282 #[.val (.int p1), .val (.int p2), .val (.int p3), .val (.int p4), .val (.ref b30), .val (.ref b109), .val (.int i), .val (.int (own_lov i)), .val (.int (own_hiv i)), .val (.int (((own_hiv i) - (own_lov i)) + (1 : Int32))), .val (.int q), .val (.int ((own_hiv (i - (1 : Int32))) + (1 : Int32))), .val (.int ((own_lov i) - (1 : Int32))), .val (.int ((((own_lov i) - (1 : Int32)) - ((own_hiv (i - (1 : Int32))) + (1 : Int32))) + (1 : Int32))), .unset, .unset, .unset, .unset] [(.int (p3 &&& (2147483647 : Int32))), (.int ((own_hiv (i - (1 : Int32))) + (1 : Int32)))])) _
    refine Goes.of (fun t k => XS.iload X204.here hx rfl (hb hby at_282) rfl k) ?_
    show Goes p e below (T200.setTop (mkF m 284 #[.val (.int p1), .val (.int p2), .val (.int p3), .val (.int p4), .val (.ref b30), .val (.ref b109), .val (.int i), .val (.int (own_lov i)), .val (.int (own_hiv i)), .val (.int (((own_hiv i) - (own_lov i)) + (1 : Int32))), .val (.int q), .val (.int ((own_hiv (i - (1 : Int32))) + (1 : Int32))), .val (.int ((own_lov i) - (1 : Int32))), .val (.int ((((own_lov i) - (1 : Int32)) - ((own_hiv (i - (1 : Int32))) + (1 : Int32))) + (1 : Int32))), .unset, .unset, .unset, .unset] [(.int ((((own_lov i) - (1 : Int32)) - ((own_hiv (i - (1 : Int32))) + (1 : Int32))) + (1 : Int32))), (.int (p3 &&& (2147483647 : Int32))), (.int ((own_hiv (i - (1 : Int32))) + (1 : Int32)))])) _
    refine Goes.of (fun t k => XS.irem X204.here hx rfl (hb hby at_284) rfl (own_nz (t11 hc243_211).2.2.1) k) ?_
    show Goes p e below (T200.setTop (mkF m 285 #[.val (.int p1), .val (.int p2), .val (.int p3), .val (.int p4), .val (.ref b30), .val (.ref b109), .val (.int i), .val (.int (own_lov i)), .val (.int (own_hiv i)), .val (.int (((own_hiv i) - (own_lov i)) + (1 : Int32))), .val (.int q), .val (.int ((own_hiv (i - (1 : Int32))) + (1 : Int32))), .val (.int ((own_lov i) - (1 : Int32))), .val (.int ((((own_lov i) - (1 : Int32)) - ((own_hiv (i - (1 : Int32))) + (1 : Int32))) + (1 : Int32))), .unset, .unset, .unset, .unset] [(.int ((p3 &&& (2147483647 : Int32)) - (p3 &&& (2147483647 : Int32)) / ((((own_lov i) - (1 : Int32)) - ((own_hiv (i - (1 : Int32))) + (1 : Int32))) + (1 : Int32)) * ((((own_lov i) - (1 : Int32)) - ((own_hiv (i - (1 : Int32))) + (1 : Int32))) + (1 : Int32)))), (.int ((own_hiv (i - (1 : Int32))) + (1 : Int32)))])) _
    refine Goes.of (fun t k => XS.iadd X204.here hx rfl (hb hby at_285) rfl k) ?_
    show Goes p e below (T200.setTop (mkF m 286 #[.val (.int p1), .val (.int p2), .val (.int p3), .val (.int p4), .val (.ref b30), .val (.ref b109), .val (.int i), .val (.int (own_lov i)), .val (.int (own_hiv i)), .val (.int (((own_hiv i) - (own_lov i)) + (1 : Int32))), .val (.int q), .val (.int ((own_hiv (i - (1 : Int32))) + (1 : Int32))), .val (.int ((own_lov i) - (1 : Int32))), .val (.int ((((own_lov i) - (1 : Int32)) - ((own_hiv (i - (1 : Int32))) + (1 : Int32))) + (1 : Int32))), .unset, .unset, .unset, .unset] [(.int (((own_hiv (i - (1 : Int32))) + (1 : Int32)) + ((p3 &&& (2147483647 : Int32)) - (p3 &&& (2147483647 : Int32)) / ((((own_lov i) - (1 : Int32)) - ((own_hiv (i - (1 : Int32))) + (1 : Int32))) + (1 : Int32)) * ((((own_lov i) - (1 : Int32)) - ((own_hiv (i - (1 : Int32))) + (1 : Int32))) + (1 : Int32)))))])) _
    refine Goes.of (fun t k => XS.istore X204.here hx rfl (hb hby at_286) rfl (l' := #[.val (.int p1), .val (.int p2), .val (.int p3), .val (.int p4), .val (.ref b30), .val (.ref b109), .val (.int i), .val (.int (own_lov i)), .val (.int (own_hiv i)), .val (.int (((own_hiv i) - (own_lov i)) + (1 : Int32))), .val (.int q), .val (.int ((own_hiv (i - (1 : Int32))) + (1 : Int32))), .val (.int ((own_lov i) - (1 : Int32))), .val (.int ((((own_lov i) - (1 : Int32)) - ((own_hiv (i - (1 : Int32))) + (1 : Int32))) + (1 : Int32))), .val (.int (((own_hiv (i - (1 : Int32))) + (1 : Int32)) + ((p3 &&& (2147483647 : Int32)) - (p3 &&& (2147483647 : Int32)) / ((((own_lov i) - (1 : Int32)) - ((own_hiv (i - (1 : Int32))) + (1 : Int32))) + (1 : Int32)) * ((((own_lov i) - (1 : Int32)) - ((own_hiv (i - (1 : Int32))) + (1 : Int32))) + (1 : Int32))))), .unset, .unset, .unset]) rfl k) ?_
    show Goes p e below (T200.setTop (mkF m 288 #[.val (.int p1), .val (.int p2), .val (.int p3), .val (.int p4), .val (.ref b30), .val (.ref b109), .val (.int i), .val (.int (own_lov i)), .val (.int (own_hiv i)), .val (.int (((own_hiv i) - (own_lov i)) + (1 : Int32))), .val (.int q), .val (.int ((own_hiv (i - (1 : Int32))) + (1 : Int32))), .val (.int ((own_lov i) - (1 : Int32))), .val (.int ((((own_lov i) - (1 : Int32)) - ((own_hiv (i - (1 : Int32))) + (1 : Int32))) + (1 : Int32))), .val (.int (((own_hiv (i - (1 : Int32))) + (1 : Int32)) + ((p3 &&& (2147483647 : Int32)) - (p3 &&& (2147483647 : Int32)) / ((((own_lov i) - (1 : Int32)) - ((own_hiv (i - (1 : Int32))) + (1 : Int32))) + (1 : Int32)) * ((((own_lov i) - (1 : Int32)) - ((own_hiv (i - (1 : Int32))) + (1 : Int32))) + (1 : Int32))))), .unset, .unset, .unset] [])) _
    obtain ⟨pv, ep⟩ : ∃ z : Int32, z = (((own_hiv (i - (1 : Int32))) + (1 : Int32)) + ((p3 &&& (2147483647 : Int32)) - (p3 &&& (2147483647 : Int32)) / ((((own_lov i) - (1 : Int32)) - ((own_hiv (i - (1 : Int32))) + (1 : Int32))) + (1 : Int32)) * ((((own_lov i) - (1 : Int32)) - ((own_hiv (i - (1 : Int32))) + (1 : Int32))) + (1 : Int32)))) := ⟨_, rfl⟩
    rw [← ep]
    show Goes p e below (T200.setTop (mkF m 288 #[.val (.int p1), .val (.int p2), .val (.int p3), .val (.int p4), .val (.ref b30), .val (.ref b109), .val (.int i), .val (.int (own_lov i)), .val (.int (own_hiv i)), .val (.int (((own_hiv i) - (own_lov i)) + (1 : Int32))), .val (.int q), .val (.int ((own_hiv (i - (1 : Int32))) + (1 : Int32))), .val (.int ((own_lov i) - (1 : Int32))), .val (.int ((((own_lov i) - (1 : Int32)) - ((own_hiv (i - (1 : Int32))) + (1 : Int32))) + (1 : Int32))), .val (.int pv), .unset, .unset, .unset] [])) _
    have bp : ¬ own_in pv := by
      have b := own_off p3 _ _ (t11 hc243_211).2.2.1 (t11 hc243_211).2.2.2.1 (t11 hc243_211).2.2.2.2.2.1
      rw [← ep, (t11 hc243_211).2.2.2.2.1] at b
      exact (t11 hc243_211).2.2.2.2.2.2 pv b.1 b.2
    refine Goes.of (fun t k => XS.iload X204.here hx rfl (hb hby at_288) rfl k) ?_
    obtain ⟨_, _, ⟨T239, L239, k239, n239⟩, -, X239, ⟨Lc239, hQ239, l239, y239, z239⟩, st239⟩ := Jvm.LawKit.callS X204 hx (y := (⟨"com/example/strict_xslt/strictxslt/XmlNames", "isNameStart", "(I)Z"⟩ : MethodName)) hown (mvT hZ (wd hw 9 rfl)) (mvT hZ (wd hw 10 rfl)) (mvT hZ (wd hw 11 rfl)) (mvT hZ (wd hw 12 rfl)) (by decide) (backOf (W := 0) (rm1 l Z a0 hw [] q  h200 n0 z201 ) hZ (wd hw 12 rfl) (wd hw 11 rfl) (by decide) (by decide)) (g := (mkF m 290 #[.val (.int p1), .val (.int p2), .val (.int p3), .val (.int p4), .val (.ref b30), .val (.ref b109), .val (.int i), .val (.int (own_lov i)), .val (.int (own_hiv i)), .val (.int (((own_hiv i) - (own_lov i)) + (1 : Int32))), .val (.int q), .val (.int ((own_hiv (i - (1 : Int32))) + (1 : Int32))), .val (.int ((own_lov i) - (1 : Int32))), .val (.int ((((own_lov i) - (1 : Int32)) - ((own_hiv (i - (1 : Int32))) + (1 : Int32))) + (1 : Int32))), .val (.int pv), .unset, .unset, .unset] [(.int q)])) rfl (by rw [hml]; rfl) (argsL := [(.int q)]) (rest := []) (lenOf pd_2 rfl) rfl (by show 2 * 0 + _ ≤ _; exact Nat.le_of_eq rfl) (hb hby at_290) (fun _ _ => ⟨rfl, e200, (by decide : 2 + 0 ≤ _), (by decide : 30 + 0 ≤ _)⟩)
    dsimp only [Pt.U, Pt.locs, Pt.cells, Pt.slots] at X239 l239 y239 z239 st239 hQ239
    subst l239 y239 z239
    obtain ⟨rfl, N239q, e239⟩ := hQ239
    have N239 := Fr.app N204 N239q
    refine Goes.of st239 ?_
    show Goes p e below (T239.setTop (mkF m 293 #[.val (.int p1), .val (.int p2), .val (.int p3), .val (.int p4), .val (.ref b30), .val (.ref b109), .val (.int i), .val (.int (own_lov i)), .val (.int (own_hiv i)), .val (.int (((own_hiv i) - (own_lov i)) + (1 : Int32))), .val (.int q), .val (.int ((own_hiv (i - (1 : Int32))) + (1 : Int32))), .val (.int ((own_lov i) - (1 : Int32))), .val (.int ((((own_lov i) - (1 : Int32)) - ((own_hiv (i - (1 : Int32))) + (1 : Int32))) + (1 : Int32))), .val (.int pv), .unset, .unset, .unset] [(.int (if own_in q then 1 else 0))])) _
    have hi240 : own_in q := bq
    have hd293_241 : ¬ ((if own_in q then 1 else 0) = (0 : Int32)) := by rw [if_pos hi240]; decide
    refine Goes.of (fun t k => XS.ifNo X239.here hx rfl (hb hby at_293) rfl ((if0 _ _).trans (feq hd293_241).1) k) ?_
    show Goes p e below (T239.setTop (mkF m 296 #[.val (.int p1), .val (.int p2), .val (.int p3), .val (.int p4), .val (.ref b30), .val (.ref b109), .val (.int i), .val (.int (own_lov i)), .val (.int (own_hiv i)), .val (.int (((own_hiv i) - (own_lov i)) + (1 : Int32))), .val (.int q), .val (.int ((own_hiv (i - (1 : Int32))) + (1 : Int32))), .val (.int ((own_lov i) - (1 : Int32))), .val (.int ((((own_lov i) - (1 : Int32)) - ((own_hiv (i - (1 : Int32))) + (1 : Int32))) + (1 : Int32))), .val (.int pv), .unset, .unset, .unset] [])) _
    refine Goes.of (fun t k => XS.iload X239.here hx rfl (hb hby at_296) rfl k) ?_
    obtain ⟨_, _, ⟨T242, L242, k242, n242⟩, -, X242, ⟨Lc242, hQ242, l242, y242, z242⟩, st242⟩ := Jvm.LawKit.callS X239 hx (y := (⟨"com/example/strict_xslt/strictxslt/XmlNames", "isNameStart", "(I)Z"⟩ : MethodName)) hown (mvT hZ (wd hw 9 rfl)) (mvT hZ (wd hw 10 rfl)) (mvT hZ (wd hw 11 rfl)) (mvT hZ (wd hw 12 rfl)) (by decide) (backOf (W := 0) (rm1 l Z a0 hw [] pv  h200 n0 z201 ) hZ (wd hw 12 rfl) (wd hw 11 rfl) (by decide) (by decide)) (g := (mkF m 298 #[.val (.int p1), .val (.int p2), .val (.int p3), .val (.int p4), .val (.ref b30), .val (.ref b109), .val (.int i), .val (.int (own_lov i)), .val (.int (own_hiv i)), .val (.int (((own_hiv i) - (own_lov i)) + (1 : Int32))), .val (.int q), .val (.int ((own_hiv (i - (1 : Int32))) + (1 : Int32))), .val (.int ((own_lov i) - (1 : Int32))), .val (.int ((((own_lov i) - (1 : Int32)) - ((own_hiv (i - (1 : Int32))) + (1 : Int32))) + (1 : Int32))), .val (.int pv), .unset, .unset, .unset] [(.int pv)])) rfl (by rw [hml]; rfl) (argsL := [(.int pv)]) (rest := []) (lenOf pd_2 rfl) rfl (by show 2 * 0 + _ ≤ _; exact Nat.le_of_eq rfl) (hb hby at_298) (fun _ _ => ⟨rfl, e239, (by decide : 2 + 0 ≤ _), (by decide : 30 + 0 ≤ _)⟩)
    dsimp only [Pt.U, Pt.locs, Pt.cells, Pt.slots] at X242 l242 y242 z242 st242 hQ242
    subst l242 y242 z242
    obtain ⟨rfl, N242q, e242⟩ := hQ242
    have N242 := Fr.app N239 N242q
    refine Goes.of st242 ?_
    show Goes p e below (T242.setTop (mkF m 301 #[.val (.int p1), .val (.int p2), .val (.int p3), .val (.int p4), .val (.ref b30), .val (.ref b109), .val (.int i), .val (.int (own_lov i)), .val (.int (own_hiv i)), .val (.int (((own_hiv i) - (own_lov i)) + (1 : Int32))), .val (.int q), .val (.int ((own_hiv (i - (1 : Int32))) + (1 : Int32))), .val (.int ((own_lov i) - (1 : Int32))), .val (.int ((((own_lov i) - (1 : Int32)) - ((own_hiv (i - (1 : Int32))) + (1 : Int32))) + (1 : Int32))), .val (.int pv), .unset, .unset, .unset] [(.int (if own_in pv then 1 else 0))])) _
    have hi243 : ¬ own_in pv := bp
    have hd301_244 : (if own_in pv then 1 else 0) = (0 : Int32) := by rw [if_neg hi243]
    refine Goes.of (fun t k => XS.ifNo X242.here hx rfl (hb hby at_301) rfl ((if0 _ _).trans (teq hd301_244).2) k) ?_
    show Goes p e below (T242.setTop (mkF m 304 #[.val (.int p1), .val (.int p2), .val (.int p3), .val (.int p4), .val (.ref b30), .val (.ref b109), .val (.int i), .val (.int (own_lov i)), .val (.int (own_hiv i)), .val (.int (((own_hiv i) - (own_lov i)) + (1 : Int32))), .val (.int q), .val (.int ((own_hiv (i - (1 : Int32))) + (1 : Int32))), .val (.int ((own_lov i) - (1 : Int32))), .val (.int ((((own_lov i) - (1 : Int32)) - ((own_hiv (i - (1 : Int32))) + (1 : Int32))) + (1 : Int32))), .val (.int pv), .unset, .unset, .unset] [])) _
    refine Goes.of (fun t k => XS.iload X242.here hx rfl (hb hby at_304) rfl k) ?_
    obtain ⟨_, _, ⟨T245, L245, k245, n245⟩, -, X245, ⟨Lc245, hQ245, l245, y245, z245⟩, st245⟩ := Jvm.LawKit.callS X242 hx (y := (⟨"com/example/strict_xslt/strictxslt/XmlNames", "isNameStart", "(I)Z"⟩ : MethodName)) hown (mvT hZ (wd hw 9 rfl)) (mvT hZ (wd hw 10 rfl)) (mvT hZ (wd hw 11 rfl)) (mvT hZ (wd hw 12 rfl)) (by decide) (backOf (W := 0) (rm1 l Z a0 hw [] (own_lov i)  h200 n0 z201 ) hZ (wd hw 12 rfl) (wd hw 11 rfl) (by decide) (by decide)) (g := (mkF m 306 #[.val (.int p1), .val (.int p2), .val (.int p3), .val (.int p4), .val (.ref b30), .val (.ref b109), .val (.int i), .val (.int (own_lov i)), .val (.int (own_hiv i)), .val (.int (((own_hiv i) - (own_lov i)) + (1 : Int32))), .val (.int q), .val (.int ((own_hiv (i - (1 : Int32))) + (1 : Int32))), .val (.int ((own_lov i) - (1 : Int32))), .val (.int ((((own_lov i) - (1 : Int32)) - ((own_hiv (i - (1 : Int32))) + (1 : Int32))) + (1 : Int32))), .val (.int pv), .unset, .unset, .unset] [(.int (own_lov i))])) rfl (by rw [hml]; rfl) (argsL := [(.int (own_lov i))]) (rest := []) (lenOf pd_2 rfl) rfl (by show 2 * 0 + _ ≤ _; exact Nat.le_of_eq rfl) (hb hby at_306) (fun _ _ => ⟨rfl, e242, (by decide : 2 + 0 ≤ _), (by decide : 30 + 0 ≤ _)⟩)
    dsimp only [Pt.U, Pt.locs, Pt.cells, Pt.slots] at X245 l245 y245 z245 st245 hQ245
    subst l245 y245 z245
    obtain ⟨rfl, N245q, e245⟩ := hQ245
    have N245 := Fr.app N242 N245q
    refine Goes.of st245 ?_
    show Goes p e below (T245.setTop (mkF m 309 #[.val (.int p1), .val (.int p2), .val (.int p3), .val (.int p4), .val (.ref b30), .val (.ref b109), .val (.int i), .val (.int (own_lov i)), .val (.int (own_hiv i)), .val (.int (((own_hiv i) - (own_lov i)) + (1 : Int32))), .val (.int q), .val (.int ((own_hiv (i - (1 : Int32))) + (1 : Int32))), .val (.int ((own_lov i) - (1 : Int32))), .val (.int ((((own_lov i) - (1 : Int32)) - ((own_hiv (i - (1 : Int32))) + (1 : Int32))) + (1 : Int32))), .val (.int pv), .unset, .unset, .unset] [(.int (if own_in (own_lov i) then 1 else 0))])) _
    have hi246 : own_in (own_lov i) := t5
    have hd309_247 : ¬ ((if own_in (own_lov i) then 1 else 0) = (0 : Int32)) := by rw [if_pos hi246]; decide
    refine Goes.of (fun t k => XS.ifNo X245.here hx rfl (hb hby at_309) rfl ((if0 _ _).trans (feq hd309_247).1) k) ?_
    show Goes p e below (T245.setTop (mkF m 312 #[.val (.int p1), .val (.int p2), .val (.int p3), .val (.int p4), .val (.ref b30), .val (.ref b109), .val (.int i), .val (.int (own_lov i)), .val (.int (own_hiv i)), .val (.int (((own_hiv i) - (own_lov i)) + (1 : Int32))), .val (.int q), .val (.int ((own_hiv (i - (1 : Int32))) + (1 : Int32))), .val (.int ((own_lov i) - (1 : Int32))), .val (.int ((((own_lov i) - (1 : Int32)) - ((own_hiv (i - (1 : Int32))) + (1 : Int32))) + (1 : Int32))), .val (.int pv), .unset, .unset, .unset] [])) _
    refine Goes.of (fun t k => XS.iload X245.here hx rfl (hb hby at_312) rfl k) ?_
    obtain ⟨_, _, ⟨T248, L248, k248, n248⟩, -, X248, ⟨Lc248, hQ248, l248, y248, z248⟩, st248⟩ := Jvm.LawKit.callS X245 hx (y := (⟨"com/example/strict_xslt/strictxslt/XmlNames", "isNameStart", "(I)Z"⟩ : MethodName)) hown (mvT hZ (wd hw 9 rfl)) (mvT hZ (wd hw 10 rfl)) (mvT hZ (wd hw 11 rfl)) (mvT hZ (wd hw 12 rfl)) (by decide) (backOf (W := 0) (rm1 l Z a0 hw [] (own_hiv i)  h200 n0 z201 ) hZ (wd hw 12 rfl) (wd hw 11 rfl) (by decide) (by decide)) (g := (mkF m 314 #[.val (.int p1), .val (.int p2), .val (.int p3), .val (.int p4), .val (.ref b30), .val (.ref b109), .val (.int i), .val (.int (own_lov i)), .val (.int (own_hiv i)), .val (.int (((own_hiv i) - (own_lov i)) + (1 : Int32))), .val (.int q), .val (.int ((own_hiv (i - (1 : Int32))) + (1 : Int32))), .val (.int ((own_lov i) - (1 : Int32))), .val (.int ((((own_lov i) - (1 : Int32)) - ((own_hiv (i - (1 : Int32))) + (1 : Int32))) + (1 : Int32))), .val (.int pv), .unset, .unset, .unset] [(.int (own_hiv i))])) rfl (by rw [hml]; rfl) (argsL := [(.int (own_hiv i))]) (rest := []) (lenOf pd_2 rfl) rfl (by show 2 * 0 + _ ≤ _; exact Nat.le_of_eq rfl) (hb hby at_314) (fun _ _ => ⟨rfl, e245, (by decide : 2 + 0 ≤ _), (by decide : 30 + 0 ≤ _)⟩)
    dsimp only [Pt.U, Pt.locs, Pt.cells, Pt.slots] at X248 l248 y248 z248 st248 hQ248
    subst l248 y248 z248
    obtain ⟨rfl, N248q, e248⟩ := hQ248
    have N248 := Fr.app N245 N248q
    refine Goes.of st248 ?_
    show Goes p e below (T248.setTop (mkF m 317 #[.val (.int p1), .val (.int p2), .val (.int p3), .val (.int p4), .val (.ref b30), .val (.ref b109), .val (.int i), .val (.int (own_lov i)), .val (.int (own_hiv i)), .val (.int (((own_hiv i) - (own_lov i)) + (1 : Int32))), .val (.int q), .val (.int ((own_hiv (i - (1 : Int32))) + (1 : Int32))), .val (.int ((own_lov i) - (1 : Int32))), .val (.int ((((own_lov i) - (1 : Int32)) - ((own_hiv (i - (1 : Int32))) + (1 : Int32))) + (1 : Int32))), .val (.int pv), .unset, .unset, .unset] [(.int (if own_in (own_hiv i) then 1 else 0))])) _
    have hi249 : own_in (own_hiv i) := t6
    have hd317_250 : ¬ ((if own_in (own_hiv i) then 1 else 0) = (0 : Int32)) := by rw [if_pos hi249]; decide
    refine Goes.of (fun t k => XS.ifNo X248.here hx rfl (hb hby at_317) rfl ((if0 _ _).trans (feq hd317_250).1) k) ?_
    show Goes p e below (T248.setTop (mkF m 320 #[.val (.int p1), .val (.int p2), .val (.int p3), .val (.int p4), .val (.ref b30), .val (.ref b109), .val (.int i), .val (.int (own_lov i)), .val (.int (own_hiv i)), .val (.int (((own_hiv i) - (own_lov i)) + (1 : Int32))), .val (.int q), .val (.int ((own_hiv (i - (1 : Int32))) + (1 : Int32))), .val (.int ((own_lov i) - (1 : Int32))), .val (.int ((((own_lov i) - (1 : Int32)) - ((own_hiv (i - (1 : Int32))) + (1 : Int32))) + (1 : Int32))), .val (.int pv), .unset, .unset, .unset] [])) _
    refine Goes.of (fun t k => XS.iload X248.here hx rfl (hb hby at_320) rfl k) ?_
    show Goes p e below (T248.setTop (mkF m 322 #[.val (.int p1), .val (.int p2), .val (.int p3), .val (.int p4), .val (.ref b30), .val (.ref b109), .val (.int i), .val (.int (own_lov i)), .val (.int (own_hiv i)), .val (.int (((own_hiv i) - (own_lov i)) + (1 : Int32))), .val (.int q), .val (.int ((own_hiv (i - (1 : Int32))) + (1 : Int32))), .val (.int ((own_lov i) - (1 : Int32))), .val (.int ((((own_lov i) - (1 : Int32)) - ((own_hiv (i - (1 : Int32))) + (1 : Int32))) + (1 : Int32))), .val (.int pv), .unset, .unset, .unset] [(.int (own_lov i))])) _
    refine Goes.of (fun t k => XS.iconst X248.here hx rfl (hb hby at_322) k) ?_
    show Goes p e below (T248.setTop (mkF m 323 #[.val (.int p1), .val (.int p2), .val (.int p3), .val (.int p4), .val (.ref b30), .val (.ref b109), .val (.int i), .val (.int (own_lov i)), .val (.int (own_hiv i)), .val (.int (((own_hiv i) - (own_lov i)) + (1 : Int32))), .val (.int q), .val (.int ((own_hiv (i - (1 : Int32))) + (1 : Int32))), .val (.int ((own_lov i) - (1 : Int32))), .val (.int ((((own_lov i) - (1 : Int32)) - ((own_hiv (i - (1 : Int32))) + (1 : Int32))) + (1 : Int32))), .val (.int pv), .unset, .unset, .unset] [(.int (1 : Int32)), (.int (own_lov i))])) _
    refine Goes.of (fun t k => XS.isub X248.here hx rfl (hb hby at_323) rfl k) ?_
    obtain ⟨_, _, ⟨T251, L251, k251, n251⟩, -, X251, ⟨Lc251, hQ251, l251, y251, z251⟩, st251⟩ := Jvm.LawKit.callS X248 hx (y := (⟨"com/example/strict_xslt/strictxslt/XmlNames", "isNameStart", "(I)Z"⟩ : MethodName)) hown (mvT hZ (wd hw 9 rfl)) (mvT hZ (wd hw 10 rfl)) (mvT hZ (wd hw 11 rfl)) (mvT hZ (wd hw 12 rfl)) (by decide) (backOf (W := 0) (rm1 l Z a0 hw [] ((own_lov i) - (1 : Int32))  h200 n0 z201 ) hZ (wd hw 12 rfl) (wd hw 11 rfl) (by decide) (by decide)) (g := (mkF m 324 #[.val (.int p1), .val (.int p2), .val (.int p3), .val (.int p4), .val (.ref b30), .val (.ref b109), .val (.int i), .val (.int (own_lov i)), .val (.int (own_hiv i)), .val (.int (((own_hiv i) - (own_lov i)) + (1 : Int32))), .val (.int q), .val (.int ((own_hiv (i - (1 : Int32))) + (1 : Int32))), .val (.int ((own_lov i) - (1 : Int32))), .val (.int ((((own_lov i) - (1 : Int32)) - ((own_hiv (i - (1 : Int32))) + (1 : Int32))) + (1 : Int32))), .val (.int pv), .unset, .unset, .unset] [(.int ((own_lov i) - (1 : Int32)))])) rfl (by rw [hml]; rfl) (argsL := [(.int ((own_lov i) - (1 : Int32)))]) (rest := []) (lenOf pd_2 rfl) rfl (by show 2 * 0 + _ ≤ _; exact Nat.le_of_eq rfl) (hb hby at_324) (fun _ _ => ⟨rfl, e248, (by decide : 2 + 0 ≤ _), (by decide : 30 + 0 ≤ _)⟩)
    dsimp only [Pt.U, Pt.locs, Pt.cells, Pt.slots] at X251 l251 y251 z251 st251 hQ251
    subst l251 y251 z251
    obtain ⟨rfl, N251q, e251⟩ := hQ251
    have N251 := Fr.app N248 N251q
    refine Goes.of st251 ?_
    show Goes p e below (T251.setTop (mkF m 327 #[.val (.int p1), .val (.int p2), .val (.int p3), .val (.int p4), .val (.ref b30), .val (.ref b109), .val (.int i), .val (.int (own_lov i)), .val (.int (own_hiv i)), .val (.int (((own_hiv i) - (own_lov i)) + (1 : Int32))), .val (.int q), .val (.int ((own_hiv (i - (1 : Int32))) + (1 : Int32))), .val (.int ((own_lov i) - (1 : Int32))), .val (.int ((((own_lov i) - (1 : Int32)) - ((own_hiv (i - (1 : Int32))) + (1 : Int32))) + (1 : Int32))), .val (.int pv), .unset, .unset, .unset] [(.int (if own_in ((own_lov i) - (1 : Int32)) then 1 else 0))])) _
    have hi252 : ¬ own_in ((own_lov i) - (1 : Int32)) := t7
    have hd327_253 : (if own_in ((own_lov i) - (1 : Int32)) then 1 else 0) = (0 : Int32) := by rw [if_neg hi252]
    refine Goes.of (fun t k => XS.ifNo X251.here hx rfl (hb hby at_327) rfl ((if0 _ _).trans (teq hd327_253).2) k) ?_
    show Goes p e below (T251.setTop (mkF m 330 #[.val (.int p1), .val (.int p2), .val (.int p3), .val (.int p4), .val (.ref b30), .val (.ref b109), .val (.int i), .val (.int (own_lov i)), .val (.int (own_hiv i)), .val (.int (((own_hiv i) - (own_lov i)) + (1 : Int32))), .val (.int q), .val (.int ((own_hiv (i - (1 : Int32))) + (1 : Int32))), .val (.int ((own_lov i) - (1 : Int32))), .val (.int ((((own_lov i) - (1 : Int32)) - ((own_hiv (i - (1 : Int32))) + (1 : Int32))) + (1 : Int32))), .val (.int pv), .unset, .unset, .unset] [])) _
    refine Goes.of (fun t k => XS.iload X251.here hx rfl (hb hby at_330) rfl k) ?_
    show Goes p e below (T251.setTop (mkF m 332 #[.val (.int p1), .val (.int p2), .val (.int p3), .val (.int p4), .val (.ref b30), .val (.ref b109), .val (.int i), .val (.int (own_lov i)), .val (.int (own_hiv i)), .val (.int (((own_hiv i) - (own_lov i)) + (1 : Int32))), .val (.int q), .val (.int ((own_hiv (i - (1 : Int32))) + (1 : Int32))), .val (.int ((own_lov i) - (1 : Int32))), .val (.int ((((own_lov i) - (1 : Int32)) - ((own_hiv (i - (1 : Int32))) + (1 : Int32))) + (1 : Int32))), .val (.int pv), .unset, .unset, .unset] [(.int (own_hiv i))])) _
    refine Goes.of (fun t k => XS.iconst X251.here hx rfl (hb hby at_332) k) ?_
    show Goes p e below (T251.setTop (mkF m 333 #[.val (.int p1), .val (.int p2), .val (.int p3), .val (.int p4), .val (.ref b30), .val (.ref b109), .val (.int i), .val (.int (own_lov i)), .val (.int (own_hiv i)), .val (.int (((own_hiv i) - (own_lov i)) + (1 : Int32))), .val (.int q), .val (.int ((own_hiv (i - (1 : Int32))) + (1 : Int32))), .val (.int ((own_lov i) - (1 : Int32))), .val (.int ((((own_lov i) - (1 : Int32)) - ((own_hiv (i - (1 : Int32))) + (1 : Int32))) + (1 : Int32))), .val (.int pv), .unset, .unset, .unset] [(.int (1 : Int32)), (.int (own_hiv i))])) _
    refine Goes.of (fun t k => XS.iadd X251.here hx rfl (hb hby at_333) rfl k) ?_
    obtain ⟨_, _, ⟨T254, L254, k254, n254⟩, -, X254, ⟨Lc254, hQ254, l254, y254, z254⟩, st254⟩ := Jvm.LawKit.callS X251 hx (y := (⟨"com/example/strict_xslt/strictxslt/XmlNames", "isNameStart", "(I)Z"⟩ : MethodName)) hown (mvT hZ (wd hw 9 rfl)) (mvT hZ (wd hw 10 rfl)) (mvT hZ (wd hw 11 rfl)) (mvT hZ (wd hw 12 rfl)) (by decide) (backOf (W := 0) (rm1 l Z a0 hw [] ((own_hiv i) + (1 : Int32))  h200 n0 z201 ) hZ (wd hw 12 rfl) (wd hw 11 rfl) (by decide) (by decide)) (g := (mkF m 334 #[.val (.int p1), .val (.int p2), .val (.int p3), .val (.int p4), .val (.ref b30), .val (.ref b109), .val (.int i), .val (.int (own_lov i)), .val (.int (own_hiv i)), .val (.int (((own_hiv i) - (own_lov i)) + (1 : Int32))), .val (.int q), .val (.int ((own_hiv (i - (1 : Int32))) + (1 : Int32))), .val (.int ((own_lov i) - (1 : Int32))), .val (.int ((((own_lov i) - (1 : Int32)) - ((own_hiv (i - (1 : Int32))) + (1 : Int32))) + (1 : Int32))), .val (.int pv), .unset, .unset, .unset] [(.int ((own_hiv i) + (1 : Int32)))])) rfl (by rw [hml]; rfl) (argsL := [(.int ((own_hiv i) + (1 : Int32)))]) (rest := []) (lenOf pd_2 rfl) rfl (by show 2 * 0 + _ ≤ _; exact Nat.le_of_eq rfl) (hb hby at_334) (fun _ _ => ⟨rfl, e251, (by decide : 2 + 0 ≤ _), (by decide : 30 + 0 ≤ _)⟩)
    dsimp only [Pt.U, Pt.locs, Pt.cells, Pt.slots] at X254 l254 y254 z254 st254 hQ254
    subst l254 y254 z254
    obtain ⟨rfl, N254q, e254⟩ := hQ254
    have N254 := Fr.app N251 N254q
    refine Goes.of st254 ?_
    show Goes p e below (T254.setTop (mkF m 337 #[.val (.int p1), .val (.int p2), .val (.int p3), .val (.int p4), .val (.ref b30), .val (.ref b109), .val (.int i), .val (.int (own_lov i)), .val (.int (own_hiv i)), .val (.int (((own_hiv i) - (own_lov i)) + (1 : Int32))), .val (.int q), .val (.int ((own_hiv (i - (1 : Int32))) + (1 : Int32))), .val (.int ((own_lov i) - (1 : Int32))), .val (.int ((((own_lov i) - (1 : Int32)) - ((own_hiv (i - (1 : Int32))) + (1 : Int32))) + (1 : Int32))), .val (.int pv), .unset, .unset, .unset] [(.int (if own_in ((own_hiv i) + (1 : Int32)) then 1 else 0))])) _
    have hi255 : ¬ own_in ((own_hiv i) + (1 : Int32)) := t8
    have hd337_256 : (if own_in ((own_hiv i) + (1 : Int32)) then 1 else 0) = (0 : Int32) := by rw [if_neg hi255]
    refine Goes.of (fun t k => XS.ifNo X254.here hx rfl (hb hby at_337) rfl ((if0 _ _).trans (teq hd337_256).2) k) ?_
    show Goes p e below (T254.setTop (mkF m 340 #[.val (.int p1), .val (.int p2), .val (.int p3), .val (.int p4), .val (.ref b30), .val (.ref b109), .val (.int i), .val (.int (own_lov i)), .val (.int (own_hiv i)), .val (.int (((own_hiv i) - (own_lov i)) + (1 : Int32))), .val (.int q), .val (.int ((own_hiv (i - (1 : Int32))) + (1 : Int32))), .val (.int ((own_lov i) - (1 : Int32))), .val (.int ((((own_lov i) - (1 : Int32)) - ((own_hiv (i - (1 : Int32))) + (1 : Int32))) + (1 : Int32))), .val (.int pv), .unset, .unset, .unset] [])) _
    refine Goes.of (fun t k => XS.iconst X254.here hx rfl (hb hby at_340) k) ?_
    show Goes p e below (T254.setTop (mkF m 341 #[.val (.int p1), .val (.int p2), .val (.int p3), .val (.int p4), .val (.ref b30), .val (.ref b109), .val (.int i), .val (.int (own_lov i)), .val (.int (own_hiv i)), .val (.int (((own_hiv i) - (own_lov i)) + (1 : Int32))), .val (.int q), .val (.int ((own_hiv (i - (1 : Int32))) + (1 : Int32))), .val (.int ((own_lov i) - (1 : Int32))), .val (.int ((((own_lov i) - (1 : Int32)) - ((own_hiv (i - (1 : Int32))) + (1 : Int32))) + (1 : Int32))), .val (.int pv), .unset, .unset, .unset] [(.int (1 : Int32))])) _
    refine Goes.of (fun t k => XS.goto X254.here hx rfl (pc0 := 341) (pc' := 345) rfl (hb hby at_341) (by decide) (by decide) k) ?_
    show Goes p e below (T254.setTop (mkF m 345 #[.val (.int p1), .val (.int p2), .val (.int p3), .val (.int p4), .val (.ref b30), .val (.ref b109), .val (.int i), .val (.int (own_lov i)), .val (.int (own_hiv i)), .val (.int (((own_hiv i) - (own_lov i)) + (1 : Int32))), .val (.int q), .val (.int ((own_hiv (i - (1 : Int32))) + (1 : Int32))), .val (.int ((own_lov i) - (1 : Int32))), .val (.int ((((own_lov i) - (1 : Int32)) - ((own_hiv (i - (1 : Int32))) + (1 : Int32))) + (1 : Int32))), .val (.int pv), .unset, .unset, .unset] [(.int (1 : Int32))])) _
    refine Goes.of (fun t k => XS.istore X254.here hx rfl (hb hby at_345) rfl (l' := #[.val (.int p1), .val (.int p2), .val (.int p3), .val (.int p4), .val (.ref b30), .val (.ref b109), .val (.int i), .val (.int (own_lov i)), .val (.int (own_hiv i)), .val (.int (((own_hiv i) - (own_lov i)) + (1 : Int32))), .val (.int q), .val (.int ((own_hiv (i - (1 : Int32))) + (1 : Int32))), .val (.int ((own_lov i) - (1 : Int32))), .val (.int ((((own_lov i) - (1 : Int32)) - ((own_hiv (i - (1 : Int32))) + (1 : Int32))) + (1 : Int32))), .val (.int pv), .val (.int (1 : Int32)), .unset, .unset]) rfl k) ?_
    show Goes p e below (T254.setTop (mkF m 347 #[.val (.int p1), .val (.int p2), .val (.int p3), .val (.int p4), .val (.ref b30), .val (.ref b109), .val (.int i), .val (.int (own_lov i)), .val (.int (own_hiv i)), .val (.int (((own_hiv i) - (own_lov i)) + (1 : Int32))), .val (.int q), .val (.int ((own_hiv (i - (1 : Int32))) + (1 : Int32))), .val (.int ((own_lov i) - (1 : Int32))), .val (.int ((((own_lov i) - (1 : Int32)) - ((own_hiv (i - (1 : Int32))) + (1 : Int32))) + (1 : Int32))), .val (.int pv), .val (.int (1 : Int32)), .unset, .unset] [])) _
    refine Goes.of (fun t k => XS.iloadN X254.here hx rfl (hb hby at_347) rfl k) ?_
    show Goes p e below (T254.setTop (mkF m 348 #[.val (.int p1), .val (.int p2), .val (.int p3), .val (.int p4), .val (.ref b30), .val (.ref b109), .val (.int i), .val (.int (own_lov i)), .val (.int (own_hiv i)), .val (.int (((own_hiv i) - (own_lov i)) + (1 : Int32))), .val (.int q), .val (.int ((own_hiv (i - (1 : Int32))) + (1 : Int32))), .val (.int ((own_lov i) - (1 : Int32))), .val (.int ((((own_lov i) - (1 : Int32)) - ((own_hiv (i - (1 : Int32))) + (1 : Int32))) + (1 : Int32))), .val (.int pv), .val (.int (1 : Int32)), .unset, .unset] [(.int p4)])) _
    by_cases hc348_257 : p4 < (0 : Int32)
    · refine Goes.of (fun t k => XS.ifYes X254.here hx rfl (pc0 := 348) (pc' := 357) rfl (hb hby at_348) rfl ((if0 _ _).trans (tlt hc348_257).1) (by decide) (by decide) k) ?_
      show Goes p e below (T254.setTop (mkF m 357 #[.val (.int p1), .val (.int p2), .val (.int p3), .val (.int p4), .val (.ref b30), .val (.ref b109), .val (.int i), .val (.int (own_lov i)), .val (.int (own_hiv i)), .val (.int (((own_hiv i) - (own_lov i)) + (1 : Int32))), .val (.int q), .val (.int ((own_hiv (i - (1 : Int32))) + (1 : Int32))), .val (.int ((own_lov i) - (1 : Int32))), .val (.int ((((own_lov i) - (1 : Int32)) - ((own_hiv (i - (1 : Int32))) + (1 : Int32))) + (1 : Int32))), .val (.int pv), .val (.int (1 : Int32)), .unset, .unset] [])) _
      have hz0 : p4.toInt < 0 := by have := Int32.lt_iff_toInt_lt.mp hc348_257; simpa using this
      refine Goes.of (fun t k => XS.iconst X254.here hx rfl (hb hby at_357) k) ?_
      show Goes p e below (T254.setTop (mkF m 358 #[.val (.int p1), .val (.int p2), .val (.int p3), .val (.int p4), .val (.ref b30), .val (.ref b109), .val (.int i), .val (.int (own_lov i)), .val (.int (own_hiv i)), .val (.int (((own_hiv i) - (own_lov i)) + (1 : Int32))), .val (.int q), .val (.int ((own_hiv (i - (1 : Int32))) + (1 : Int32))), .val (.int ((own_lov i) - (1 : Int32))), .val (.int ((((own_lov i) - (1 : Int32)) - ((own_hiv (i - (1 : Int32))) + (1 : Int32))) + (1 : Int32))), .val (.int pv), .val (.int (1 : Int32)), .unset, .unset] [(.int (1 : Int32))])) _
      refine Goes.of (fun t k => XS.goto X254.here hx rfl (pc0 := 358) (pc' := 362) rfl (hb hby at_358) (by decide) (by decide) k) ?_
      show Goes p e below (T254.setTop (mkF m 362 #[.val (.int p1), .val (.int p2), .val (.int p3), .val (.int p4), .val (.ref b30), .val (.ref b109), .val (.int i), .val (.int (own_lov i)), .val (.int (own_hiv i)), .val (.int (((own_hiv i) - (own_lov i)) + (1 : Int32))), .val (.int q), .val (.int ((own_hiv (i - (1 : Int32))) + (1 : Int32))), .val (.int ((own_lov i) - (1 : Int32))), .val (.int ((((own_lov i) - (1 : Int32)) - ((own_hiv (i - (1 : Int32))) + (1 : Int32))) + (1 : Int32))), .val (.int pv), .val (.int (1 : Int32)), .unset, .unset] [(.int (1 : Int32))])) _
      refine Goes.of (fun t k => XS.istore X254.here hx rfl (hb hby at_362) rfl (l' := #[.val (.int p1), .val (.int p2), .val (.int p3), .val (.int p4), .val (.ref b30), .val (.ref b109), .val (.int i), .val (.int (own_lov i)), .val (.int (own_hiv i)), .val (.int (((own_hiv i) - (own_lov i)) + (1 : Int32))), .val (.int q), .val (.int ((own_hiv (i - (1 : Int32))) + (1 : Int32))), .val (.int ((own_lov i) - (1 : Int32))), .val (.int ((((own_lov i) - (1 : Int32)) - ((own_hiv (i - (1 : Int32))) + (1 : Int32))) + (1 : Int32))), .val (.int pv), .val (.int (1 : Int32)), .val (.int (1 : Int32)), .unset]) rfl k) ?_
      show Goes p e below (T254.setTop (mkF m 364 #[.val (.int p1), .val (.int p2), .val (.int p3), .val (.int p4), .val (.ref b30), .val (.ref b109), .val (.int i), .val (.int (own_lov i)), .val (.int (own_hiv i)), .val (.int (((own_hiv i) - (own_lov i)) + (1 : Int32))), .val (.int q), .val (.int ((own_hiv (i - (1 : Int32))) + (1 : Int32))), .val (.int ((own_lov i) - (1 : Int32))), .val (.int ((((own_lov i) - (1 : Int32)) - ((own_hiv (i - (1 : Int32))) + (1 : Int32))) + (1 : Int32))), .val (.int pv), .val (.int (1 : Int32)), .val (.int (1 : Int32)), .unset] [])) _
      refine Goes.of (fun t k => XS.iload X254.here hx rfl (hb hby at_364) rfl k) ?_
      show Goes p e below (T254.setTop (mkF m 366 #[.val (.int p1), .val (.int p2), .val (.int p3), .val (.int p4), .val (.ref b30), .val (.ref b109), .val (.int i), .val (.int (own_lov i)), .val (.int (own_hiv i)), .val (.int (((own_hiv i) - (own_lov i)) + (1 : Int32))), .val (.int q), .val (.int ((own_hiv (i - (1 : Int32))) + (1 : Int32))), .val (.int ((own_lov i) - (1 : Int32))), .val (.int ((((own_lov i) - (1 : Int32)) - ((own_hiv (i - (1 : Int32))) + (1 : Int32))) + (1 : Int32))), .val (.int pv), .val (.int (1 : Int32)), .val (.int (1 : Int32)), .unset] [(.int (1 : Int32))])) _
      refine Goes.of (fun t k => XS.ifNo X254.here hx rfl (hb hby at_366) rfl ((if0 _ _).trans (feq (by decide)).1) k) ?_
      show Goes p e below (T254.setTop (mkF m 369 #[.val (.int p1), .val (.int p2), .val (.int p3), .val (.int p4), .val (.ref b30), .val (.ref b109), .val (.int i), .val (.int (own_lov i)), .val (.int (own_hiv i)), .val (.int (((own_hiv i) - (own_lov i)) + (1 : Int32))), .val (.int q), .val (.int ((own_hiv (i - (1 : Int32))) + (1 : Int32))), .val (.int ((own_lov i) - (1 : Int32))), .val (.int ((((own_lov i) - (1 : Int32)) - ((own_hiv (i - (1 : Int32))) + (1 : Int32))) + (1 : Int32))), .val (.int pv), .val (.int (1 : Int32)), .val (.int (1 : Int32)), .unset] [])) _
      refine Goes.of (fun t k => XS.iloadN X254.here hx rfl (hb hby at_369) rfl k) ?_
      obtain ⟨_, _, ⟨T258, L258, k258, n258⟩, -, X258, ⟨Lc258, hQ258, l258, y258, z258⟩, st258⟩ := Jvm.LawKit.callS X254 hx (y := (⟨"com/example/strict_xslt/strictxslt/XmlNames", "isNameStart", "(I)Z"⟩ : MethodName)) hown (mvT hZ (wd hw 9 rfl)) (mvT hZ (wd hw 10 rfl)) (mvT hZ (wd hw 11 rfl)) (mvT hZ (wd hw 12 rfl)) (by decide) (backOf (W := 0) (rm1 l Z a0 hw [] p4  h200 n0 z201 ) hZ (wd hw 12 rfl) (wd hw 11 rfl) (by decide) (by decide)) (g := (mkF m 370 #[.val (.int p1), .val (.int p2), .val (.int p3), .val (.int p4), .val (.ref b30), .val (.ref b109), .val (.int i), .val (.int (own_lov i)), .val (.int (own_hiv i)), .val (.int (((own_hiv i) - (own_lov i)) + (1 : Int32))), .val (.int q), .val (.int ((own_hiv (i - (1 : Int32))) + (1 : Int32))), .val (.int ((own_lov i) - (1 : Int32))), .val (.int ((((own_lov i) - (1 : Int32)) - ((own_hiv (i - (1 : Int32))) + (1 : Int32))) + (1 : Int32))), .val (.int pv), .val (.int (1 : Int32)), .val (.int (1 : Int32)), .unset] [(.int p4)])) rfl (by rw [hml]; rfl) (argsL := [(.int p4)]) (rest := []) (lenOf pd_2 rfl) rfl (by show 2 * 0 + _ ≤ _; exact Nat.le_of_eq rfl) (hb hby at_370) (fun _ _ => ⟨rfl, e254, (by decide : 2 + 0 ≤ _), (by decide : 30 + 0 ≤ _)⟩)
      dsimp only [Pt.U, Pt.locs, Pt.cells, Pt.slots] at X258 l258 y258 z258 st258 hQ258
      subst l258 y258 z258
      obtain ⟨rfl, N258q, e258⟩ := hQ258
      have N258 := Fr.app N254 N258q
      refine Goes.of st258 ?_
      show Goes p e below (T258.setTop (mkF m 373 #[.val (.int p1), .val (.int p2), .val (.int p3), .val (.int p4), .val (.ref b30), .val (.ref b109), .val (.int i), .val (.int (own_lov i)), .val (.int (own_hiv i)), .val (.int (((own_hiv i) - (own_lov i)) + (1 : Int32))), .val (.int q), .val (.int ((own_hiv (i - (1 : Int32))) + (1 : Int32))), .val (.int ((own_lov i) - (1 : Int32))), .val (.int ((((own_lov i) - (1 : Int32)) - ((own_hiv (i - (1 : Int32))) + (1 : Int32))) + (1 : Int32))), .val (.int pv), .val (.int (1 : Int32)), .val (.int (1 : Int32)), .unset] [(.int (if own_in p4 then 1 else 0))])) _
      have hz : ¬ own_in p4 := fun h => by have h := (own_inI p4).mp h; omega
      have hd373_259 : (if own_in p4 then 1 else 0) = (0 : Int32) := by rw [if_neg hz]
      refine Goes.of (fun t k => XS.ifNo X258.here hx rfl (hb hby at_373) rfl ((if0 _ _).trans (teq hd373_259).2) k) ?_
      show Goes p e below (T258.setTop (mkF m 376 #[.val (.int p1), .val (.int p2), .val (.int p3), .val (.int p4), .val (.ref b30), .val (.ref b109), .val (.int i), .val (.int (own_lov i)), .val (.int (own_hiv i)), .val (.int (((own_hiv i) - (own_lov i)) + (1 : Int32))), .val (.int q), .val (.int ((own_hiv (i - (1 : Int32))) + (1 : Int32))), .val (.int ((own_lov i) - (1 : Int32))), .val (.int ((((own_lov i) - (1 : Int32)) - ((own_hiv (i - (1 : Int32))) + (1 : Int32))) + (1 : Int32))), .val (.int pv), .val (.int (1 : Int32)), .val (.int (1 : Int32)), .unset] [])) _
      refine Goes.of (fun t k => XS.iconst X258.here hx rfl (hb hby at_376) k) ?_
      show Goes p e below (T258.setTop (mkF m 377 #[.val (.int p1), .val (.int p2), .val (.int p3), .val (.int p4), .val (.ref b30), .val (.ref b109), .val (.int i), .val (.int (own_lov i)), .val (.int (own_hiv i)), .val (.int (((own_hiv i) - (own_lov i)) + (1 : Int32))), .val (.int q), .val (.int ((own_hiv (i - (1 : Int32))) + (1 : Int32))), .val (.int ((own_lov i) - (1 : Int32))), .val (.int ((((own_lov i) - (1 : Int32)) - ((own_hiv (i - (1 : Int32))) + (1 : Int32))) + (1 : Int32))), .val (.int pv), .val (.int (1 : Int32)), .val (.int (1 : Int32)), .unset] [(.int (1 : Int32))])) _
      refine Goes.of (fun t k => XS.goto X258.here hx rfl (pc0 := 377) (pc' := 381) rfl (hb hby at_377) (by decide) (by decide) k) ?_
      show Goes p e below (T258.setTop (mkF m 381 #[.val (.int p1), .val (.int p2), .val (.int p3), .val (.int p4), .val (.ref b30), .val (.ref b109), .val (.int i), .val (.int (own_lov i)), .val (.int (own_hiv i)), .val (.int (((own_hiv i) - (own_lov i)) + (1 : Int32))), .val (.int q), .val (.int ((own_hiv (i - (1 : Int32))) + (1 : Int32))), .val (.int ((own_lov i) - (1 : Int32))), .val (.int ((((own_lov i) - (1 : Int32)) - ((own_hiv (i - (1 : Int32))) + (1 : Int32))) + (1 : Int32))), .val (.int pv), .val (.int (1 : Int32)), .val (.int (1 : Int32)), .unset] [(.int (1 : Int32))])) _
      refine Goes.of (fun t k => XS.istore X258.here hx rfl (hb hby at_381) rfl (l' := #[.val (.int p1), .val (.int p2), .val (.int p3), .val (.int p4), .val (.ref b30), .val (.ref b109), .val (.int i), .val (.int (own_lov i)), .val (.int (own_hiv i)), .val (.int (((own_hiv i) - (own_lov i)) + (1 : Int32))), .val (.int q), .val (.int ((own_hiv (i - (1 : Int32))) + (1 : Int32))), .val (.int ((own_lov i) - (1 : Int32))), .val (.int ((((own_lov i) - (1 : Int32)) - ((own_hiv (i - (1 : Int32))) + (1 : Int32))) + (1 : Int32))), .val (.int pv), .val (.int (1 : Int32)), .val (.int (1 : Int32)), .val (.int (1 : Int32))]) rfl k) ?_
      show Goes p e below (T258.setTop (mkF m 383 #[.val (.int p1), .val (.int p2), .val (.int p3), .val (.int p4), .val (.ref b30), .val (.ref b109), .val (.int i), .val (.int (own_lov i)), .val (.int (own_hiv i)), .val (.int (((own_hiv i) - (own_lov i)) + (1 : Int32))), .val (.int q), .val (.int ((own_hiv (i - (1 : Int32))) + (1 : Int32))), .val (.int ((own_lov i) - (1 : Int32))), .val (.int ((((own_lov i) - (1 : Int32)) - ((own_hiv (i - (1 : Int32))) + (1 : Int32))) + (1 : Int32))), .val (.int pv), .val (.int (1 : Int32)), .val (.int (1 : Int32)), .val (.int (1 : Int32))] [])) _
      refine Goes.of (fun t k => XS.iload X258.here hx rfl (hb hby at_383) rfl k) ?_
      show Goes p e below (T258.setTop (mkF m 385 #[.val (.int p1), .val (.int p2), .val (.int p3), .val (.int p4), .val (.ref b30), .val (.ref b109), .val (.int i), .val (.int (own_lov i)), .val (.int (own_hiv i)), .val (.int (((own_hiv i) - (own_lov i)) + (1 : Int32))), .val (.int q), .val (.int ((own_hiv (i - (1 : Int32))) + (1 : Int32))), .val (.int ((own_lov i) - (1 : Int32))), .val (.int ((((own_lov i) - (1 : Int32)) - ((own_hiv (i - (1 : Int32))) + (1 : Int32))) + (1 : Int32))), .val (.int pv), .val (.int (1 : Int32)), .val (.int (1 : Int32)), .val (.int (1 : Int32))] [(.int (1 : Int32))])) _
      refine Goes.of (fun t k => XS.ifNo X258.here hx rfl (hb hby at_385) rfl ((if0 _ _).trans (feq (by decide)).1) k) ?_
      show Goes p e below (T258.setTop (mkF m 388 #[.val (.int p1), .val (.int p2), .val (.int p3), .val (.int p4), .val (.ref b30), .val (.ref b109), .val (.int i), .val (.int (own_lov i)), .val (.int (own_hiv i)), .val (.int (((own_hiv i) - (own_lov i)) + (1 : Int32))), .val (.int q), .val (.int ((own_hiv (i - (1 : Int32))) + (1 : Int32))), .val (.int ((own_lov i) - (1 : Int32))), .val (.int ((((own_lov i) - (1 : Int32)) - ((own_hiv (i - (1 : Int32))) + (1 : Int32))) + (1 : Int32))), .val (.int pv), .val (.int (1 : Int32)), .val (.int (1 : Int32)), .val (.int (1 : Int32))] [])) _
      refine Goes.of (fun t k => XS.iload X258.here hx rfl (hb hby at_388) rfl k) ?_
      show Goes p e below (T258.setTop (mkF m 390 #[.val (.int p1), .val (.int p2), .val (.int p3), .val (.int p4), .val (.ref b30), .val (.ref b109), .val (.int i), .val (.int (own_lov i)), .val (.int (own_hiv i)), .val (.int (((own_hiv i) - (own_lov i)) + (1 : Int32))), .val (.int q), .val (.int ((own_hiv (i - (1 : Int32))) + (1 : Int32))), .val (.int ((own_lov i) - (1 : Int32))), .val (.int ((((own_lov i) - (1 : Int32)) - ((own_hiv (i - (1 : Int32))) + (1 : Int32))) + (1 : Int32))), .val (.int pv), .val (.int (1 : Int32)), .val (.int (1 : Int32)), .val (.int (1 : Int32))] [(.int (1 : Int32))])) _
      refine Goes.of (fun t k => XS.ifNo X258.here hx rfl (hb hby at_390) rfl ((if0 _ _).trans (feq (by decide)).1) k) ?_
      show Goes p e below (T258.setTop (mkF m 393 #[.val (.int p1), .val (.int p2), .val (.int p3), .val (.int p4), .val (.ref b30), .val (.ref b109), .val (.int i), .val (.int (own_lov i)), .val (.int (own_hiv i)), .val (.int (((own_hiv i) - (own_lov i)) + (1 : Int32))), .val (.int q), .val (.int ((own_hiv (i - (1 : Int32))) + (1 : Int32))), .val (.int ((own_lov i) - (1 : Int32))), .val (.int ((((own_lov i) - (1 : Int32)) - ((own_hiv (i - (1 : Int32))) + (1 : Int32))) + (1 : Int32))), .val (.int pv), .val (.int (1 : Int32)), .val (.int (1 : Int32)), .val (.int (1 : Int32))] [])) _
      refine Goes.of (fun t k => XS.iconst X258.here hx rfl (hb hby at_393) k) ?_
      show Goes p e below (T258.setTop (mkF m 394 #[.val (.int p1), .val (.int p2), .val (.int p3), .val (.int p4), .val (.ref b30), .val (.ref b109), .val (.int i), .val (.int (own_lov i)), .val (.int (own_hiv i)), .val (.int (((own_hiv i) - (own_lov i)) + (1 : Int32))), .val (.int q), .val (.int ((own_hiv (i - (1 : Int32))) + (1 : Int32))), .val (.int ((own_lov i) - (1 : Int32))), .val (.int ((((own_lov i) - (1 : Int32)) - ((own_hiv (i - (1 : Int32))) + (1 : Int32))) + (1 : Int32))), .val (.int pv), .val (.int (1 : Int32)), .val (.int (1 : Int32)), .val (.int (1 : Int32))] [(.int (1 : Int32))])) _
      refine Goes.of (fun t k => XS.goto X258.here hx rfl (pc0 := 394) (pc' := 398) rfl (hb hby at_394) (by decide) (by decide) k) ?_
      show Goes p e below (T258.setTop (mkF m 398 #[.val (.int p1), .val (.int p2), .val (.int p3), .val (.int p4), .val (.ref b30), .val (.ref b109), .val (.int i), .val (.int (own_lov i)), .val (.int (own_hiv i)), .val (.int (((own_hiv i) - (own_lov i)) + (1 : Int32))), .val (.int q), .val (.int ((own_hiv (i - (1 : Int32))) + (1 : Int32))), .val (.int ((own_lov i) - (1 : Int32))), .val (.int ((((own_lov i) - (1 : Int32)) - ((own_hiv (i - (1 : Int32))) + (1 : Int32))) + (1 : Int32))), .val (.int pv), .val (.int (1 : Int32)), .val (.int (1 : Int32)), .val (.int (1 : Int32))] [(.int (1 : Int32))])) _
      exact Goes.retN (t := .boolean) X258 hx Bd.returns (by simp) hlocks (hb hby at_398) (⟨rfl, N258⟩) (by decide) (by decide)
    · refine Goes.of (fun t k => XS.ifNo X254.here hx rfl (hb hby at_348) rfl ((if0 _ _).trans (flt hc348_257).1) k) ?_
      show Goes p e below (T254.setTop (mkF m 351 #[.val (.int p1), .val (.int p2), .val (.int p3), .val (.int p4), .val (.ref b30), .val (.ref b109), .val (.int i), .val (.int (own_lov i)), .val (.int (own_hiv i)), .val (.int (((own_hiv i) - (own_lov i)) + (1 : Int32))), .val (.int q), .val (.int ((own_hiv (i - (1 : Int32))) + (1 : Int32))), .val (.int ((own_lov i) - (1 : Int32))), .val (.int ((((own_lov i) - (1 : Int32)) - ((own_hiv (i - (1 : Int32))) + (1 : Int32))) + (1 : Int32))), .val (.int pv), .val (.int (1 : Int32)), .unset, .unset] [])) _
      refine Goes.of (fun t k => XS.iloadN X254.here hx rfl (hb hby at_351) rfl k) ?_
      show Goes p e below (T254.setTop (mkF m 352 #[.val (.int p1), .val (.int p2), .val (.int p3), .val (.int p4), .val (.ref b30), .val (.ref b109), .val (.int i), .val (.int (own_lov i)), .val (.int (own_hiv i)), .val (.int (((own_hiv i) - (own_lov i)) + (1 : Int32))), .val (.int q), .val (.int ((own_hiv (i - (1 : Int32))) + (1 : Int32))), .val (.int ((own_lov i) - (1 : Int32))), .val (.int ((((own_lov i) - (1 : Int32)) - ((own_hiv (i - (1 : Int32))) + (1 : Int32))) + (1 : Int32))), .val (.int pv), .val (.int (1 : Int32)), .unset, .unset] [(.int p4)])) _
      refine Goes.of (fun t k => X254.ldcInt hx hown (mvT hZ (wd hw 7 rfl)) (g := (mkF m 352 #[.val (.int p1), .val (.int p2), .val (.int p3), .val (.int p4), .val (.ref b30), .val (.ref b109), .val (.int i), .val (.int (own_lov i)), .val (.int (own_hiv i)), .val (.int (((own_hiv i) - (own_lov i)) + (1 : Int32))), .val (.int q), .val (.int ((own_hiv (i - (1 : Int32))) + (1 : Int32))), .val (.int ((own_lov i) - (1 : Int32))), .val (.int ((((own_lov i) - (1 : Int32)) - ((own_hiv (i - (1 : Int32))) + (1 : Int32))) + (1 : Int32))), .val (.int pv), .val (.int (1 : Int32)), .unset, .unset] [(.int p4)])) rfl (hb hby at_352) _ k) ?_
      show Goes p e below (T254.setTop (mkF m 354 #[.val (.int p1), .val (.int p2), .val (.int p3), .val (.int p4), .val (.ref b30), .val (.ref b109), .val (.int i), .val (.int (own_lov i)), .val (.int (own_hiv i)), .val (.int (((own_hiv i) - (own_lov i)) + (1 : Int32))), .val (.int q), .val (.int ((own_hiv (i - (1 : Int32))) + (1 : Int32))), .val (.int ((own_lov i) - (1 : Int32))), .val (.int ((((own_lov i) - (1 : Int32)) - ((own_hiv (i - (1 : Int32))) + (1 : Int32))) + (1 : Int32))), .val (.int pv), .val (.int (1 : Int32)), .unset, .unset] [(.int (983039 : Int32)), (.int p4)])) _
      by_cases hc354_260 : (983039 : Int32) < p4
      · refine Goes.of (fun t k => XS.icmpNo X254.here hx rfl (hb hby at_354) rfl (tlt hc354_260).2.2.2 k) ?_
        show Goes p e below (T254.setTop (mkF m 357 #[.val (.int p1), .val (.int p2), .val (.int p3), .val (.int p4), .val (.ref b30), .val (.ref b109), .val (.int i), .val (.int (own_lov i)), .val (.int (own_hiv i)), .val (.int (((own_hiv i) - (own_lov i)) + (1 : Int32))), .val (.int q), .val (.int ((own_hiv (i - (1 : Int32))) + (1 : Int32))), .val (.int ((own_lov i) - (1 : Int32))), .val (.int ((((own_lov i) - (1 : Int32)) - ((own_hiv (i - (1 : Int32))) + (1 : Int32))) + (1 : Int32))), .val (.int pv), .val (.int (1 : Int32)), .unset, .unset] [])) _
        have hz0 : 983039 < p4.toInt := by have := Int32.lt_iff_toInt_lt.mp hc354_260; have e2 : (983039 : Int32).toInt = 983039 := (by decide); omega
        refine Goes.of (fun t k => XS.iconst X254.here hx rfl (hb hby at_357) k) ?_
        show Goes p e below (T254.setTop (mkF m 358 #[.val (.int p1), .val (.int p2), .val (.int p3), .val (.int p4), .val (.ref b30), .val (.ref b109), .val (.int i), .val (.int (own_lov i)), .val (.int (own_hiv i)), .val (.int (((own_hiv i) - (own_lov i)) + (1 : Int32))), .val (.int q), .val (.int ((own_hiv (i - (1 : Int32))) + (1 : Int32))), .val (.int ((own_lov i) - (1 : Int32))), .val (.int ((((own_lov i) - (1 : Int32)) - ((own_hiv (i - (1 : Int32))) + (1 : Int32))) + (1 : Int32))), .val (.int pv), .val (.int (1 : Int32)), .unset, .unset] [(.int (1 : Int32))])) _
        refine Goes.of (fun t k => XS.goto X254.here hx rfl (pc0 := 358) (pc' := 362) rfl (hb hby at_358) (by decide) (by decide) k) ?_
        show Goes p e below (T254.setTop (mkF m 362 #[.val (.int p1), .val (.int p2), .val (.int p3), .val (.int p4), .val (.ref b30), .val (.ref b109), .val (.int i), .val (.int (own_lov i)), .val (.int (own_hiv i)), .val (.int (((own_hiv i) - (own_lov i)) + (1 : Int32))), .val (.int q), .val (.int ((own_hiv (i - (1 : Int32))) + (1 : Int32))), .val (.int ((own_lov i) - (1 : Int32))), .val (.int ((((own_lov i) - (1 : Int32)) - ((own_hiv (i - (1 : Int32))) + (1 : Int32))) + (1 : Int32))), .val (.int pv), .val (.int (1 : Int32)), .unset, .unset] [(.int (1 : Int32))])) _
        refine Goes.of (fun t k => XS.istore X254.here hx rfl (hb hby at_362) rfl (l' := #[.val (.int p1), .val (.int p2), .val (.int p3), .val (.int p4), .val (.ref b30), .val (.ref b109), .val (.int i), .val (.int (own_lov i)), .val (.int (own_hiv i)), .val (.int (((own_hiv i) - (own_lov i)) + (1 : Int32))), .val (.int q), .val (.int ((own_hiv (i - (1 : Int32))) + (1 : Int32))), .val (.int ((own_lov i) - (1 : Int32))), .val (.int ((((own_lov i) - (1 : Int32)) - ((own_hiv (i - (1 : Int32))) + (1 : Int32))) + (1 : Int32))), .val (.int pv), .val (.int (1 : Int32)), .val (.int (1 : Int32)), .unset]) rfl k) ?_
        show Goes p e below (T254.setTop (mkF m 364 #[.val (.int p1), .val (.int p2), .val (.int p3), .val (.int p4), .val (.ref b30), .val (.ref b109), .val (.int i), .val (.int (own_lov i)), .val (.int (own_hiv i)), .val (.int (((own_hiv i) - (own_lov i)) + (1 : Int32))), .val (.int q), .val (.int ((own_hiv (i - (1 : Int32))) + (1 : Int32))), .val (.int ((own_lov i) - (1 : Int32))), .val (.int ((((own_lov i) - (1 : Int32)) - ((own_hiv (i - (1 : Int32))) + (1 : Int32))) + (1 : Int32))), .val (.int pv), .val (.int (1 : Int32)), .val (.int (1 : Int32)), .unset] [])) _
        refine Goes.of (fun t k => XS.iload X254.here hx rfl (hb hby at_364) rfl k) ?_
        show Goes p e below (T254.setTop (mkF m 366 #[.val (.int p1), .val (.int p2), .val (.int p3), .val (.int p4), .val (.ref b30), .val (.ref b109), .val (.int i), .val (.int (own_lov i)), .val (.int (own_hiv i)), .val (.int (((own_hiv i) - (own_lov i)) + (1 : Int32))), .val (.int q), .val (.int ((own_hiv (i - (1 : Int32))) + (1 : Int32))), .val (.int ((own_lov i) - (1 : Int32))), .val (.int ((((own_lov i) - (1 : Int32)) - ((own_hiv (i - (1 : Int32))) + (1 : Int32))) + (1 : Int32))), .val (.int pv), .val (.int (1 : Int32)), .val (.int (1 : Int32)), .unset] [(.int (1 : Int32))])) _
        refine Goes.of (fun t k => XS.ifNo X254.here hx rfl (hb hby at_366) rfl ((if0 _ _).trans (feq (by decide)).1) k) ?_
        show Goes p e below (T254.setTop (mkF m 369 #[.val (.int p1), .val (.int p2), .val (.int p3), .val (.int p4), .val (.ref b30), .val (.ref b109), .val (.int i), .val (.int (own_lov i)), .val (.int (own_hiv i)), .val (.int (((own_hiv i) - (own_lov i)) + (1 : Int32))), .val (.int q), .val (.int ((own_hiv (i - (1 : Int32))) + (1 : Int32))), .val (.int ((own_lov i) - (1 : Int32))), .val (.int ((((own_lov i) - (1 : Int32)) - ((own_hiv (i - (1 : Int32))) + (1 : Int32))) + (1 : Int32))), .val (.int pv), .val (.int (1 : Int32)), .val (.int (1 : Int32)), .unset] [])) _
        refine Goes.of (fun t k => XS.iloadN X254.here hx rfl (hb hby at_369) rfl k) ?_
        obtain ⟨_, _, ⟨T261, L261, k261, n261⟩, -, X261, ⟨Lc261, hQ261, l261, y261, z261⟩, st261⟩ := Jvm.LawKit.callS X254 hx (y := (⟨"com/example/strict_xslt/strictxslt/XmlNames", "isNameStart", "(I)Z"⟩ : MethodName)) hown (mvT hZ (wd hw 9 rfl)) (mvT hZ (wd hw 10 rfl)) (mvT hZ (wd hw 11 rfl)) (mvT hZ (wd hw 12 rfl)) (by decide) (backOf (W := 0) (rm1 l Z a0 hw [] p4  h200 n0 z201 ) hZ (wd hw 12 rfl) (wd hw 11 rfl) (by decide) (by decide)) (g := (mkF m 370 #[.val (.int p1), .val (.int p2), .val (.int p3), .val (.int p4), .val (.ref b30), .val (.ref b109), .val (.int i), .val (.int (own_lov i)), .val (.int (own_hiv i)), .val (.int (((own_hiv i) - (own_lov i)) + (1 : Int32))), .val (.int q), .val (.int ((own_hiv (i - (1 : Int32))) + (1 : Int32))), .val (.int ((own_lov i) - (1 : Int32))), .val (.int ((((own_lov i) - (1 : Int32)) - ((own_hiv (i - (1 : Int32))) + (1 : Int32))) + (1 : Int32))), .val (.int pv), .val (.int (1 : Int32)), .val (.int (1 : Int32)), .unset] [(.int p4)])) rfl (by rw [hml]; rfl) (argsL := [(.int p4)]) (rest := []) (lenOf pd_2 rfl) rfl (by show 2 * 0 + _ ≤ _; exact Nat.le_of_eq rfl) (hb hby at_370) (fun _ _ => ⟨rfl, e254, (by decide : 2 + 0 ≤ _), (by decide : 30 + 0 ≤ _)⟩)
        dsimp only [Pt.U, Pt.locs, Pt.cells, Pt.slots] at X261 l261 y261 z261 st261 hQ261
        subst l261 y261 z261
        obtain ⟨rfl, N261q, e261⟩ := hQ261
        have N261 := Fr.app N254 N261q
        refine Goes.of st261 ?_
        show Goes p e below (T261.setTop (mkF m 373 #[.val (.int p1), .val (.int p2), .val (.int p3), .val (.int p4), .val (.ref b30), .val (.ref b109), .val (.int i), .val (.int (own_lov i)), .val (.int (own_hiv i)), .val (.int (((own_hiv i) - (own_lov i)) + (1 : Int32))), .val (.int q), .val (.int ((own_hiv (i - (1 : Int32))) + (1 : Int32))), .val (.int ((own_lov i) - (1 : Int32))), .val (.int ((((own_lov i) - (1 : Int32)) - ((own_hiv (i - (1 : Int32))) + (1 : Int32))) + (1 : Int32))), .val (.int pv), .val (.int (1 : Int32)), .val (.int (1 : Int32)), .unset] [(.int (if own_in p4 then 1 else 0))])) _
        have hz : ¬ own_in p4 := fun h => by have h := (own_inI p4).mp h; omega
        have hd373_262 : (if own_in p4 then 1 else 0) = (0 : Int32) := by rw [if_neg hz]
        refine Goes.of (fun t k => XS.ifNo X261.here hx rfl (hb hby at_373) rfl ((if0 _ _).trans (teq hd373_262).2) k) ?_
        show Goes p e below (T261.setTop (mkF m 376 #[.val (.int p1), .val (.int p2), .val (.int p3), .val (.int p4), .val (.ref b30), .val (.ref b109), .val (.int i), .val (.int (own_lov i)), .val (.int (own_hiv i)), .val (.int (((own_hiv i) - (own_lov i)) + (1 : Int32))), .val (.int q), .val (.int ((own_hiv (i - (1 : Int32))) + (1 : Int32))), .val (.int ((own_lov i) - (1 : Int32))), .val (.int ((((own_lov i) - (1 : Int32)) - ((own_hiv (i - (1 : Int32))) + (1 : Int32))) + (1 : Int32))), .val (.int pv), .val (.int (1 : Int32)), .val (.int (1 : Int32)), .unset] [])) _
        refine Goes.of (fun t k => XS.iconst X261.here hx rfl (hb hby at_376) k) ?_
        show Goes p e below (T261.setTop (mkF m 377 #[.val (.int p1), .val (.int p2), .val (.int p3), .val (.int p4), .val (.ref b30), .val (.ref b109), .val (.int i), .val (.int (own_lov i)), .val (.int (own_hiv i)), .val (.int (((own_hiv i) - (own_lov i)) + (1 : Int32))), .val (.int q), .val (.int ((own_hiv (i - (1 : Int32))) + (1 : Int32))), .val (.int ((own_lov i) - (1 : Int32))), .val (.int ((((own_lov i) - (1 : Int32)) - ((own_hiv (i - (1 : Int32))) + (1 : Int32))) + (1 : Int32))), .val (.int pv), .val (.int (1 : Int32)), .val (.int (1 : Int32)), .unset] [(.int (1 : Int32))])) _
        refine Goes.of (fun t k => XS.goto X261.here hx rfl (pc0 := 377) (pc' := 381) rfl (hb hby at_377) (by decide) (by decide) k) ?_
        show Goes p e below (T261.setTop (mkF m 381 #[.val (.int p1), .val (.int p2), .val (.int p3), .val (.int p4), .val (.ref b30), .val (.ref b109), .val (.int i), .val (.int (own_lov i)), .val (.int (own_hiv i)), .val (.int (((own_hiv i) - (own_lov i)) + (1 : Int32))), .val (.int q), .val (.int ((own_hiv (i - (1 : Int32))) + (1 : Int32))), .val (.int ((own_lov i) - (1 : Int32))), .val (.int ((((own_lov i) - (1 : Int32)) - ((own_hiv (i - (1 : Int32))) + (1 : Int32))) + (1 : Int32))), .val (.int pv), .val (.int (1 : Int32)), .val (.int (1 : Int32)), .unset] [(.int (1 : Int32))])) _
        refine Goes.of (fun t k => XS.istore X261.here hx rfl (hb hby at_381) rfl (l' := #[.val (.int p1), .val (.int p2), .val (.int p3), .val (.int p4), .val (.ref b30), .val (.ref b109), .val (.int i), .val (.int (own_lov i)), .val (.int (own_hiv i)), .val (.int (((own_hiv i) - (own_lov i)) + (1 : Int32))), .val (.int q), .val (.int ((own_hiv (i - (1 : Int32))) + (1 : Int32))), .val (.int ((own_lov i) - (1 : Int32))), .val (.int ((((own_lov i) - (1 : Int32)) - ((own_hiv (i - (1 : Int32))) + (1 : Int32))) + (1 : Int32))), .val (.int pv), .val (.int (1 : Int32)), .val (.int (1 : Int32)), .val (.int (1 : Int32))]) rfl k) ?_
        show Goes p e below (T261.setTop (mkF m 383 #[.val (.int p1), .val (.int p2), .val (.int p3), .val (.int p4), .val (.ref b30), .val (.ref b109), .val (.int i), .val (.int (own_lov i)), .val (.int (own_hiv i)), .val (.int (((own_hiv i) - (own_lov i)) + (1 : Int32))), .val (.int q), .val (.int ((own_hiv (i - (1 : Int32))) + (1 : Int32))), .val (.int ((own_lov i) - (1 : Int32))), .val (.int ((((own_lov i) - (1 : Int32)) - ((own_hiv (i - (1 : Int32))) + (1 : Int32))) + (1 : Int32))), .val (.int pv), .val (.int (1 : Int32)), .val (.int (1 : Int32)), .val (.int (1 : Int32))] [])) _
        refine Goes.of (fun t k => XS.iload X261.here hx rfl (hb hby at_383) rfl k) ?_
        show Goes p e below (T261.setTop (mkF m 385 #[.val (.int p1), .val (.int p2), .val (.int p3), .val (.int p4), .val (.ref b30), .val (.ref b109), .val (.int i), .val (.int (own_lov i)), .val (.int (own_hiv i)), .val (.int (((own_hiv i) - (own_lov i)) + (1 : Int32))), .val (.int q), .val (.int ((own_hiv (i - (1 : Int32))) + (1 : Int32))), .val (.int ((own_lov i) - (1 : Int32))), .val (.int ((((own_lov i) - (1 : Int32)) - ((own_hiv (i - (1 : Int32))) + (1 : Int32))) + (1 : Int32))), .val (.int pv), .val (.int (1 : Int32)), .val (.int (1 : Int32)), .val (.int (1 : Int32))] [(.int (1 : Int32))])) _
        refine Goes.of (fun t k => XS.ifNo X261.here hx rfl (hb hby at_385) rfl ((if0 _ _).trans (feq (by decide)).1) k) ?_
        show Goes p e below (T261.setTop (mkF m 388 #[.val (.int p1), .val (.int p2), .val (.int p3), .val (.int p4), .val (.ref b30), .val (.ref b109), .val (.int i), .val (.int (own_lov i)), .val (.int (own_hiv i)), .val (.int (((own_hiv i) - (own_lov i)) + (1 : Int32))), .val (.int q), .val (.int ((own_hiv (i - (1 : Int32))) + (1 : Int32))), .val (.int ((own_lov i) - (1 : Int32))), .val (.int ((((own_lov i) - (1 : Int32)) - ((own_hiv (i - (1 : Int32))) + (1 : Int32))) + (1 : Int32))), .val (.int pv), .val (.int (1 : Int32)), .val (.int (1 : Int32)), .val (.int (1 : Int32))] [])) _
        refine Goes.of (fun t k => XS.iload X261.here hx rfl (hb hby at_388) rfl k) ?_
        show Goes p e below (T261.setTop (mkF m 390 #[.val (.int p1), .val (.int p2), .val (.int p3), .val (.int p4), .val (.ref b30), .val (.ref b109), .val (.int i), .val (.int (own_lov i)), .val (.int (own_hiv i)), .val (.int (((own_hiv i) - (own_lov i)) + (1 : Int32))), .val (.int q), .val (.int ((own_hiv (i - (1 : Int32))) + (1 : Int32))), .val (.int ((own_lov i) - (1 : Int32))), .val (.int ((((own_lov i) - (1 : Int32)) - ((own_hiv (i - (1 : Int32))) + (1 : Int32))) + (1 : Int32))), .val (.int pv), .val (.int (1 : Int32)), .val (.int (1 : Int32)), .val (.int (1 : Int32))] [(.int (1 : Int32))])) _
        refine Goes.of (fun t k => XS.ifNo X261.here hx rfl (hb hby at_390) rfl ((if0 _ _).trans (feq (by decide)).1) k) ?_
        show Goes p e below (T261.setTop (mkF m 393 #[.val (.int p1), .val (.int p2), .val (.int p3), .val (.int p4), .val (.ref b30), .val (.ref b109), .val (.int i), .val (.int (own_lov i)), .val (.int (own_hiv i)), .val (.int (((own_hiv i) - (own_lov i)) + (1 : Int32))), .val (.int q), .val (.int ((own_hiv (i - (1 : Int32))) + (1 : Int32))), .val (.int ((own_lov i) - (1 : Int32))), .val (.int ((((own_lov i) - (1 : Int32)) - ((own_hiv (i - (1 : Int32))) + (1 : Int32))) + (1 : Int32))), .val (.int pv), .val (.int (1 : Int32)), .val (.int (1 : Int32)), .val (.int (1 : Int32))] [])) _
        refine Goes.of (fun t k => XS.iconst X261.here hx rfl (hb hby at_393) k) ?_
        show Goes p e below (T261.setTop (mkF m 394 #[.val (.int p1), .val (.int p2), .val (.int p3), .val (.int p4), .val (.ref b30), .val (.ref b109), .val (.int i), .val (.int (own_lov i)), .val (.int (own_hiv i)), .val (.int (((own_hiv i) - (own_lov i)) + (1 : Int32))), .val (.int q), .val (.int ((own_hiv (i - (1 : Int32))) + (1 : Int32))), .val (.int ((own_lov i) - (1 : Int32))), .val (.int ((((own_lov i) - (1 : Int32)) - ((own_hiv (i - (1 : Int32))) + (1 : Int32))) + (1 : Int32))), .val (.int pv), .val (.int (1 : Int32)), .val (.int (1 : Int32)), .val (.int (1 : Int32))] [(.int (1 : Int32))])) _
        refine Goes.of (fun t k => XS.goto X261.here hx rfl (pc0 := 394) (pc' := 398) rfl (hb hby at_394) (by decide) (by decide) k) ?_
        show Goes p e below (T261.setTop (mkF m 398 #[.val (.int p1), .val (.int p2), .val (.int p3), .val (.int p4), .val (.ref b30), .val (.ref b109), .val (.int i), .val (.int (own_lov i)), .val (.int (own_hiv i)), .val (.int (((own_hiv i) - (own_lov i)) + (1 : Int32))), .val (.int q), .val (.int ((own_hiv (i - (1 : Int32))) + (1 : Int32))), .val (.int ((own_lov i) - (1 : Int32))), .val (.int ((((own_lov i) - (1 : Int32)) - ((own_hiv (i - (1 : Int32))) + (1 : Int32))) + (1 : Int32))), .val (.int pv), .val (.int (1 : Int32)), .val (.int (1 : Int32)), .val (.int (1 : Int32))] [(.int (1 : Int32))])) _
        exact Goes.retN (t := .boolean) X261 hx Bd.returns (by simp) hlocks (hb hby at_398) (⟨rfl, N261⟩) (by decide) (by decide)
      · refine Goes.of (fun t k => XS.icmpYes X254.here hx rfl (pc0 := 354) (pc' := 361) rfl (hb hby at_354) rfl (flt hc354_260).2.2.2 (by decide) (by decide) k) ?_
        show Goes p e below (T254.setTop (mkF m 361 #[.val (.int p1), .val (.int p2), .val (.int p3), .val (.int p4), .val (.ref b30), .val (.ref b109), .val (.int i), .val (.int (own_lov i)), .val (.int (own_hiv i)), .val (.int (((own_hiv i) - (own_lov i)) + (1 : Int32))), .val (.int q), .val (.int ((own_hiv (i - (1 : Int32))) + (1 : Int32))), .val (.int ((own_lov i) - (1 : Int32))), .val (.int ((((own_lov i) - (1 : Int32)) - ((own_hiv (i - (1 : Int32))) + (1 : Int32))) + (1 : Int32))), .val (.int pv), .val (.int (1 : Int32)), .unset, .unset] [])) _
        refine Goes.of (fun t k => XS.iconst X254.here hx rfl (hb hby at_361) k) ?_
        show Goes p e below (T254.setTop (mkF m 362 #[.val (.int p1), .val (.int p2), .val (.int p3), .val (.int p4), .val (.ref b30), .val (.ref b109), .val (.int i), .val (.int (own_lov i)), .val (.int (own_hiv i)), .val (.int (((own_hiv i) - (own_lov i)) + (1 : Int32))), .val (.int q), .val (.int ((own_hiv (i - (1 : Int32))) + (1 : Int32))), .val (.int ((own_lov i) - (1 : Int32))), .val (.int ((((own_lov i) - (1 : Int32)) - ((own_hiv (i - (1 : Int32))) + (1 : Int32))) + (1 : Int32))), .val (.int pv), .val (.int (1 : Int32)), .unset, .unset] [(.int (0 : Int32))])) _
        refine Goes.of (fun t k => XS.istore X254.here hx rfl (hb hby at_362) rfl (l' := #[.val (.int p1), .val (.int p2), .val (.int p3), .val (.int p4), .val (.ref b30), .val (.ref b109), .val (.int i), .val (.int (own_lov i)), .val (.int (own_hiv i)), .val (.int (((own_hiv i) - (own_lov i)) + (1 : Int32))), .val (.int q), .val (.int ((own_hiv (i - (1 : Int32))) + (1 : Int32))), .val (.int ((own_lov i) - (1 : Int32))), .val (.int ((((own_lov i) - (1 : Int32)) - ((own_hiv (i - (1 : Int32))) + (1 : Int32))) + (1 : Int32))), .val (.int pv), .val (.int (1 : Int32)), .val (.int (0 : Int32)), .unset]) rfl k) ?_
        show Goes p e below (T254.setTop (mkF m 364 #[.val (.int p1), .val (.int p2), .val (.int p3), .val (.int p4), .val (.ref b30), .val (.ref b109), .val (.int i), .val (.int (own_lov i)), .val (.int (own_hiv i)), .val (.int (((own_hiv i) - (own_lov i)) + (1 : Int32))), .val (.int q), .val (.int ((own_hiv (i - (1 : Int32))) + (1 : Int32))), .val (.int ((own_lov i) - (1 : Int32))), .val (.int ((((own_lov i) - (1 : Int32)) - ((own_hiv (i - (1 : Int32))) + (1 : Int32))) + (1 : Int32))), .val (.int pv), .val (.int (1 : Int32)), .val (.int (0 : Int32)), .unset] [])) _
        refine Goes.of (fun t k => XS.iload X254.here hx rfl (hb hby at_364) rfl k) ?_
        show Goes p e below (T254.setTop (mkF m 366 #[.val (.int p1), .val (.int p2), .val (.int p3), .val (.int p4), .val (.ref b30), .val (.ref b109), .val (.int i), .val (.int (own_lov i)), .val (.int (own_hiv i)), .val (.int (((own_hiv i) - (own_lov i)) + (1 : Int32))), .val (.int q), .val (.int ((own_hiv (i - (1 : Int32))) + (1 : Int32))), .val (.int ((own_lov i) - (1 : Int32))), .val (.int ((((own_lov i) - (1 : Int32)) - ((own_hiv (i - (1 : Int32))) + (1 : Int32))) + (1 : Int32))), .val (.int pv), .val (.int (1 : Int32)), .val (.int (0 : Int32)), .unset] [(.int (0 : Int32))])) _
        refine Goes.of (fun t k => XS.ifYes X254.here hx rfl (pc0 := 366) (pc' := 376) rfl (hb hby at_366) rfl ((if0 _ _).trans (teq (by decide)).1) (by decide) (by decide) k) ?_
        show Goes p e below (T254.setTop (mkF m 376 #[.val (.int p1), .val (.int p2), .val (.int p3), .val (.int p4), .val (.ref b30), .val (.ref b109), .val (.int i), .val (.int (own_lov i)), .val (.int (own_hiv i)), .val (.int (((own_hiv i) - (own_lov i)) + (1 : Int32))), .val (.int q), .val (.int ((own_hiv (i - (1 : Int32))) + (1 : Int32))), .val (.int ((own_lov i) - (1 : Int32))), .val (.int ((((own_lov i) - (1 : Int32)) - ((own_hiv (i - (1 : Int32))) + (1 : Int32))) + (1 : Int32))), .val (.int pv), .val (.int (1 : Int32)), .val (.int (0 : Int32)), .unset] [])) _
        refine Goes.of (fun t k => XS.iconst X254.here hx rfl (hb hby at_376) k) ?_
        show Goes p e below (T254.setTop (mkF m 377 #[.val (.int p1), .val (.int p2), .val (.int p3), .val (.int p4), .val (.ref b30), .val (.ref b109), .val (.int i), .val (.int (own_lov i)), .val (.int (own_hiv i)), .val (.int (((own_hiv i) - (own_lov i)) + (1 : Int32))), .val (.int q), .val (.int ((own_hiv (i - (1 : Int32))) + (1 : Int32))), .val (.int ((own_lov i) - (1 : Int32))), .val (.int ((((own_lov i) - (1 : Int32)) - ((own_hiv (i - (1 : Int32))) + (1 : Int32))) + (1 : Int32))), .val (.int pv), .val (.int (1 : Int32)), .val (.int (0 : Int32)), .unset] [(.int (1 : Int32))])) _
        refine Goes.of (fun t k => XS.goto X254.here hx rfl (pc0 := 377) (pc' := 381) rfl (hb hby at_377) (by decide) (by decide) k) ?_
        show Goes p e below (T254.setTop (mkF m 381 #[.val (.int p1), .val (.int p2), .val (.int p3), .val (.int p4), .val (.ref b30), .val (.ref b109), .val (.int i), .val (.int (own_lov i)), .val (.int (own_hiv i)), .val (.int (((own_hiv i) - (own_lov i)) + (1 : Int32))), .val (.int q), .val (.int ((own_hiv (i - (1 : Int32))) + (1 : Int32))), .val (.int ((own_lov i) - (1 : Int32))), .val (.int ((((own_lov i) - (1 : Int32)) - ((own_hiv (i - (1 : Int32))) + (1 : Int32))) + (1 : Int32))), .val (.int pv), .val (.int (1 : Int32)), .val (.int (0 : Int32)), .unset] [(.int (1 : Int32))])) _
        refine Goes.of (fun t k => XS.istore X254.here hx rfl (hb hby at_381) rfl (l' := #[.val (.int p1), .val (.int p2), .val (.int p3), .val (.int p4), .val (.ref b30), .val (.ref b109), .val (.int i), .val (.int (own_lov i)), .val (.int (own_hiv i)), .val (.int (((own_hiv i) - (own_lov i)) + (1 : Int32))), .val (.int q), .val (.int ((own_hiv (i - (1 : Int32))) + (1 : Int32))), .val (.int ((own_lov i) - (1 : Int32))), .val (.int ((((own_lov i) - (1 : Int32)) - ((own_hiv (i - (1 : Int32))) + (1 : Int32))) + (1 : Int32))), .val (.int pv), .val (.int (1 : Int32)), .val (.int (0 : Int32)), .val (.int (1 : Int32))]) rfl k) ?_
        show Goes p e below (T254.setTop (mkF m 383 #[.val (.int p1), .val (.int p2), .val (.int p3), .val (.int p4), .val (.ref b30), .val (.ref b109), .val (.int i), .val (.int (own_lov i)), .val (.int (own_hiv i)), .val (.int (((own_hiv i) - (own_lov i)) + (1 : Int32))), .val (.int q), .val (.int ((own_hiv (i - (1 : Int32))) + (1 : Int32))), .val (.int ((own_lov i) - (1 : Int32))), .val (.int ((((own_lov i) - (1 : Int32)) - ((own_hiv (i - (1 : Int32))) + (1 : Int32))) + (1 : Int32))), .val (.int pv), .val (.int (1 : Int32)), .val (.int (0 : Int32)), .val (.int (1 : Int32))] [])) _
        refine Goes.of (fun t k => XS.iload X254.here hx rfl (hb hby at_383) rfl k) ?_
        show Goes p e below (T254.setTop (mkF m 385 #[.val (.int p1), .val (.int p2), .val (.int p3), .val (.int p4), .val (.ref b30), .val (.ref b109), .val (.int i), .val (.int (own_lov i)), .val (.int (own_hiv i)), .val (.int (((own_hiv i) - (own_lov i)) + (1 : Int32))), .val (.int q), .val (.int ((own_hiv (i - (1 : Int32))) + (1 : Int32))), .val (.int ((own_lov i) - (1 : Int32))), .val (.int ((((own_lov i) - (1 : Int32)) - ((own_hiv (i - (1 : Int32))) + (1 : Int32))) + (1 : Int32))), .val (.int pv), .val (.int (1 : Int32)), .val (.int (0 : Int32)), .val (.int (1 : Int32))] [(.int (1 : Int32))])) _
        refine Goes.of (fun t k => XS.ifNo X254.here hx rfl (hb hby at_385) rfl ((if0 _ _).trans (feq (by decide)).1) k) ?_
        show Goes p e below (T254.setTop (mkF m 388 #[.val (.int p1), .val (.int p2), .val (.int p3), .val (.int p4), .val (.ref b30), .val (.ref b109), .val (.int i), .val (.int (own_lov i)), .val (.int (own_hiv i)), .val (.int (((own_hiv i) - (own_lov i)) + (1 : Int32))), .val (.int q), .val (.int ((own_hiv (i - (1 : Int32))) + (1 : Int32))), .val (.int ((own_lov i) - (1 : Int32))), .val (.int ((((own_lov i) - (1 : Int32)) - ((own_hiv (i - (1 : Int32))) + (1 : Int32))) + (1 : Int32))), .val (.int pv), .val (.int (1 : Int32)), .val (.int (0 : Int32)), .val (.int (1 : Int32))] [])) _
        refine Goes.of (fun t k => XS.iload X254.here hx rfl (hb hby at_388) rfl k) ?_
        show Goes p e below (T254.setTop (mkF m 390 #[.val (.int p1), .val (.int p2), .val (.int p3), .val (.int p4), .val (.ref b30), .val (.ref b109), .val (.int i), .val (.int (own_lov i)), .val (.int (own_hiv i)), .val (.int (((own_hiv i) - (own_lov i)) + (1 : Int32))), .val (.int q), .val (.int ((own_hiv (i - (1 : Int32))) + (1 : Int32))), .val (.int ((own_lov i) - (1 : Int32))), .val (.int ((((own_lov i) - (1 : Int32)) - ((own_hiv (i - (1 : Int32))) + (1 : Int32))) + (1 : Int32))), .val (.int pv), .val (.int (1 : Int32)), .val (.int (0 : Int32)), .val (.int (1 : Int32))] [(.int (1 : Int32))])) _
        refine Goes.of (fun t k => XS.ifNo X254.here hx rfl (hb hby at_390) rfl ((if0 _ _).trans (feq (by decide)).1) k) ?_
        show Goes p e below (T254.setTop (mkF m 393 #[.val (.int p1), .val (.int p2), .val (.int p3), .val (.int p4), .val (.ref b30), .val (.ref b109), .val (.int i), .val (.int (own_lov i)), .val (.int (own_hiv i)), .val (.int (((own_hiv i) - (own_lov i)) + (1 : Int32))), .val (.int q), .val (.int ((own_hiv (i - (1 : Int32))) + (1 : Int32))), .val (.int ((own_lov i) - (1 : Int32))), .val (.int ((((own_lov i) - (1 : Int32)) - ((own_hiv (i - (1 : Int32))) + (1 : Int32))) + (1 : Int32))), .val (.int pv), .val (.int (1 : Int32)), .val (.int (0 : Int32)), .val (.int (1 : Int32))] [])) _
        refine Goes.of (fun t k => XS.iconst X254.here hx rfl (hb hby at_393) k) ?_
        show Goes p e below (T254.setTop (mkF m 394 #[.val (.int p1), .val (.int p2), .val (.int p3), .val (.int p4), .val (.ref b30), .val (.ref b109), .val (.int i), .val (.int (own_lov i)), .val (.int (own_hiv i)), .val (.int (((own_hiv i) - (own_lov i)) + (1 : Int32))), .val (.int q), .val (.int ((own_hiv (i - (1 : Int32))) + (1 : Int32))), .val (.int ((own_lov i) - (1 : Int32))), .val (.int ((((own_lov i) - (1 : Int32)) - ((own_hiv (i - (1 : Int32))) + (1 : Int32))) + (1 : Int32))), .val (.int pv), .val (.int (1 : Int32)), .val (.int (0 : Int32)), .val (.int (1 : Int32))] [(.int (1 : Int32))])) _
        refine Goes.of (fun t k => XS.goto X254.here hx rfl (pc0 := 394) (pc' := 398) rfl (hb hby at_394) (by decide) (by decide) k) ?_
        show Goes p e below (T254.setTop (mkF m 398 #[.val (.int p1), .val (.int p2), .val (.int p3), .val (.int p4), .val (.ref b30), .val (.ref b109), .val (.int i), .val (.int (own_lov i)), .val (.int (own_hiv i)), .val (.int (((own_hiv i) - (own_lov i)) + (1 : Int32))), .val (.int q), .val (.int ((own_hiv (i - (1 : Int32))) + (1 : Int32))), .val (.int ((own_lov i) - (1 : Int32))), .val (.int ((((own_lov i) - (1 : Int32)) - ((own_hiv (i - (1 : Int32))) + (1 : Int32))) + (1 : Int32))), .val (.int pv), .val (.int (1 : Int32)), .val (.int (0 : Int32)), .val (.int (1 : Int32))] [(.int (1 : Int32))])) _
        exact Goes.retN (t := .boolean) X254 hx Bd.returns (by simp) hlocks (hb hby at_398) (⟨rfl, N254⟩) (by decide) (by decide)
set_option maxRecDepth 65536 in
set_option maxHeartbeats 40000000 in
theorem comes_1 {Post : Tables → Env → Array Value → State → Outcome → State → Prop} (hpost : ∀ tb e args s v u, (limb_1_1.after args s (.returned v) u = true ∧ limb_1_2.after args s (.returned v) u = true ∧ True) → FrameEnd s (.returned v) u (Jvm.fieldLocs frame_1_writes args s ++ Jvm.arrayLocs frame_1_arrays args s ++ Jvm.staticLocs frame_1_statics s) 16 128 → Post tb e args s (.returned v) u) :
    ArmFor flags0 classFile x code maxLocals ret World_1 tables_1 room_1 Calls_1 rest_1 Pre_1 Post := by
  intro l hfl _ _ p e ha hc hk s m args below hf hA hF happ hP
  obtain ⟨hcalls, hrest, hpre⟩ := hP
  obtain ⟨-, -, -, hnamed, -, -, -, hat⟩ := (Spec.applies_iff hf).mp happ
  obtain ⟨hg, hn⟩ := and_e (Cond.before_iff.mp (show (Jvm.Cond.and given_1 narrow_1).before args s = true from hpre))
  obtain ⟨g263, g264⟩ := and_e hg
  obtain ⟨g265, g266⟩ := and_e g264
  obtain ⟨g267, g268⟩ := and_e g266
  obtain ⟨g269, g270⟩ := and_e g268
  obtain ⟨w0, w1, w2, w3, rfl⟩ : ∃ w0 w1 w2 w3 : Value, args = #[w0, w1, w2, w3] := by
    have hs : args.size = 4 := by simpa [Cond.value, given_1] using g263
    obtain ⟨L⟩ := args
    match L, hs with
    | [w0, w1, w2, w3], _ => exact ⟨w0, w1, w2, w3, rfl⟩
  have hw := fun d (hd : d ∈ tables_1) => atoms_spec (ws := Jvm.Cond.code x code maxLocals ret :: tables_1) hat d (List.mem_cons_of_mem _ hd)
  have hfit : Fit s := fun {y c} hc i hi => by
    obtain ⟨ha, rfl⟩ := Array.getElem?_eq_some_iff.mp hc
    have q := List.all_eq_true.mp ((Array.all_eq_true_iff_forall_mem.mp hF) _ (Array.getElem_mem ha)) i (List.mem_range.mpr hi)
    simpa [Array.getElem?_eq_getElem hi] using q
  obtain ⟨i0, ei0⟩ := is_v g265
  obtain rfl : w0 = (.int i0) := Option.some.inj ei0
  obtain ⟨i1, ei1⟩ := is_v g267
  obtain rfl : w1 = (.int i1) := Option.some.inj ei1
  obtain ⟨i2, ei2⟩ := is_v g269
  obtain rfl : w2 = (.int i2) := Option.some.inj ei2
  obtain ⟨i3, ei3⟩ := is_v g270
  obtain rfl : w3 = (.int i3) := Option.some.inj ei3
  obtain ⟨n, o, h1, h2, h3, _, L, rfl, ⟨rfl, N⟩, hq⟩ := rm0 l s _ hw tables_1 i0 i1 i2 i3  s.heap s.heap.size (Nat.le_refl _)  p e ha hc hk s m _ below hf ((Spec.applies_iff_loose hf).mp happ).1 ⟨rfl, State.Warmed39.refl s, rfl⟩ trivial
  refine ⟨n, _, h1, h2, h3, hpost _ _ _ _ _ _ ⟨Cond.after_iff.mpr rfl, Cond.after_iff.mpr (eq_i res_at (Term.int_eval (1)) rfl), trivial⟩ ⟨hq.1, hq.2.1, (hq.2.2.sift fun y hy => Or.inr (N y hy)).mono (by decide) (by decide)⟩⟩
theorem main_1_1 : Claimed_1_1 := comes_1 fun _ _ _ _ _ _ h hF => ⟨h.1, hF⟩
theorem main_1_2 : Claimed_1_2 := comes_1 fun _ _ _ _ _ _ h hF => ⟨h.2.1, hF⟩
end Jvm.Pilot.@@N@@
namespace Jvm.Pilot.@@N@@
open Jvm Jvm.ClassFile Sem Op Lib Jvm.Free Jvm.Stand Jvm.Pilot.@@N@@.Jvm.D
/-! MADE BY PROGRAM (witnessworld.py) out of the Statement's table words and the real class files: 9 classes; the members and pool entries that the words name. The judged class is class 1, her method 1. -/
namespace start1
open Jvm.ClassFile
def u (s : String) : CpInfo := .utf8 (stringToUtf16 s)
/-- a pool by its gaps: so many unusable entries, then the entry; so many at the end -/
def gap : Nat → List CpInfo → List CpInfo
  | 0, r => r
  | n + 1, r => .unusable :: gap n r
def poolList (es : List (Nat × CpInfo)) (last : Nat) : List CpInfo := es.foldr (fun e r => gap e.1 (e.2 :: r)) (gap last [])
def pool (es : List (Nat × CpInfo)) (last : Nat) : Array CpInfo := ⟨poolList es last⟩
def fileOf (pool : Array CpInfo) (this : Nat) (attrs : Array Attribute := #[]) (ms : Array MethodInfo := #[]) (fl : Nat := 33) (sup : Nat := 0) (ifs : Array Nat := #[]) (fds : Array FieldInfo := #[]) : ClassFile where
  minorVersion := 0
  majorVersion := 65
  constantPool := pool
  accessFlags := fl
  thisClass := this
  superClass := sup
  interfaces := ifs
  fields := fds
  methods := ms
  attributes := attrs
def plain (name : String) (sup : Option ClassId) : Class where
  name := name
  kind := .ordinary
  loader := none
  accessFlags := 33
  super := sup
  interfaces := #[]
  cf := none
  fields := #[]
  methods := #[]
  instanceTypes := #[]
  staticTypes := #[]
  resolved := #[]
  callSites := []
  init := .initialized
  statics := none
  mirror := none

def pool0 : Array CpInfo := pool [(5, u "<init>"), (0, u "()V"), (1, .class_ 10), (1, u "java/lang/Object")] 113

def k0m0 : Method := { name := "<init>", desc := "()V", sig := { parameters := [], returnType := none }, accessFlags := 1, code := none }
/-- java/lang/Object -/
def k0 : Class := { plain "java/lang/Object" none with
  accessFlags := 33
  interfaces := #[]
  cf := some (fileOf pool0 8 #[] #[{ accessFlags := 1, nameIndex := 5, descriptorIndex := 6, attributes := #[] }] 33 0 #[] #[])
  fields := #[]
  methods := #[k0m0]
  instanceTypes := #[]
  staticTypes := #[]
  resolved := Array.replicate 124 none
  statics := none }

def pool1 : Array CpInfo := pool [(2, .class_ 4), (1, u "java/lang/Object"), (0, u "<init>"), (0, u "()V"), (0, .integer 63744), (0, .integer 65008), (0, .integer 65536), (0, .integer 55295), (0, .integer 64975), (0, .integer 65533), (0, .integer 983039), (0, .integer 2147483647), (0, .methodref 16 17), (0, .class_ 18), (0, .nameAndType 19 20), (0, u "com/example/strict_xslt/strictxslt/XmlNames"), (0, u "isNameStart"), (0, u "(I)Z"), (0, .class_ 22), (0, u "com/example/strict_xslt/strictxslt/XmlNamesIsNameStartPinLaw"), (2, u "law"), (0, u "(IIII)Z")] 5

def k1m0 : Method := { name := "<init>", desc := "()V", sig := { parameters := [], returnType := none }, accessFlags := 2, code := none }
def k1c1 : Code := { maxStack := 4, maxLocals := 18, code := code, exceptionTable := #[], attributes := #[] }
def k1m1 : Method := { name := "law", desc := "(IIII)Z", sig := { parameters := [.int, .int, .int, .int], returnType := some .boolean }, accessFlags := 9, code := some k1c1 }
/-- com/example/strict_xslt/strictxslt/XmlNamesIsNameStartPinLaw -/
def k1 : Class := { plain "com/example/strict_xslt/strictxslt/XmlNamesIsNameStartPinLaw" (some 0) with
  accessFlags := 49
  interfaces := #[]
  cf := some (fileOf pool1 21 #[] #[{ accessFlags := 2, nameIndex := 5, descriptorIndex := 6, attributes := #[] }, { accessFlags := 9, nameIndex := 25, descriptorIndex := 26, attributes := #[] }] 49 2 #[] #[])
  fields := #[]
  methods := #[k1m0, k1m1]
  instanceTypes := #[]
  staticTypes := #[]
  resolved := Array.replicate 32 none
  statics := none }

def pool2 : Array CpInfo := pool [(2, .class_ 4), (1, u "java/lang/Object"), (0, u "<init>"), (0, u "()V"), (0, .integer 55295), (0, .integer 63744), (0, .integer 64975), (0, .integer 65008), (0, .integer 65533), (0, .integer 65536), (0, .integer 983039), (1, .class_ 17), (1, u "com/example/strict_xslt/strictxslt/XmlNames"), (0, u "isNameStart"), (0, u "(I)Z")] 98

def k2m0 : Method := { name := "<init>", desc := "()V", sig := { parameters := [], returnType := none }, accessFlags := 2, code := none }
def k2c1 : Code := { maxStack := 2, maxLocals := 1, code := prog_15_method_2_code, exceptionTable := #[], attributes := #[] }
def k2m1 : Method := { name := "isNameStart", desc := "(I)Z", sig := { parameters := [.int], returnType := some .boolean }, accessFlags := 9, code := some k2c1 }
/-- com/example/strict_xslt/strictxslt/XmlNames -/
def k2 : Class := { plain "com/example/strict_xslt/strictxslt/XmlNames" (some 0) with
  accessFlags := 49
  interfaces := #[]
  cf := some (fileOf pool2 15 #[] #[{ accessFlags := 2, nameIndex := 5, descriptorIndex := 6, attributes := #[] }, { accessFlags := 9, nameIndex := 18, descriptorIndex := 19, attributes := #[] }] 49 2 #[] #[])
  fields := #[]
  methods := #[k2m0, k2m1]
  instanceTypes := #[]
  staticTypes := #[]
  resolved := Array.replicate 118 none
  statics := none }

def pool3 : Array CpInfo := pool [(1, u "java/lang/Cloneable"), (0, .class_ 1), (0, u "java/lang/Object"), (0, .class_ 3)] 3

/-- java/lang/Cloneable -/
def k3 : Class := { plain "java/lang/Cloneable" (some 0) with
  accessFlags := 1537
  interfaces := #[]
  cf := some (fileOf pool3 2 #[] #[] 1537 4 #[] #[])
  fields := #[]
  methods := #[]
  instanceTypes := #[]
  staticTypes := #[]
  resolved := Array.replicate 8 none
  statics := none }

def pool4 : Array CpInfo := pool [(1, u "java/io/Serializable"), (0, .class_ 1), (0, u "java/lang/Object"), (0, .class_ 3)] 3

/-- java/io/Serializable -/
def k4 : Class := { plain "java/io/Serializable" (some 0) with
  accessFlags := 1537
  interfaces := #[]
  cf := some (fileOf pool4 2 #[] #[] 1537 4 #[] #[])
  fields := #[]
  methods := #[]
  instanceTypes := #[]
  staticTypes := #[]
  resolved := Array.replicate 8 none
  statics := none }

/-- the primitive byte -/
def k5 : Class := { plain "byte" none with kind := .primitive 'B', accessFlags := 0x411 }
/-- [B -/
def k6 : Class := { plain "[B" (some 0) with kind := .array 5 .byte, interfaces := #[3, 4], accessFlags := 1041 }

/-- the primitive int -/
def k7 : Class := { plain "int" none with kind := .primitive 'I', accessFlags := 0x411 }
/-- [I -/
def k8 : Class := { plain "[I" (some 0) with kind := .array 7 .int, interfaces := #[3, 4], accessFlags := 1041 }

def heap : Heap := #[]
def classes : Array Class := #[k0, k1, k2, k3, k4, k5, k6, k7, k8]
def interned : List (Array UInt16 × Addr) := []
def slotsUsed : Nat := 0
def theMethod : MethodId := ⟨1, 1⟩
def args0 : Array Value := #[.int 5, .int 7, .int 9, .int 11]
def aboutOver (below : List Frame) : State where
  vm := { classes := classes, interned := interned.toArray }
  heap := heap
  slotsUsed := slotsUsed
  threads := #[{ frames := .invoking theMethod args0 :: below }]
def below0 : List Frame := [.native { method := ⟨0, 0⟩, args := #[] }]
def about1 : State := aboutOver below0
def p0 : Program := .bare "" "" ""
def e0 : Env := launch0.env 0 0 0
theorem w_frames : about1.frames = Frame.invoking theMethod args0 :: below0 := rfl
set_option maxRecDepth 65536 in
theorem w_args : argsFit about1.vm theMethod args0 = true := by decide +kernel
set_option maxRecDepth 65536 in
theorem w_heap : heapFits about1 = true := by decide +kernel
set_option maxRecDepth 65536 in
theorem w_runnable : about1.curStatus? = some .runnable := by decide +kernel
set_option maxRecDepth 65536 in
theorem w_alone : about1.alone = true := by decide +kernel
set_option maxRecDepth 65536 in
theorem w_named : about1.methodNamed? x = some theMethod := by decide +kernel
set_option maxRecDepth 65536 in
theorem w_hears : about1.hears theMethod below0 = true := by decide +kernel
set_option maxRecDepth 65536 in
theorem w_ripe : about1.ripe theMethod args0 below0 = true := by decide +kernel
theorem w_running : about1.status = .running := rfl
set_option maxRecDepth 65536 in
theorem w_room : about1.hasRoom e0.platform room_1 = true :=
  launch0.hasRoom_least _ room_1 (by decide +kernel) (by decide +kernel) (by decide +kernel) (by decide +kernel) (by decide +kernel) (by decide +kernel)
theorem allAtoms_all (ts : List Jvm.Cond) (a : Array Jvm.Value) (st : Jvm.State) : (allAtoms ts).before a st = ts.all (fun c => c.before a st) := by
  induction ts with
  | nil => rfl
  | cons c t ih =>
    show (Jvm.Cond.and c (allAtoms t)).before a st = _
    rw [Jvm.Cond.before_and, ih, List.all_cons]
def words1 : List Jvm.Cond := Jvm.Cond.code x code maxLocals ret :: tables_1
/-- a 'code' word, met by the world's own term for the bytes: nothing is compared byte by byte -/
theorem code_word {y : MethodName} {bytes : ByteArray} {mx : Nat} {rt : Option FieldType} {a : Array Value} {s : State} {m : MethodId} {meth : Method} {c : Code} (h1 : s.methodNamed? y = some m) (h2 : s.vm.method? m = some meth) (h3 : meth.code = some c) (h4 : c.code = bytes)
    (h5 : (c.maxLocals == mx && c.exceptionTable.isEmpty && decide (c.maxStack ≤ mostOperands) && decide (meth.sig.returnType = rt) && !meth.locks && decide (parseMethodDescriptor y.desc = some meth.sig)) = true) : (Jvm.Cond.code y bytes mx rt).before a s = true := by
  simp only [Bool.and_eq_true, beq_iff_eq, Bool.not_eq_true', decide_eq_true_eq] at h5
  obtain ⟨⟨⟨⟨⟨g1, g2⟩, g3⟩, g4⟩, g5⟩, g6⟩ := h5
  simp [Cond.before, Cond.holds, Cond.value, h1, h2, h3, h4, g1, g2, g3, g4, g5, g6]
def isCode : Jvm.Cond → Bool
  | .code _ _ _ _ => true
  | _ => false
theorem all_split {L : List Jvm.Cond} {P : Jvm.Cond → Bool} (h1 : L.all (fun c => isCode c || P c) = true) (h2 : ∀ c ∈ L.filter isCode, P c = true) : L.all P = true := by
  refine List.all_eq_true.mpr fun c hc => ?_
  have h := List.all_eq_true.mp h1 c hc
  rcases Bool.eq_false_or_eq_true (isCode c) with hi | hi
  · exact h2 c (List.mem_filter.mpr ⟨hc, hi⟩)
  · simpa [hi] using h
set_option maxRecDepth 65536 in
theorem w_c0 : (Jvm.Cond.code x code maxLocals ret).before args0 about1 = true := code_word (m := ⟨1, 1⟩) (meth := k1m1) (c := k1c1) (by decide +kernel) rfl rfl rfl (by decide +kernel)
set_option maxRecDepth 65536 in
theorem w_c1 : (Jvm.Cond.code ({ cls := "com/example/strict_xslt/strictxslt/XmlNames", name := "isNameStart", desc := "(I)Z" } : Jvm.MethodName) prog_15_method_2_code (1 : Nat) (Option.some Jvm.ClassFile.FieldType.boolean)).before args0 about1 = true := code_word (m := ⟨2, 1⟩) (meth := k2m1) (c := k2c1) (by decide +kernel) rfl rfl rfl (by decide +kernel)
def codes1 : List Jvm.Cond := [Jvm.Cond.code x code maxLocals ret, Jvm.Cond.code ({ cls := "com/example/strict_xslt/strictxslt/XmlNames", name := "isNameStart", desc := "(I)Z" } : Jvm.MethodName) prog_15_method_2_code (1 : Nat) (Option.some Jvm.ClassFile.FieldType.boolean)]
set_option maxRecDepth 65536 in
theorem codes_eq : words1.filter isCode = codes1 := rfl
theorem w_codes : ∀ c ∈ words1.filter isCode, c.before args0 about1 = true := by
  rw [codes_eq]
  intro c hc
  simp only [codes1, List.mem_cons, List.not_mem_nil, or_false] at hc
  rcases hc with rfl | rfl
  · exact w_c0
  · exact w_c1
set_option maxRecDepth 65536 in
theorem w_t1 : words1.all (fun c => isCode c || c.before args0 about1) = true := by decide +kernel
theorem w_tables : (allAtoms (Jvm.Cond.code x code maxLocals ret :: tables_1)).before args0 about1 = true := by
  rw [allAtoms_all]
  show words1.all (fun c => c.before args0 about1) = true
  refine all_split ?_ w_codes
  rw [w_t1]
set_option maxRecDepth 65536 in
theorem w_case : (Jvm.Cond.and given_1 narrow_1).before args0 about1 = true := by decide +kernel
theorem w_applies : (headSpec (Jvm.Cond.code x code maxLocals ret :: tables_1) room_1).applies x e0.platform about1 = true :=
  (Spec.applies_iff w_frames).mpr ⟨w_running, w_runnable, w_alone, w_named, w_hears, w_ripe, w_room, w_tables⟩
theorem atStart : AtStart classFile x code maxLocals ret World_1 tables_1 room_1 Calls_1 rest_1 Pre_1 launch0 p0 e0 about1 theMethod args0 below0 :=
  ⟨lists_1, trivial, launch0.admits_env _ _ _, launch0.least_env, fairChoices_fair.cas, fairChoices_fair.clock, w_frames, w_args, w_heap, w_applies, trivial, trivial, w_case⟩
end start1
theorem witness_1 : WitnessClaimed_1 := ⟨start1.p0, start1.e0, start1.about1, start1.theMethod, start1.args0, start1.below0, start1.atStart⟩
end Jvm.Pilot.@@N@@
