import JvmDerived
import JvmDerived.Pilot.@@N@@Statement
import JvmDerived.Pilot.@@N@@Code
set_option linter.unusedVariables false
set_option linter.unusedSimpArgs false
namespace Jvm.Pilot.@@N@@
open Jvm Jvm.ClassFile Sem Op Lib Jvm.Free Jvm.Stand Jvm.LawKit Jvm.RoadKit Bundle Jvm.Pilot.@@N@@.Jvm.D
/-- from S the run goes on to an end that answers Q -/
def own_Go (p : Program) (e : Env) (below : List Frame) (s : State) (Q : Option Value → Heap → List Loc → Prop) (rm : Room) (S : State) : Prop :=
  ∃ t o, Steps p.tables e below S t ∧ t.status = .running ∧ Ended t below o ∧ ∃ v L, o = .returned v ∧ Q v t.heap L ∧ FrameEnd s o t L rm.cells rm.slots
section OwnKit
variable {p : Program} {l : Launch} {e : Env} {R rm : Room} {s S S' : State} {m : MethodId} {args : Array Value} {below : List Frame} {meth : Method} {c : Code} {T : State} {locs : List Loc} {cells slots : Nat} {Q : Option Value → Heap → List Loc → Prop}
theorem own_by (st : ∀ t, Steps p.tables e below S' t → Steps p.tables e below S t) (k : own_Go p e below s Q rm S') : own_Go p e below s Q rm S := by
  obtain ⟨t, o, h, r⟩ := k
  exact ⟨t, o, st _ h, r⟩
theorem own_via (st : Steps p.tables e below S S') (k : own_Go p e below s Q rm S') : own_Go p e below s Q rm S := own_by (fun _ h => st.trans h) k
theorem own_out {v : Option Value} {pc : Nat} {Ls : Array Slot} {st : List Value} (X : Stand p l e rm s m args below meth c T locs cells slots) (hlk : meth.locks = false) (hv : meth.sig.returnType = none → v = none) (hc : cells ≤ rm.cells) (hs : slots ≤ rm.slots)
    (step : ∀ fs, (∀ (f : JFrame) (acts : List Action), f.method = m → f.locked = none → f.entered = [] → (doReturn e (T.setTop f) acts v).1 = T.setFrames fs) → Steps p.tables e below (T.setTop (mkF m pc Ls st)) (T.setFrames fs)) (hQ : Q v T.heap locs) : own_Go p e below s Q rm (T.setTop (mkF m pc Ls st)) := by
  obtain ⟨fs, hr, hrun, hended, hW, hsame⟩ := X.leave (v := v) hv hlk
  exact ⟨_, _, step fs hr, hrun, hended, v, locs, rfl, hQ, ⟨_, rfl⟩, hW, hsame.mono hc hs⟩
theorem own_retV (X : Stand p l e rm s m args below meth c T locs cells slots) (hx : p.tables.exec = Jvm.exec) (hlk : meth.locks = false) {pc : Nat} {Ls : Array Slot} (hret : meth.sig.returnType = none) (hd : decode c.code pc = .ok (.return_, 1)) (hQ : Q none T.heap locs) (hc : cells ≤ rm.cells) (hs : slots ≤ rm.slots) :
    own_Go p e below s Q rm (T.setTop (mkF m pc Ls [])) := own_out X hlk (fun _ => rfl) hc hs (fun fs hr => X.returnOut hx hret hd hr) hQ
theorem own_retI (X : Stand p l e rm s m args below meth c T locs cells slots) (hx : p.tables.exec = Jvm.exec) (hlk : meth.locks = false) {pc : Nat} {Ls : Array Slot} {z : Int32} {t : FieldType} {rest : List Value} (hret : meth.sig.returnType = some t) (ht : t = .int ∨ t = .boolean ∨ t = .byte ∨ t = .char ∨ t = .short) (hn : narrow t (.int z) = .int z) (hd : decode c.code pc = .ok (.ireturn, 1)) (hQ : Q (some (.int z)) T.heap locs) (hc : cells ≤ rm.cells) (hs : slots ≤ rm.slots) :
    own_Go p e below s Q rm (T.setTop (mkF m pc Ls (.int z :: rest))) := own_out X hlk (fun h => by rw [hret] at h; cases h) hc hs (fun fs hr => retOut X hx hret hn (Or.inl ⟨rfl, ht, z, rfl⟩) hd hr) hQ
theorem own_retL (X : Stand p l e rm s m args below meth c T locs cells slots) (hx : p.tables.exec = Jvm.exec) (hlk : meth.locks = false) {pc : Nat} {Ls : Array Slot} {z : Int64} {rest : List Value} (hret : meth.sig.returnType = some .long) (hd : decode c.code pc = .ok (.lreturn, 1)) (hQ : Q (some (.long z)) T.heap locs) (hc : cells ≤ rm.cells) (hs : slots ≤ rm.slots) :
    own_Go p e below s Q rm (T.setTop (mkF m pc Ls (.long z :: rest))) := own_out X hlk (fun h => by rw [hret] at h; cases h) hc hs (fun fs hr => retOut X hx hret rfl (Or.inr (Or.inl ⟨rfl, rfl, z, rfl⟩)) hd hr) hQ
theorem own_retA (X : Stand p l e rm s m args below meth c T locs cells slots) (hx : p.tables.exec = Jvm.exec) (hlk : meth.locks = false) {pc : Nat} {Ls : Array Slot} {w : Value} {t : FieldType} {rest : List Value} (hret : meth.sig.returnType = some t) (ht : t.isReference = true) (hw : w.isRef = true) (hd : decode c.code pc = .ok (.areturn, 1)) (hQ : Q (some w) T.heap locs) (hc : cells ≤ rm.cells) (hs : slots ≤ rm.slots) :
    own_Go p e below s Q rm (T.setTop (mkF m pc Ls (w :: rest))) := by
  have hn : narrow t w = w := by cases w <;> first | (simp [Value.isRef] at hw; done) | (cases t <;> first | (simp [FieldType.isReference] at ht; done) | rfl)
  exact own_out X hlk (fun h => by rw [hret] at h; cases h) hc hs (fun fs hr => retOut X hx hret hn (Or.inr (Or.inr (Or.inr (Or.inr ⟨rfl, ht, hw⟩)))) hd hr) hQ
theorem own_enter {Z : State} {h0 : Heap} {y : MethodName} {bytes : ByteArray} {maxL : Nat} {ret : Option FieldType} {ws : List Jvm.Cond} {as : Array Value} (hp : plainFor y = true)
    (body : ∀ p e s m below meth c s₁, Stand p l e rm s m as below meth c s₁ [] 0 0 → p.tables.exec = Jvm.exec → Z.Warmed39 s.vm → c.code = bytes → c.maxLocals = maxL → s.vm.findClass y.cls = some m.cls → meth.name = y.name → meth.sig.returnType = ret → meth.locks = false → s₁.heap = h0 →
      own_Go p e below s Q rm (s₁.setTop (entryFrame m as maxL))) :
    MetFree l y (head1 (Jvm.Cond.code y bytes maxL ret :: ws) rm) (fun a U => a = as ∧ Z.Warmed39 U.vm ∧ U.heap = h0) (fun _ _ _ _ _ => True) (fun _ U o U' => ∃ v L, o = .returned v ∧ Q v U'.heap L ∧ FrameEnd U o U' L rm.cells rm.slots) := by
  refine MetFree.of_bodySF hp hisR ?_
  intro p e s m args below meth c s₁ Bd hml0 hP hK
  obtain ⟨rfl, hZ, hh⟩ := hP
  have X0 : Stand p l e rm s m args below meth c s₁ [] 0 0 := Stand.of_body Bd
  exact body p e s m below meth c s₁ X0 Bd.exec hZ Bd.bytes hml0 (findClass_of_methodNamed Bd.named) (name_of_methodNamed Bd.named Bd.method).1 Bd.returns (BodyLoose.notSynchronized Bd) (by rw [← hh, Bd.state]; rfl)
end OwnKit
theorem own_len31 {Z : State} {args : Array Value} {t : Term} {v : Value} {a : Addr} {cl : Cell} (h : (Term.length t).eval args Z none [] Z = some v) (ht : t.eval args Z none [] Z = some (.ref a)) (hc : Z.heap[a]? = some cl) : cl.slots.size < 2 ^ 31 := by
  simp only [Term.eval, ht, Option.bind_eq_bind, Option.bind_some] at h
  cases ha : Z.arrayAt? a with
  | none => simp [ha] at h
  | some c2 =>
    cases (State.arrayAt?_spec ha).1.symm.trans hc
    by_cases q : cl.slots.size < 2 ^ 31
    · exact q
    · simp [ha, q] at h
theorem own_eqr {Z : State} {args : Array Value} {X F : Term} {y : Value} (hy : y.isRef = true) (hF : F.eval args Z none [] Z = some y) (h : (Jvm.Cond.eq X F).value args Z none Z [] = some true) : X.eval args Z none [] Z = some y := by
  obtain ⟨x, y', e1, e2, k1, k2⟩ := cmp_v (Or.inl h)
  cases hF.symm.trans e2
  have hx : x.isRef = true := by
    rcases ref_cases hy with rfl | ⟨a, rfl⟩
    · exact k2.2
    · exact k2.2
  exact e1.trans (congrArg some (gotT (eq_R e1 hF hx hy) h))
theorem pl_0 : plainFor x = true := plainFor_of_name (by first | (simp [plainName, overriddenIn]; done) | decide +kernel)
theorem d1_0 : decode prog_29_method_1_code 0 = .ok (.aload_n 0, 1) := by decide +kernel
theorem d1_1 : decode prog_29_method_1_code 1 = .ok (.invokespecial 1, 3) := by decide +kernel
theorem d1_4 : decode prog_29_method_1_code 4 = .ok (.iload_n 3, 1) := by decide +kernel
theorem d1_5 : decode prog_29_method_1_code 5 = .ok (.ifCond .lt 8, 3) := by decide +kernel
theorem d1_8 : decode prog_29_method_1_code 8 = .ok (.iload 4, 2) := by decide +kernel
theorem d1_10 : decode prog_29_method_1_code 10 = .ok (.ifCond .ge 19, 3) := by decide +kernel
theorem d1_13 : decode prog_29_method_1_code 13 = .ok (.new 7, 3) := by decide +kernel
theorem d1_16 : decode prog_29_method_1_code 16 = .ok (.dup, 1) := by decide +kernel
theorem d1_17 : decode prog_29_method_1_code 17 = .ok (.iload_n 3, 1) := by decide +kernel
theorem d1_18 : decode prog_29_method_1_code 18 = .ok (.iload 4, 2) := by decide +kernel
theorem d1_20 : decode prog_29_method_1_code 20 = .ok (.invokedynamic 9, 5) := by decide +kernel
theorem d1_25 : decode prog_29_method_1_code 25 = .ok (.invokespecial 13, 3) := by decide +kernel
theorem d1_28 : decode prog_29_method_1_code 28 = .ok (.athrow, 1) := by decide +kernel
theorem d1_29 : decode prog_29_method_1_code 29 = .ok (.aload_n 0, 1) := by decide +kernel
theorem d1_30 : decode prog_29_method_1_code 30 = .ok (.iload_n 1, 1) := by decide +kernel
theorem d1_31 : decode prog_29_method_1_code 31 = .ok (.putfield 16, 3) := by decide +kernel
theorem d1_34 : decode prog_29_method_1_code 34 = .ok (.aload_n 0, 1) := by decide +kernel
theorem d1_35 : decode prog_29_method_1_code 35 = .ok (.iload_n 2, 1) := by decide +kernel
theorem d1_36 : decode prog_29_method_1_code 36 = .ok (.putfield 22, 3) := by decide +kernel
theorem d1_39 : decode prog_29_method_1_code 39 = .ok (.aload_n 0, 1) := by decide +kernel
theorem d1_40 : decode prog_29_method_1_code 40 = .ok (.iload_n 3, 1) := by decide +kernel
theorem d1_41 : decode prog_29_method_1_code 41 = .ok (.putfield 25, 3) := by decide +kernel
theorem d1_44 : decode prog_29_method_1_code 44 = .ok (.aload_n 0, 1) := by decide +kernel
theorem d1_45 : decode prog_29_method_1_code 45 = .ok (.iload 4, 2) := by decide +kernel
theorem d1_47 : decode prog_29_method_1_code 47 = .ok (.putfield 28, 3) := by decide +kernel
theorem d1_50 : decode prog_29_method_1_code 50 = .ok (.return_, 1) := by decide +kernel
theorem pl_1 : plainFor (⟨"com/example/rectwire/rectwire/protocol/Rectangle", "<init>", "(IIII)V"⟩ : MethodName) = true := plainFor_of_name (by first | (simp [plainName, overriddenIn]; done) | decide +kernel)
theorem d3_0 : decode prog_29_method_14_code 0 = .ok (.aload_n 1, 1) := by decide +kernel
theorem d3_1 : decode prog_29_method_14_code 1 = .ok (.instanceof 17, 3) := by decide +kernel
theorem d3_4 : decode prog_29_method_14_code 4 = .ok (.ifCond .ne 5, 3) := by decide +kernel
theorem d3_7 : decode prog_29_method_14_code 7 = .ok (.iconst 0, 1) := by decide +kernel
theorem d3_8 : decode prog_29_method_14_code 8 = .ok (.ireturn, 1) := by decide +kernel
theorem d3_9 : decode prog_29_method_14_code 9 = .ok (.aload_n 1, 1) := by decide +kernel
theorem d3_10 : decode prog_29_method_14_code 10 = .ok (.checkcast 17, 3) := by decide +kernel
theorem d3_13 : decode prog_29_method_14_code 13 = .ok (.astore_n 2, 1) := by decide +kernel
theorem d3_14 : decode prog_29_method_14_code 14 = .ok (.aload_n 0, 1) := by decide +kernel
theorem d3_15 : decode prog_29_method_14_code 15 = .ok (.getfield 16, 3) := by decide +kernel
theorem d3_18 : decode prog_29_method_14_code 18 = .ok (.aload_n 2, 1) := by decide +kernel
theorem d3_19 : decode prog_29_method_14_code 19 = .ok (.getfield 16, 3) := by decide +kernel
theorem d3_22 : decode prog_29_method_14_code 22 = .ok (.if_icmp .ne 40, 3) := by decide +kernel
theorem d3_25 : decode prog_29_method_14_code 25 = .ok (.aload_n 0, 1) := by decide +kernel
theorem d3_26 : decode prog_29_method_14_code 26 = .ok (.getfield 22, 3) := by decide +kernel
theorem d3_29 : decode prog_29_method_14_code 29 = .ok (.aload_n 2, 1) := by decide +kernel
theorem d3_30 : decode prog_29_method_14_code 30 = .ok (.getfield 22, 3) := by decide +kernel
theorem d3_33 : decode prog_29_method_14_code 33 = .ok (.if_icmp .ne 29, 3) := by decide +kernel
theorem d3_36 : decode prog_29_method_14_code 36 = .ok (.aload_n 0, 1) := by decide +kernel
theorem d3_37 : decode prog_29_method_14_code 37 = .ok (.getfield 25, 3) := by decide +kernel
theorem d3_40 : decode prog_29_method_14_code 40 = .ok (.aload_n 2, 1) := by decide +kernel
theorem d3_41 : decode prog_29_method_14_code 41 = .ok (.getfield 25, 3) := by decide +kernel
theorem d3_44 : decode prog_29_method_14_code 44 = .ok (.if_icmp .ne 18, 3) := by decide +kernel
theorem d3_47 : decode prog_29_method_14_code 47 = .ok (.aload_n 0, 1) := by decide +kernel
theorem d3_48 : decode prog_29_method_14_code 48 = .ok (.getfield 28, 3) := by decide +kernel
theorem d3_51 : decode prog_29_method_14_code 51 = .ok (.aload_n 2, 1) := by decide +kernel
theorem d3_52 : decode prog_29_method_14_code 52 = .ok (.getfield 28, 3) := by decide +kernel
theorem d3_55 : decode prog_29_method_14_code 55 = .ok (.if_icmp .ne 7, 3) := by decide +kernel
theorem d3_58 : decode prog_29_method_14_code 58 = .ok (.iconst 1, 1) := by decide +kernel
theorem d3_59 : decode prog_29_method_14_code 59 = .ok (.goto 4, 3) := by decide +kernel
theorem d3_62 : decode prog_29_method_14_code 62 = .ok (.iconst 0, 1) := by decide +kernel
theorem d3_63 : decode prog_29_method_14_code 63 = .ok (.ireturn, 1) := by decide +kernel
theorem pl_3 : plainFor (⟨"com/example/rectwire/rectwire/protocol/Rectangle", "equals", "(Ljava/lang/Object;)Z"⟩ : MethodName) = true := plainFor_of_name (by first | (simp [plainName, overriddenIn]; done) | decide +kernel)
theorem d4_0 : decode jdk_33_method_22_code 0 = .ok (.iload_n 0, 1) := by decide +kernel
theorem d4_1 : decode jdk_33_method_22_code 1 = .ok (.bipush (-128), 2) := by decide +kernel
theorem d4_3 : decode jdk_33_method_22_code 3 = .ok (.if_icmp .lt 20, 3) := by decide +kernel
theorem d4_6 : decode jdk_33_method_22_code 6 = .ok (.iload_n 0, 1) := by decide +kernel
theorem d4_7 : decode jdk_33_method_22_code 7 = .ok (.getstatic 191, 3) := by decide +kernel
theorem d4_10 : decode jdk_33_method_22_code 10 = .ok (.if_icmp .gt 13, 3) := by decide +kernel
theorem d4_13 : decode jdk_33_method_22_code 13 = .ok (.getstatic 195, 3) := by decide +kernel
theorem d4_16 : decode jdk_33_method_22_code 16 = .ok (.iload_n 0, 1) := by decide +kernel
theorem d4_17 : decode jdk_33_method_22_code 17 = .ok (.sipush 128, 3) := by decide +kernel
theorem d4_20 : decode jdk_33_method_22_code 20 = .ok (.iadd, 1) := by decide +kernel
theorem d4_21 : decode jdk_33_method_22_code 21 = .ok (.aaload, 1) := by decide +kernel
theorem d4_22 : decode jdk_33_method_22_code 22 = .ok (.areturn, 1) := by decide +kernel
theorem d4_23 : decode jdk_33_method_22_code 23 = .ok (.new 1, 3) := by decide +kernel
theorem d4_26 : decode jdk_33_method_22_code 26 = .ok (.dup, 1) := by decide +kernel
theorem d4_27 : decode jdk_33_method_22_code 27 = .ok (.iload_n 0, 1) := by decide +kernel
theorem d4_28 : decode jdk_33_method_22_code 28 = .ok (.invokespecial 199, 3) := by decide +kernel
theorem d4_31 : decode jdk_33_method_22_code 31 = .ok (.areturn, 1) := by decide +kernel
theorem pl_4 : plainFor (⟨"java/lang/Integer", "valueOf", "(I)Ljava/lang/Integer;"⟩ : MethodName) = true := plainFor_of_name (by first | (simp [plainName, overriddenIn]; done) | decide +kernel)
theorem d5_0 : decode jdk_33_method_23_code 0 = .ok (.aload_n 0, 1) := by decide +kernel
theorem d5_1 : decode jdk_33_method_23_code 1 = .ok (.invokespecial 202, 3) := by decide +kernel
theorem d5_4 : decode jdk_33_method_23_code 4 = .ok (.aload_n 0, 1) := by decide +kernel
theorem d5_5 : decode jdk_33_method_23_code 5 = .ok (.iload_n 1, 1) := by decide +kernel
theorem d5_6 : decode jdk_33_method_23_code 6 = .ok (.putfield 205, 3) := by decide +kernel
theorem d5_9 : decode jdk_33_method_23_code 9 = .ok (.return_, 1) := by decide +kernel
theorem pl_5 : plainFor (⟨"java/lang/Integer", "<init>", "(I)V"⟩ : MethodName) = true := plainFor_of_name (by first | (simp [plainName, overriddenIn]; done) | decide +kernel)
theorem d6_0 : decode jdk_18_method_1_code 0 = .ok (.aload_n 0, 1) := by decide +kernel
theorem d6_1 : decode jdk_18_method_1_code 1 = .ok (.invokespecial 1, 3) := by decide +kernel
theorem d6_4 : decode jdk_18_method_1_code 4 = .ok (.return_, 1) := by decide +kernel
theorem pl_6 : plainFor (⟨"java/lang/Number", "<init>", "()V"⟩ : MethodName) = true := plainFor_of_name (by first | (simp [plainName, overriddenIn]; done) | decide +kernel)
theorem pd_0 : parseMethodDescriptor "(IIII)V" = some ⟨[.int, .int, .int, .int], none⟩ := by decide +kernel
theorem pd_1 : parseMethodDescriptor "()V" = some ⟨[], none⟩ := by decide +kernel
theorem pd_2 : parseMethodDescriptor "(Ljava/lang/Object;)Z" = some ⟨[(.object "java/lang/Object")], some .boolean⟩ := by decide +kernel
theorem pd_3 : parseMethodDescriptor "(I)Ljava/lang/Integer;" = some ⟨[.int], some (.object "java/lang/Integer")⟩ := by decide +kernel
theorem pd_4 : parseMethodDescriptor "(I)V" = some ⟨[.int], none⟩ := by decide +kernel
theorem own_i128 {i : Int32} (h1 : ¬ i < (-128 : Int32)) (h2 : ¬ (127 : Int32) < i) : ¬ (i + (128 : Int32)) < 0 ∧ (i + (128 : Int32)) < (256 : Int32) := by
  have a := c_iadd i 128
  have b := rng32 (i + 128)
  have e1 : (128 : Int32).toInt = 128 := by decide
  have e2 : (-128 : Int32).toInt = -128 := by decide
  have e3 : (127 : Int32).toInt = 127 := by decide
  have e4 : (256 : Int32).toInt = 256 := by decide
  have e5 : (0 : Int32).toInt = 0 := by decide
  rw [Int32.lt_iff_toInt_lt] at h1 h2
  rw [Int32.lt_iff_toInt_lt, Int32.lt_iff_toInt_lt]
  omega
theorem own_notA {Z : State} {a0 : Array Value} {C S O K : String} {n : Nat} (w1 : (Jvm.Cond.superclass C S).before a0 Z = true) (w2 : (Jvm.Cond.superclass S O).before a0 Z = true) (w3 : (Jvm.Cond.noSuperclass O).before a0 Z = true) (wi : (Jvm.Cond.instantiable K n).before a0 Z = true) (h1 : C ≠ K) (h2 : S ≠ K) (h3 : O ≠ K) : ∃ c t, Z.vm.findClass C = some c ∧ Z.vm.findClass K = some t ∧ Z.vm.assignable c t = false := by
  obtain ⟨t, kt, g1, g2, g3, g4, -⟩ := Cond.instantiable_spec wi
  obtain ⟨o, ko, o1, o2, o3, -⟩ := Cond.noSuperclass_spec w3
  have r0 : NS Z O K := by
    have ne := ids_ne o1 g1 h3
    refine ⟨o, t, o1, g1, fun fuel => ?_⟩
    cases fuel with
    | zero => rfl
    | succ f => simp [Vm.isSubclassAux, ne, o2, o3]
  obtain ⟨c, t', h0, g0, n3⟩ := NS.step w1 (NS.step w2 r0 h2) h1
  cases g1.symm.trans g0
  obtain ⟨p, k, kp, q1, q2, q3, q4, q5, -, q7⟩ := Cond.superclass_spec h0 w1
  have ne := ids_ne h0 g1 h1
  have g5 : kt.isInterface = false := (Bool.or_eq_false_iff.mp g4).1
  refine ⟨c, t, h0, g1, ?_⟩
  show Z.vm.assignableAux (255 + 1) c t = false
  simp [Vm.assignableAux, ne, q2, g2, q5, g3, g5, Vm.isSubclass, n3]
def Q_rm_Number (Z : State) (a : Addr) (h0 : Heap) (n0 : Nat) (v : Option Value) (h : Heap) (L : List Loc) : Prop := v = none ∧ Fr n0 L ∧ h = h0
set_option maxRecDepth 65536 in
set_option maxHeartbeats 40000000 in
theorem rm_Number (l : Launch) (Z : State) (a0 : Array Value) (hw : ∀ d ∈ tables_1, d.before a0 Z = true) (ws : List Jvm.Cond) (a : Addr) (h0 : Heap) (n0 : Nat)  :
    MetFree l (⟨"java/lang/Number", "<init>", "()V"⟩ : MethodName) (head1 (Jvm.Cond.code (⟨"java/lang/Number", "<init>", "()V"⟩ : MethodName) jdk_18_method_1_code 1 none :: ws) ({ frames := 1, cells := 0, slots := 0, locals := 12 } : Room)) (fun ar U => ar = #[(.ref a)] ∧ Z.Warmed39 U.vm ∧ U.heap = h0) (fun _ _ _ _ _ => True) (fun _ U o U' => ∃ v L, o = .returned v ∧ Q_rm_Number Z a h0 n0 v U'.heap L ∧ FrameEnd U o U' L ({ frames := 1, cells := 0, slots := 0, locals := 12 } : Room).cells ({ frames := 1, cells := 0, slots := 0, locals := 12 } : Room).slots) := by
  refine own_enter (Q := (Q_rm_Number Z a h0 n0)) pl_6 ?_
  intro p e s m below meth c s₁ X0 hx hZ hby hml hown hnm hret hlk e0
  have N0 := Fr.nil n0
  refine own_by (fun tz kz => castTop (g' := (mkF m 0 #[.val (.ref a)] [])) (by first | rfl | (simp [entryFrame, mkF, argsToLocals, Value.category]; done)) kz) ?_
  show own_Go p e below s _ _ (s₁.setTop (mkF m 0 #[.val (.ref a)] []))
  refine own_by (fun tz kz => XS.aloadN X0.here hx rfl (hb hby d6_0) rfl rfl kz) ?_
  show own_Go p e below s _ _ (s₁.setTop (mkF m 1 #[.val (.ref a)] [(.ref a)]))
  obtain ⟨T1, X1, e1, st1⟩ := initO X0 hx hZ hown (hw _ (List.mem_of_getElem? (i := 47) rfl)) (hw _ (List.mem_of_getElem? (i := 8) rfl)) (hw _ (List.mem_of_getElem? (i := 9) rfl)) e0 (g := (mkF m 1 #[.val (.ref a)] [(.ref a)])) rfl (by rw [hml]; rfl) rfl (hb hby d6_1) (by decide) (W := 0) (by show 2 * 0 + _ ≤ _; exact Nat.le_of_eq rfl) (by decide)
  refine own_by st1 ?_
  show own_Go p e below s _ _ (T1.setTop (mkF m 4 #[.val (.ref a)] []))
  refine own_retV X1 hx hlk hret (hb hby d6_4) ?_ (by decide) (by decide)
  exact ⟨rfl, N0, e1⟩
def Q_rm_Iinit (Z : State) (a : Addr) (i : Int32) (h0 : Heap) (n0 : Nat) (v : Option Value) (h : Heap) (L : List Loc) : Prop := v = none ∧ Fr n0 L ∧ Keep h0 h [a]
set_option maxRecDepth 65536 in
set_option maxHeartbeats 40000000 in
theorem rm_Iinit (l : Launch) (Z : State) (a0 : Array Value) (hw : ∀ d ∈ tables_1, d.before a0 Z = true) (ws : List Jvm.Cond) (a : Addr) (i : Int32) (h0 : Heap) (n0 : Nat) (O0 : Old Z n0 h0) (E_a : Exa Z h0 a "java/lang/Integer") (F_a : Fld Z h0 a "java/lang/Integer" "value" "I" (.int (0 : Int32))) (g_a : n0 ≤ a) :
    MetFree l (⟨"java/lang/Integer", "<init>", "(I)V"⟩ : MethodName) (head1 (Jvm.Cond.code (⟨"java/lang/Integer", "<init>", "(I)V"⟩ : MethodName) jdk_33_method_23_code 2 none :: ws) ({ frames := 2, cells := 0, slots := 0, locals := 24 } : Room)) (fun ar U => ar = #[(.ref a), (.int i)] ∧ Z.Warmed39 U.vm ∧ U.heap = h0) (fun _ _ _ _ _ => True) (fun _ U o U' => ∃ v L, o = .returned v ∧ Q_rm_Iinit Z a i h0 n0 v U'.heap L ∧ FrameEnd U o U' L ({ frames := 2, cells := 0, slots := 0, locals := 24 } : Room).cells ({ frames := 2, cells := 0, slots := 0, locals := 24 } : Room).slots) := by
  refine own_enter (Q := (Q_rm_Iinit Z a i h0 n0)) pl_5 ?_
  intro p e s m below meth c s₁ X0 hx hZ hby hml hown hnm hret hlk e0
  have N0 := Fr.nil n0
  refine own_by (fun tz kz => castTop (g' := (mkF m 0 #[.val (.ref a), .val (.int i)] [])) (by first | rfl | (simp [entryFrame, mkF, argsToLocals, Value.category]; done)) kz) ?_
  have K0 := Keep.refl h0 [a]
  show own_Go p e below s _ _ (s₁.setTop (mkF m 0 #[.val (.ref a), .val (.int i)] []))
  refine own_by (fun tz kz => XS.aloadN X0.here hx rfl (hb hby d5_0) rfl rfl kz) ?_
  show own_Go p e below s _ _ (s₁.setTop (mkF m 1 #[.val (.ref a), .val (.int i)] [(.ref a)]))
  obtain ⟨_, _, ⟨T1, L1, k1, n1⟩, -, X1, ⟨Lc1, hQ1, l1, y1, z1⟩, st1⟩ := X0.specialBack hx (y := (⟨"java/lang/Number", "<init>", "()V"⟩ : MethodName)) rfl hown (mvT hZ (hw _ (List.mem_of_getElem? (i := 41) rfl))) (mvT hZ (hw _ (List.mem_of_getElem? (i := 42) rfl))) (mvT hZ (hw _ (List.mem_of_getElem? (i := 46) rfl))) (by decide) (backOf (W := 0) (rm_Number l Z a0 hw [] a h0 n0) hZ (hw _ (List.mem_of_getElem? (i := 46) rfl)) (hw _ (List.mem_of_getElem? (i := 45) rfl)) (by decide) (by decide)) (g := (mkF m 1 #[.val (.ref a), .val (.int i)] [(.ref a)])) rfl (by rw [hml]; rfl) (Steps.refl _) (a := a) (argsL := []) (rest := []) (lenOf pd_1 rfl) rfl (by show 2 * 0 + _ ≤ _; exact Nat.le_of_eq rfl) (hb hby d5_1) (fun _ _ => ⟨rfl, e0, (by decide : 0 + 0 ≤ _), (by decide : 0 + 0 ≤ _)⟩)
  dsimp only [Pt.U, Pt.locs, Pt.cells, Pt.slots] at X1 l1 y1 z1 st1 hQ1
  rw [l1, y1, z1] at X1
  obtain ⟨rfl, Nq1, e1⟩ := hQ1
  have N1 := Fr.app N0 Nq1
  refine own_via st1 ?_
  show own_Go p e below s _ _ (T1.setTop (mkF m 4 #[.val (.ref a), .val (.int i)] []))
  refine own_by (fun tz kz => XS.aloadN X1.here hx rfl (hb hby d5_4) rfl rfl kz) ?_
  show own_Go p e below s _ _ (T1.setTop (mkF m 5 #[.val (.ref a), .val (.int i)] [(.ref a)]))
  refine own_by (fun tz kz => XS.iloadN X1.here hx rfl (hb hby d5_5) rfl  kz) ?_
  show own_Go p e below s _ _ (T1.setTop (mkF m 6 #[.val (.ref a), .val (.int i)] [(.int i), (.ref a)]))
  obtain ⟨T2, h2, X2, e2, W2, st2⟩ := putF X1 hx hZ hown (host := "") (Or.inl (hw _ (List.mem_of_getElem? (i := 48) rfl))) Via.refl e1 F_a E_a (Or.inr ⟨(hw _ (List.mem_of_getElem? (i := 49) rfl)), rfl, hnm⟩) (hw _ (List.mem_of_getElem? (i := 36) rfl)) (ty := .int) (by decide) rfl rfl (g := (mkF m 6 #[.val (.ref a), .val (.int i)] [(.int i), (.ref a)])) rfl rfl (hb hby d5_6)
  have Fw2 := F_a.same W2
  have O2 := O0.wr W2 g_a
  have N2 := Fr.snoc X2 N1 g_a
  have K2 := K0.wr W2 (Or.inl (List.mem_of_getElem? (i := 0) rfl))
  refine own_by st2 ?_
  show own_Go p e below s _ _ (T2.setTop (mkF m 9 #[.val (.ref a), .val (.int i)] []))
  refine own_retV X2 hx hlk hret (hb hby d5_9) ?_ (by decide) (by decide)
  exact ⟨rfl, N2, by rw [e2]; exact K2⟩
def Q_rm_valueOf (Z : State) (i : Int32) (ca : Addr) (ccl : Cell) (val : Int32 → Value) (h0 : Heap) (n0 : Nat) (v : Option Value) (h : Heap) (L : List Loc) : Prop := ∃ b, v = some (.ref b) ∧ Fr n0 L ∧ Keep h0 h [] ∧ Exa Z h b "java/lang/Integer"
set_option maxRecDepth 65536 in
set_option maxHeartbeats 40000000 in
theorem rm_valueOf (l : Launch) (Z : State) (a0 : Array Value) (hw : ∀ d ∈ tables_1, d.before a0 Z = true) (ws : List Jvm.Cond) (i : Int32) (ca : Addr) (ccl : Cell) (val : Int32 → Value) (h0 : Heap) (n0 : Nat) (O0 : Old Z n0 h0) (S_high : Sta Z Z.heap "java/lang/Integer$IntegerCache" "high" "I" (.int (127 : Int32))) (S_cache : Sta Z Z.heap "java/lang/Integer$IntegerCache" "cache" "[Ljava/lang/Integer;" (.ref ca)) (B : Bxs Z ca ccl "java/lang/Integer" "I" (256 : Int32) val) :
    MetFree l (⟨"java/lang/Integer", "valueOf", "(I)Ljava/lang/Integer;"⟩ : MethodName) (head1 (Jvm.Cond.code (⟨"java/lang/Integer", "valueOf", "(I)Ljava/lang/Integer;"⟩ : MethodName) jdk_33_method_22_code 1 (some (.object "java/lang/Integer")) :: ws) ({ frames := 3, cells := 1, slots := 1, locals := 40 } : Room)) (fun ar U => ar = #[(.int i)] ∧ Z.Warmed39 U.vm ∧ U.heap = h0) (fun _ _ _ _ _ => True) (fun _ U o U' => ∃ v L, o = .returned v ∧ Q_rm_valueOf Z i ca ccl val h0 n0 v U'.heap L ∧ FrameEnd U o U' L ({ frames := 3, cells := 1, slots := 1, locals := 40 } : Room).cells ({ frames := 3, cells := 1, slots := 1, locals := 40 } : Room).slots) := by
  refine own_enter (Q := (Q_rm_valueOf Z i ca ccl val h0 n0)) pl_4 ?_
  intro p e s m below meth c s₁ X0 hx hZ hby hml hown hnm hret hlk e0
  have N0 := Fr.nil n0
  refine own_by (fun tz kz => castTop (g' := (mkF m 0 #[.val (.int i)] [])) (by first | rfl | (simp [entryFrame, mkF, argsToLocals, Value.category]; done)) kz) ?_
  have K0 := Keep.refl h0 []
  show own_Go p e below s _ _ (s₁.setTop (mkF m 0 #[.val (.int i)] []))
  refine own_by (fun tz kz => XS.iloadN X0.here hx rfl (hb hby d4_0) rfl  kz) ?_
  show own_Go p e below s _ _ (s₁.setTop (mkF m 1 #[.val (.int i)] [(.int i)]))
  refine own_by (fun tz kz => XS.bipush X0.here hx rfl (hb hby d4_1) kz) ?_
  show own_Go p e below s _ _ (s₁.setTop (mkF m 3 #[.val (.int i)] [(.int (-128 : Int32)), (.int i)]))
  by_cases hc3_1 : i < (-128 : Int32)
  · refine own_by (fun tz kz => XS.icmpYes X0.here hx rfl (pc0 := 3) (pc' := 23) rfl (hb hby d4_3) rfl (tlt hc3_1).1 (by decide) (by decide) kz) ?_
    show own_Go p e below s _ _ (s₁.setTop (mkF m 23 #[.val (.int i)] []))
    obtain ⟨T2, h2, X2, e2, E2, A2, D2, -, st2⟩ := newO X0 hx hZ hown (hw _ (List.mem_of_getElem? (i := 35) rfl)) (hw _ (List.mem_of_getElem? (i := 36) rfl)) (hw _ (List.mem_of_getElem? (i := 27) rfl)) e0 (g := (mkF m 23 #[.val (.int i)] [])) rfl (hb hby d4_23) (by decide) (by decide)
    obtain ⟨b2, g2⟩ : ∃ z, z = h0.size := ⟨_, rfl⟩
    rw [← g2] at A2 D2 st2
    have g_b2 : n0 ≤ b2 := by rw [g2]; exact O0.1 ▸ O0.2.1
    have sz_b2 : h0.size ≤ b2 := by rw [g2]; exact K0.1
    have O2 := O0.ext E2
    have K2 := K0.ext E2
    refine own_by st2 ?_
    have F2_value : Fld Z h2 b2 "java/lang/Integer" "value" "I" (.int (0 : Int32)) := D2 (Or.inr (hw _ (List.mem_of_getElem? (i := 49) rfl))) (ty := .int) (by decide)
    show own_Go p e below s _ _ (T2.setTop (mkF m 26 #[.val (.int i)] [(.ref b2)]))
    refine own_by (fun tz kz => XS.dup X2.here hx rfl (hb hby d4_26) rfl rfl kz) ?_
    show own_Go p e below s _ _ (T2.setTop (mkF m 27 #[.val (.int i)] [(.ref b2), (.ref b2)]))
    refine own_by (fun tz kz => XS.iloadN X2.here hx rfl (hb hby d4_27) rfl  kz) ?_
    show own_Go p e below s _ _ (T2.setTop (mkF m 28 #[.val (.int i)] [(.int i), (.ref b2), (.ref b2)]))
    obtain ⟨_, _, ⟨T3, L3, k3, n3⟩, -, X3, ⟨Lc3, hQ3, l3, y3, z3⟩, st3⟩ := X2.specialBack hx (y := (⟨"java/lang/Integer", "<init>", "(I)V"⟩ : MethodName)) rfl hown (mvT hZ (hw _ (List.mem_of_getElem? (i := 37) rfl))) (mvT hZ (hw _ (List.mem_of_getElem? (i := 38) rfl))) (mvT hZ (hw _ (List.mem_of_getElem? (i := 40) rfl))) (by decide) (backOf (W := 1) (rm_Iinit l Z a0 hw [] b2 i h2 n0 O2 A2 F2_value g_b2) hZ (hw _ (List.mem_of_getElem? (i := 40) rfl)) (hw _ (List.mem_of_getElem? (i := 27) rfl)) (by decide) (by decide)) (g := (mkF m 28 #[.val (.int i)] [(.int i), (.ref b2), (.ref b2)])) rfl (by rw [hml]; rfl) (Steps.refl _) (a := b2) (argsL := [(.int i)]) (rest := [(.ref b2)]) (lenOf pd_4 rfl) rfl (by show 2 * 0 + _ ≤ _; exact Nat.le_of_eq rfl) (hb hby d4_28) (fun _ _ => ⟨rfl, e2, (by decide : 1 + 0 ≤ _), (by decide : 1 + 0 ≤ _)⟩)
    dsimp only [Pt.U, Pt.locs, Pt.cells, Pt.slots] at X3 l3 y3 z3 st3 hQ3
    rw [l3, y3, z3] at X3
    obtain ⟨rfl, Nq3, Kq3⟩ := hQ3
    have N3 := Fr.app N0 Nq3
    have e3 : T3.heap = T3.heap := rfl
    refine own_via st3 ?_
    have O3 := O2.keep Kq3 (allS g_b2 all0)
    have K3 := K2.trans Kq3 (allS (Or.inr sz_b2) all0)
    show own_Go p e below s _ _ (T3.setTop (mkF m 31 #[.val (.int i)] [(.ref b2)]))
    have f4 := (A2.keep Kq3)
    refine own_retA X3 hx hlk (t := (.object "java/lang/Integer")) hret rfl rfl (hb hby d4_31) ?_ (by decide) (by decide)
    exact ⟨b2, rfl, N3, by rw [e3]; exact K3, by rw [e3]; exact f4⟩
  · refine own_by (fun tz kz => XS.icmpNo X0.here hx rfl (hb hby d4_3) rfl (flt hc3_1).1 kz) ?_
    show own_Go p e below s _ _ (s₁.setTop (mkF m 6 #[.val (.int i)] []))
    refine own_by (fun tz kz => XS.iloadN X0.here hx rfl (hb hby d4_6) rfl  kz) ?_
    show own_Go p e below s _ _ (s₁.setTop (mkF m 7 #[.val (.int i)] [(.int i)]))
    obtain ⟨T5, X5, e5, st5⟩ := getS2 X0 hx hZ hown (host := "") (Or.inl (hw _ (List.mem_of_getElem? (i := 29) rfl))) Via.refl e0 (S_high.ext O0.2) (g := (mkF m 7 #[.val (.int i)] [(.int i)])) rfl (hb hby d4_7)
    refine own_by st5 ?_
    show own_Go p e below s _ _ (T5.setTop (mkF m 10 #[.val (.int i)] [(.int (127 : Int32)), (.int i)]))
    by_cases hc10_6 : (127 : Int32) < i
    · refine own_by (fun tz kz => XS.icmpYes X5.here hx rfl (pc0 := 10) (pc' := 23) rfl (hb hby d4_10) rfl (tlt hc10_6).2.2.1 (by decide) (by decide) kz) ?_
      show own_Go p e below s _ _ (T5.setTop (mkF m 23 #[.val (.int i)] []))
      obtain ⟨T7, h7, X7, e7, E7, A7, D7, -, st7⟩ := newO X5 hx hZ hown (hw _ (List.mem_of_getElem? (i := 35) rfl)) (hw _ (List.mem_of_getElem? (i := 36) rfl)) (hw _ (List.mem_of_getElem? (i := 27) rfl)) e5 (g := (mkF m 23 #[.val (.int i)] [])) rfl (hb hby d4_23) (by decide) (by decide)
      obtain ⟨b7, g7⟩ : ∃ z, z = h0.size := ⟨_, rfl⟩
      rw [← g7] at A7 D7 st7
      have g_b7 : n0 ≤ b7 := by rw [g7]; exact O0.1 ▸ O0.2.1
      have sz_b7 : h0.size ≤ b7 := by rw [g7]; exact K0.1
      have O7 := O0.ext E7
      have K7 := K0.ext E7
      refine own_by st7 ?_
      have F7_value : Fld Z h7 b7 "java/lang/Integer" "value" "I" (.int (0 : Int32)) := D7 (Or.inr (hw _ (List.mem_of_getElem? (i := 49) rfl))) (ty := .int) (by decide)
      show own_Go p e below s _ _ (T7.setTop (mkF m 26 #[.val (.int i)] [(.ref b7)]))
      refine own_by (fun tz kz => XS.dup X7.here hx rfl (hb hby d4_26) rfl rfl kz) ?_
      show own_Go p e below s _ _ (T7.setTop (mkF m 27 #[.val (.int i)] [(.ref b7), (.ref b7)]))
      refine own_by (fun tz kz => XS.iloadN X7.here hx rfl (hb hby d4_27) rfl  kz) ?_
      show own_Go p e below s _ _ (T7.setTop (mkF m 28 #[.val (.int i)] [(.int i), (.ref b7), (.ref b7)]))
      obtain ⟨_, _, ⟨T8, L8, k8, n8⟩, -, X8, ⟨Lc8, hQ8, l8, y8, z8⟩, st8⟩ := X7.specialBack hx (y := (⟨"java/lang/Integer", "<init>", "(I)V"⟩ : MethodName)) rfl hown (mvT hZ (hw _ (List.mem_of_getElem? (i := 37) rfl))) (mvT hZ (hw _ (List.mem_of_getElem? (i := 38) rfl))) (mvT hZ (hw _ (List.mem_of_getElem? (i := 40) rfl))) (by decide) (backOf (W := 1) (rm_Iinit l Z a0 hw [] b7 i h7 n0 O7 A7 F7_value g_b7) hZ (hw _ (List.mem_of_getElem? (i := 40) rfl)) (hw _ (List.mem_of_getElem? (i := 27) rfl)) (by decide) (by decide)) (g := (mkF m 28 #[.val (.int i)] [(.int i), (.ref b7), (.ref b7)])) rfl (by rw [hml]; rfl) (Steps.refl _) (a := b7) (argsL := [(.int i)]) (rest := [(.ref b7)]) (lenOf pd_4 rfl) rfl (by show 2 * 0 + _ ≤ _; exact Nat.le_of_eq rfl) (hb hby d4_28) (fun _ _ => ⟨rfl, e7, (by decide : 1 + 0 ≤ _), (by decide : 1 + 0 ≤ _)⟩)
      dsimp only [Pt.U, Pt.locs, Pt.cells, Pt.slots] at X8 l8 y8 z8 st8 hQ8
      rw [l8, y8, z8] at X8
      obtain ⟨rfl, Nq8, Kq8⟩ := hQ8
      have N8 := Fr.app N0 Nq8
      have e8 : T8.heap = T8.heap := rfl
      refine own_via st8 ?_
      have O8 := O7.keep Kq8 (allS g_b7 all0)
      have K8 := K7.trans Kq8 (allS (Or.inr sz_b7) all0)
      show own_Go p e below s _ _ (T8.setTop (mkF m 31 #[.val (.int i)] [(.ref b7)]))
      have f9 := (A7.keep Kq8)
      refine own_retA X8 hx hlk (t := (.object "java/lang/Integer")) hret rfl rfl (hb hby d4_31) ?_ (by decide) (by decide)
      exact ⟨b7, rfl, N8, by rw [e8]; exact K8, by rw [e8]; exact f9⟩
    · refine own_by (fun tz kz => XS.icmpNo X5.here hx rfl (hb hby d4_10) rfl (flt hc10_6).2.2.1 kz) ?_
      show own_Go p e below s _ _ (T5.setTop (mkF m 13 #[.val (.int i)] []))
      obtain ⟨T10, X10, e10, st10⟩ := getS2 X5 hx hZ hown (host := "") (Or.inl (hw _ (List.mem_of_getElem? (i := 31) rfl))) Via.refl e5 (S_cache.ext O0.2) (g := (mkF m 13 #[.val (.int i)] [])) rfl (hb hby d4_13)
      refine own_by st10 ?_
      show own_Go p e below s _ _ (T10.setTop (mkF m 16 #[.val (.int i)] [(.ref ca)]))
      refine own_by (fun tz kz => XS.iloadN X10.here hx rfl (hb hby d4_16) rfl  kz) ?_
      show own_Go p e below s _ _ (T10.setTop (mkF m 17 #[.val (.int i)] [(.int i), (.ref ca)]))
      refine own_by (fun tz kz => XS.sipush X10.here hx rfl (hb hby d4_17) kz) ?_
      show own_Go p e below s _ _ (T10.setTop (mkF m 20 #[.val (.int i)] [(.int (128 : Int32)), (.int i), (.ref ca)]))
      refine own_by (fun tz kz => XS.iadd X10.here hx rfl (hb hby d4_20) rfl kz) ?_
      show own_Go p e below s _ _ (T10.setTop (mkF m 21 #[.val (.int i)] [(.int (i + (128 : Int32))), (.ref ca)]))
      have hin := inb_of (j := (i + (128 : Int32))) B.2.1 (own_i128 hc3_1 hc10_6)
      obtain ⟨bx, hbx, hEx, -⟩ := B.2.2.2 _ hin
      refine own_by (fun tz kz => X10.aaload hx (j := (i + (128 : Int32))) (v := (.ref bx)) (by rw [e10]; exact (B.1.ext O0.2).1) (State.isArrayOf_alike hZ.alike B.1.2.1) rfl B.1.2.2 hin hbx (g := (mkF m 21 #[.val (.int i)] [(.int (i + (128 : Int32))), (.ref ca)])) rfl rfl (hb hby d4_21) _ kz) ?_
      show own_Go p e below s _ _ (T10.setTop (mkF m 22 #[.val (.int i)] [(.ref bx)]))
      refine own_retA X10 hx hlk (t := (.object "java/lang/Integer")) hret rfl rfl (hb hby d4_22) ?_ (by decide) (by decide)
      exact ⟨bx, rfl, N0, by rw [e10]; exact K0, by rw [e10]; exact (hEx.ext O0.2)⟩
theorem own_sym4 (a b c d a' b' c' d' : Int32) : (if a = a' ∧ b = b' ∧ c = c' ∧ d = d' then (1 : Int32) else (0 : Int32)) = if a' = a ∧ b' = b ∧ c' = c ∧ d' = d then (1 : Int32) else (0 : Int32) := by
  by_cases h : a = a' ∧ b = b' ∧ c = c' ∧ d = d'
  · rw [if_pos h, if_pos ⟨h.1.symm, h.2.1.symm, h.2.2.1.symm, h.2.2.2.symm⟩]
  · rw [if_neg h, if_neg (fun q => h ⟨q.1.symm, q.2.1.symm, q.2.2.1.symm, q.2.2.2.symm⟩)]
theorem own_and31 (x : Int32) : ¬ (x &&& (2147483647 : Int32)) < (0 : Int32) := by
  have h := (c_and x 2147483647 (by decide)).1
  have e : (0 : Int32).toInt = 0 := by decide
  rw [Int32.lt_iff_toInt_lt]; omega
theorem own_ushr1 (x : Int32) : ¬ ((x.toUInt32 >>> ((1 : Int32) &&& 31).toUInt32).toInt32) < (0 : Int32) := by
  have h := c_iushr x 1 1 (by decide) (by decide)
  have r := rng32 x
  have e : (0 : Int32).toInt = 0 := by decide
  rw [Int32.lt_iff_toInt_lt, h]; omega
theorem own_k3 (x : Int32) (h2 : ¬ (x &&& (3 : Int32)) = (2 : Int32)) (h3 : ¬ (x &&& (3 : Int32)) = (3 : Int32)) : (x &&& (3 : Int32)) < (2 : Int32) := by
  have h := c_and x 3 (by decide)
  have e3 : (3 : Int32).toInt = 3 := by decide
  have e2 : (2 : Int32).toInt = 2 := by decide
  rw [← Int32.toInt_inj] at h2 h3
  rw [Int32.lt_iff_toInt_lt]; omega
def Q_rm_init (Z : State) (a : Addr) (x0 x1 x2 x3 : Int32) (h0 : Heap) (n0 : Nat) (v : Option Value) (h : Heap) (L : List Loc) : Prop := v = none ∧ Fr n0 L ∧ Keep h0 h [a] ∧ Fld Z h a "com/example/rectwire/rectwire/protocol/Rectangle" "x" "I" (.int x0) ∧ Fld Z h a "com/example/rectwire/rectwire/protocol/Rectangle" "y" "I" (.int x1) ∧ Fld Z h a "com/example/rectwire/rectwire/protocol/Rectangle" "width" "I" (.int x2) ∧ Fld Z h a "com/example/rectwire/rectwire/protocol/Rectangle" "height" "I" (.int x3)
set_option maxRecDepth 65536 in
set_option maxHeartbeats 40000000 in
theorem rm_init (l : Launch) (Z : State) (a0 : Array Value) (hw : ∀ d ∈ tables_1, d.before a0 Z = true) (ws : List Jvm.Cond) (a : Addr) (x0 x1 x2 x3 : Int32) (h0 : Heap) (n0 : Nat) (O0 : Old Z n0 h0) (E_a : Exa Z h0 a "com/example/rectwire/rectwire/protocol/Rectangle") (F_a_x : Fld Z h0 a "com/example/rectwire/rectwire/protocol/Rectangle" "x" "I" (.int (0 : Int32))) (F_a_y : Fld Z h0 a "com/example/rectwire/rectwire/protocol/Rectangle" "y" "I" (.int (0 : Int32))) (F_a_width : Fld Z h0 a "com/example/rectwire/rectwire/protocol/Rectangle" "width" "I" (.int (0 : Int32))) (F_a_height : Fld Z h0 a "com/example/rectwire/rectwire/protocol/Rectangle" "height" "I" (.int (0 : Int32))) (g_a : n0 ≤ a) (hx2 : ¬ x2 < (0 : Int32)) (hx3 : ¬ x3 < (0 : Int32)) :
    MetFree l (⟨"com/example/rectwire/rectwire/protocol/Rectangle", "<init>", "(IIII)V"⟩ : MethodName) (head1 (Jvm.Cond.code (⟨"com/example/rectwire/rectwire/protocol/Rectangle", "<init>", "(IIII)V"⟩ : MethodName) prog_29_method_1_code 5 none :: ws) ({ frames := 1, cells := 0, slots := 0, locals := 12 } : Room)) (fun ar U => ar = #[(.ref a), (.int x0), (.int x1), (.int x2), (.int x3)] ∧ Z.Warmed39 U.vm ∧ U.heap = h0) (fun _ _ _ _ _ => True) (fun _ U o U' => ∃ v L, o = .returned v ∧ Q_rm_init Z a x0 x1 x2 x3 h0 n0 v U'.heap L ∧ FrameEnd U o U' L ({ frames := 1, cells := 0, slots := 0, locals := 12 } : Room).cells ({ frames := 1, cells := 0, slots := 0, locals := 12 } : Room).slots) := by
  refine own_enter (Q := (Q_rm_init Z a x0 x1 x2 x3 h0 n0)) pl_1 ?_
  intro p e s m below meth c s₁ X0 hx hZ hby hml hown hnm hret hlk e0
  have N0 := Fr.nil n0
  refine own_by (fun tz kz => castTop (g' := (mkF m 0 #[.val (.ref a), .val (.int x0), .val (.int x1), .val (.int x2), .val (.int x3)] [])) (by first | rfl | (simp [entryFrame, mkF, argsToLocals, Value.category]; done)) kz) ?_
  have K0 := Keep.refl h0 [a]
  show own_Go p e below s _ _ (s₁.setTop (mkF m 0 #[.val (.ref a), .val (.int x0), .val (.int x1), .val (.int x2), .val (.int x3)] []))
  refine own_by (fun tz kz => XS.aloadN X0.here hx rfl (hb hby d1_0) rfl rfl kz) ?_
  show own_Go p e below s _ _ (s₁.setTop (mkF m 1 #[.val (.ref a), .val (.int x0), .val (.int x1), .val (.int x2), .val (.int x3)] [(.ref a)]))
  obtain ⟨T1, X1, e1, st1⟩ := initO X0 hx hZ hown (hw _ (List.mem_of_getElem? (i := 7) rfl)) (hw _ (List.mem_of_getElem? (i := 8) rfl)) (hw _ (List.mem_of_getElem? (i := 9) rfl)) e0 (g := (mkF m 1 #[.val (.ref a), .val (.int x0), .val (.int x1), .val (.int x2), .val (.int x3)] [(.ref a)])) rfl (by rw [hml]; rfl) rfl (hb hby d1_1) (by decide) (W := 0) (by show 2 * 0 + _ ≤ _; exact Nat.le_of_eq rfl) (by decide)
  refine own_by st1 ?_
  show own_Go p e below s _ _ (T1.setTop (mkF m 4 #[.val (.ref a), .val (.int x0), .val (.int x1), .val (.int x2), .val (.int x3)] []))
  refine own_by (fun tz kz => XS.iloadN X1.here hx rfl (hb hby d1_4) rfl  kz) ?_
  show own_Go p e below s _ _ (T1.setTop (mkF m 5 #[.val (.ref a), .val (.int x0), .val (.int x1), .val (.int x2), .val (.int x3)] [(.int x2)]))
  refine own_by (fun tz kz => XS.ifNo X1.here hx rfl (hb hby d1_5) rfl ((if0 _ _).trans (flt hx2).1) kz) ?_
  show own_Go p e below s _ _ (T1.setTop (mkF m 8 #[.val (.ref a), .val (.int x0), .val (.int x1), .val (.int x2), .val (.int x3)] []))
  refine own_by (fun tz kz => XS.iload X1.here hx rfl (hb hby d1_8) rfl  kz) ?_
  show own_Go p e below s _ _ (T1.setTop (mkF m 10 #[.val (.ref a), .val (.int x0), .val (.int x1), .val (.int x2), .val (.int x3)] [(.int x3)]))
  refine own_by (fun tz kz => XS.ifYes X1.here hx rfl (pc0 := 10) (pc' := 29) rfl (hb hby d1_10) rfl ((if0 _ _).trans (flt hx3).2.1) (by decide) (by decide) kz) ?_
  show own_Go p e below s _ _ (T1.setTop (mkF m 29 #[.val (.ref a), .val (.int x0), .val (.int x1), .val (.int x2), .val (.int x3)] []))
  refine own_by (fun tz kz => XS.aloadN X1.here hx rfl (hb hby d1_29) rfl rfl kz) ?_
  show own_Go p e below s _ _ (T1.setTop (mkF m 30 #[.val (.ref a), .val (.int x0), .val (.int x1), .val (.int x2), .val (.int x3)] [(.ref a)]))
  refine own_by (fun tz kz => XS.iloadN X1.here hx rfl (hb hby d1_30) rfl  kz) ?_
  show own_Go p e below s _ _ (T1.setTop (mkF m 31 #[.val (.ref a), .val (.int x0), .val (.int x1), .val (.int x2), .val (.int x3)] [(.int x0), (.ref a)]))
  obtain ⟨T2, h2, X2, e2, W2, st2⟩ := putF X1 hx hZ hown (host := "") (Or.inl (hw _ (List.mem_of_getElem? (i := 10) rfl))) Via.refl e1 F_a_x E_a (Or.inr ⟨(hw _ (List.mem_of_getElem? (i := 11) rfl)), rfl, hnm⟩) (hw _ (List.mem_of_getElem? (i := 2) rfl)) (ty := .int) (by decide) rfl rfl (g := (mkF m 31 #[.val (.ref a), .val (.int x0), .val (.int x1), .val (.int x2), .val (.int x3)] [(.int x0), (.ref a)])) rfl rfl (hb hby d1_31)
  have Fw2 := F_a_x.same W2
  have O2 := O0.wr W2 g_a
  have N2 := Fr.snoc X2 N0 g_a
  have K2 := K0.wr W2 (Or.inl (List.mem_of_getElem? (i := 0) rfl))
  refine own_by st2 ?_
  show own_Go p e below s _ _ (T2.setTop (mkF m 34 #[.val (.ref a), .val (.int x0), .val (.int x1), .val (.int x2), .val (.int x3)] []))
  refine own_by (fun tz kz => XS.aloadN X2.here hx rfl (hb hby d1_34) rfl rfl kz) ?_
  show own_Go p e below s _ _ (T2.setTop (mkF m 35 #[.val (.ref a), .val (.int x0), .val (.int x1), .val (.int x2), .val (.int x3)] [(.ref a)]))
  refine own_by (fun tz kz => XS.iloadN X2.here hx rfl (hb hby d1_35) rfl  kz) ?_
  show own_Go p e below s _ _ (T2.setTop (mkF m 36 #[.val (.ref a), .val (.int x0), .val (.int x1), .val (.int x2), .val (.int x3)] [(.int x1), (.ref a)]))
  have f3 := (F_a_y.other W2 (Or.inr (slot_ne (Or.inr (hw _ (List.mem_of_getElem? (i := 13) rfl))) (Or.inr (hw _ (List.mem_of_getElem? (i := 11) rfl))) (by decide) (t := .int) (t' := .int) (by decide) (by decide))))
  have f4 := (E_a.wr W2)
  obtain ⟨T5, h5, X5, e5, W5, st5⟩ := putF X2 hx hZ hown (host := "") (Or.inl (hw _ (List.mem_of_getElem? (i := 12) rfl))) Via.refl e2 f3 f4 (Or.inr ⟨(hw _ (List.mem_of_getElem? (i := 13) rfl)), rfl, hnm⟩) (hw _ (List.mem_of_getElem? (i := 2) rfl)) (ty := .int) (by decide) rfl rfl (g := (mkF m 36 #[.val (.ref a), .val (.int x0), .val (.int x1), .val (.int x2), .val (.int x3)] [(.int x1), (.ref a)])) rfl rfl (hb hby d1_36)
  have Fw5 := f3.same W5
  have O5 := O2.wr W5 g_a
  have N5 := Fr.snoc X5 N2 g_a
  have K5 := K2.wr W5 (Or.inl (List.mem_of_getElem? (i := 0) rfl))
  refine own_by st5 ?_
  show own_Go p e below s _ _ (T5.setTop (mkF m 39 #[.val (.ref a), .val (.int x0), .val (.int x1), .val (.int x2), .val (.int x3)] []))
  refine own_by (fun tz kz => XS.aloadN X5.here hx rfl (hb hby d1_39) rfl rfl kz) ?_
  show own_Go p e below s _ _ (T5.setTop (mkF m 40 #[.val (.ref a), .val (.int x0), .val (.int x1), .val (.int x2), .val (.int x3)] [(.ref a)]))
  refine own_by (fun tz kz => XS.iloadN X5.here hx rfl (hb hby d1_40) rfl  kz) ?_
  show own_Go p e below s _ _ (T5.setTop (mkF m 41 #[.val (.ref a), .val (.int x0), .val (.int x1), .val (.int x2), .val (.int x3)] [(.int x2), (.ref a)]))
  have f6 := ((F_a_width.other W2 (Or.inr (slot_ne (Or.inr (hw _ (List.mem_of_getElem? (i := 15) rfl))) (Or.inr (hw _ (List.mem_of_getElem? (i := 11) rfl))) (by decide) (t := .int) (t' := .int) (by decide) (by decide)))).other W5 (Or.inr (slot_ne (Or.inr (hw _ (List.mem_of_getElem? (i := 15) rfl))) (Or.inr (hw _ (List.mem_of_getElem? (i := 13) rfl))) (by decide) (t := .int) (t' := .int) (by decide) (by decide))))
  have f7 := (f4.wr W5)
  obtain ⟨T8, h8, X8, e8, W8, st8⟩ := putF X5 hx hZ hown (host := "") (Or.inl (hw _ (List.mem_of_getElem? (i := 14) rfl))) Via.refl e5 f6 f7 (Or.inr ⟨(hw _ (List.mem_of_getElem? (i := 15) rfl)), rfl, hnm⟩) (hw _ (List.mem_of_getElem? (i := 2) rfl)) (ty := .int) (by decide) rfl rfl (g := (mkF m 41 #[.val (.ref a), .val (.int x0), .val (.int x1), .val (.int x2), .val (.int x3)] [(.int x2), (.ref a)])) rfl rfl (hb hby d1_41)
  have Fw8 := f6.same W8
  have O8 := O5.wr W8 g_a
  have N8 := Fr.snoc X8 N5 g_a
  have K8 := K5.wr W8 (Or.inl (List.mem_of_getElem? (i := 0) rfl))
  refine own_by st8 ?_
  show own_Go p e below s _ _ (T8.setTop (mkF m 44 #[.val (.ref a), .val (.int x0), .val (.int x1), .val (.int x2), .val (.int x3)] []))
  refine own_by (fun tz kz => XS.aloadN X8.here hx rfl (hb hby d1_44) rfl rfl kz) ?_
  show own_Go p e below s _ _ (T8.setTop (mkF m 45 #[.val (.ref a), .val (.int x0), .val (.int x1), .val (.int x2), .val (.int x3)] [(.ref a)]))
  refine own_by (fun tz kz => XS.iload X8.here hx rfl (hb hby d1_45) rfl  kz) ?_
  show own_Go p e below s _ _ (T8.setTop (mkF m 47 #[.val (.ref a), .val (.int x0), .val (.int x1), .val (.int x2), .val (.int x3)] [(.int x3), (.ref a)]))
  have f9 := (((F_a_height.other W2 (Or.inr (slot_ne (Or.inr (hw _ (List.mem_of_getElem? (i := 17) rfl))) (Or.inr (hw _ (List.mem_of_getElem? (i := 11) rfl))) (by decide) (t := .int) (t' := .int) (by decide) (by decide)))).other W5 (Or.inr (slot_ne (Or.inr (hw _ (List.mem_of_getElem? (i := 17) rfl))) (Or.inr (hw _ (List.mem_of_getElem? (i := 13) rfl))) (by decide) (t := .int) (t' := .int) (by decide) (by decide)))).other W8 (Or.inr (slot_ne (Or.inr (hw _ (List.mem_of_getElem? (i := 17) rfl))) (Or.inr (hw _ (List.mem_of_getElem? (i := 15) rfl))) (by decide) (t := .int) (t' := .int) (by decide) (by decide))))
  have f10 := (f7.wr W8)
  obtain ⟨T11, h11, X11, e11, W11, st11⟩ := putF X8 hx hZ hown (host := "") (Or.inl (hw _ (List.mem_of_getElem? (i := 16) rfl))) Via.refl e8 f9 f10 (Or.inr ⟨(hw _ (List.mem_of_getElem? (i := 17) rfl)), rfl, hnm⟩) (hw _ (List.mem_of_getElem? (i := 2) rfl)) (ty := .int) (by decide) rfl rfl (g := (mkF m 47 #[.val (.ref a), .val (.int x0), .val (.int x1), .val (.int x2), .val (.int x3)] [(.int x3), (.ref a)])) rfl rfl (hb hby d1_47)
  have Fw11 := f9.same W11
  have O11 := O8.wr W11 g_a
  have N11 := Fr.snoc X11 N8 g_a
  have K11 := K8.wr W11 (Or.inl (List.mem_of_getElem? (i := 0) rfl))
  refine own_by st11 ?_
  show own_Go p e below s _ _ (T11.setTop (mkF m 50 #[.val (.ref a), .val (.int x0), .val (.int x1), .val (.int x2), .val (.int x3)] []))
  have f12 := (((Fw2.other W5 (Or.inr (slot_ne (Or.inr (hw _ (List.mem_of_getElem? (i := 11) rfl))) (Or.inr (hw _ (List.mem_of_getElem? (i := 13) rfl))) (by decide) (t := .int) (t' := .int) (by decide) (by decide)))).other W8 (Or.inr (slot_ne (Or.inr (hw _ (List.mem_of_getElem? (i := 11) rfl))) (Or.inr (hw _ (List.mem_of_getElem? (i := 15) rfl))) (by decide) (t := .int) (t' := .int) (by decide) (by decide)))).other W11 (Or.inr (slot_ne (Or.inr (hw _ (List.mem_of_getElem? (i := 11) rfl))) (Or.inr (hw _ (List.mem_of_getElem? (i := 17) rfl))) (by decide) (t := .int) (t' := .int) (by decide) (by decide))))
  have f13 := ((Fw5.other W8 (Or.inr (slot_ne (Or.inr (hw _ (List.mem_of_getElem? (i := 13) rfl))) (Or.inr (hw _ (List.mem_of_getElem? (i := 15) rfl))) (by decide) (t := .int) (t' := .int) (by decide) (by decide)))).other W11 (Or.inr (slot_ne (Or.inr (hw _ (List.mem_of_getElem? (i := 13) rfl))) (Or.inr (hw _ (List.mem_of_getElem? (i := 17) rfl))) (by decide) (t := .int) (t' := .int) (by decide) (by decide))))
  have f14 := (Fw8.other W11 (Or.inr (slot_ne (Or.inr (hw _ (List.mem_of_getElem? (i := 15) rfl))) (Or.inr (hw _ (List.mem_of_getElem? (i := 17) rfl))) (by decide) (t := .int) (t' := .int) (by decide) (by decide))))
  refine own_retV X11 hx hlk hret (hb hby d1_50) ?_ (by decide) (by decide)
  exact ⟨rfl, N11, by rw [e11]; exact K11, by rw [e11]; exact f12, by rw [e11]; exact f13, by rw [e11]; exact f14, by rw [e11]; exact Fw11⟩
def Q_rm_eq (Z : State) (a b : Addr) (x0 x1 x2 x3 y0 y1 y2 y3 r : Int32) (h0 : Heap) (n0 : Nat) (v : Option Value) (h : Heap) (L : List Loc) : Prop := v = some (.int r) ∧ Fr n0 L ∧ h = h0
set_option maxRecDepth 65536 in
set_option maxHeartbeats 40000000 in
theorem rm_eq (l : Launch) (Z : State) (a0 : Array Value) (hw : ∀ d ∈ tables_1, d.before a0 Z = true) (ws : List Jvm.Cond) (a b : Addr) (x0 x1 x2 x3 y0 y1 y2 y3 r : Int32) (h0 : Heap) (n0 : Nat) (E_b : Exa Z h0 b "com/example/rectwire/rectwire/protocol/Rectangle") (F_a_x : Fld Z h0 a "com/example/rectwire/rectwire/protocol/Rectangle" "x" "I" (.int x0)) (F_a_y : Fld Z h0 a "com/example/rectwire/rectwire/protocol/Rectangle" "y" "I" (.int x1)) (F_a_width : Fld Z h0 a "com/example/rectwire/rectwire/protocol/Rectangle" "width" "I" (.int x2)) (F_a_height : Fld Z h0 a "com/example/rectwire/rectwire/protocol/Rectangle" "height" "I" (.int x3)) (F_b_x : Fld Z h0 b "com/example/rectwire/rectwire/protocol/Rectangle" "x" "I" (.int y0)) (F_b_y : Fld Z h0 b "com/example/rectwire/rectwire/protocol/Rectangle" "y" "I" (.int y1)) (F_b_width : Fld Z h0 b "com/example/rectwire/rectwire/protocol/Rectangle" "width" "I" (.int y2)) (F_b_height : Fld Z h0 b "com/example/rectwire/rectwire/protocol/Rectangle" "height" "I" (.int y3)) (hr : r = if x0 = y0 ∧ x1 = y1 ∧ x2 = y2 ∧ x3 = y3 then (1 : Int32) else (0 : Int32)) :
    MetFree l (⟨"com/example/rectwire/rectwire/protocol/Rectangle", "equals", "(Ljava/lang/Object;)Z"⟩ : MethodName) (head1 (Jvm.Cond.code (⟨"com/example/rectwire/rectwire/protocol/Rectangle", "equals", "(Ljava/lang/Object;)Z"⟩ : MethodName) prog_29_method_14_code 3 (some .boolean) :: ws) ({ frames := 0, cells := 0, slots := 0, locals := 0 } : Room)) (fun ar U => ar = #[(.ref a), (.ref b)] ∧ Z.Warmed39 U.vm ∧ U.heap = h0) (fun _ _ _ _ _ => True) (fun _ U o U' => ∃ v L, o = .returned v ∧ Q_rm_eq Z a b x0 x1 x2 x3 y0 y1 y2 y3 r h0 n0 v U'.heap L ∧ FrameEnd U o U' L ({ frames := 0, cells := 0, slots := 0, locals := 0 } : Room).cells ({ frames := 0, cells := 0, slots := 0, locals := 0 } : Room).slots) := by
  refine own_enter (Q := (Q_rm_eq Z a b x0 x1 x2 x3 y0 y1 y2 y3 r h0 n0)) pl_3 ?_
  intro p e s m below meth c s₁ X0 hx hZ hby hml hown hnm hret hlk e0
  have N0 := Fr.nil n0
  refine own_by (fun tz kz => castTop (g' := (mkF m 0 #[.val (.ref a), .val (.ref b), .unset] [])) (by first | rfl | (simp [entryFrame, mkF, argsToLocals, Value.category]; done)) kz) ?_
  show own_Go p e below s _ _ (s₁.setTop (mkF m 0 #[.val (.ref a), .val (.ref b), .unset] []))
  refine own_by (fun tz kz => XS.aloadN X0.here hx rfl (hb hby d3_0) rfl rfl kz) ?_
  show own_Go p e below s _ _ (s₁.setTop (mkF m 1 #[.val (.ref a), .val (.ref b), .unset] [(.ref b)]))
  obtain ⟨T1, X1, e1, st1⟩ := instY X0 hx hZ hown (hw _ (List.mem_of_getElem? (i := 23) rfl)) e0 (Ins.self E_b) (g := (mkF m 1 #[.val (.ref a), .val (.ref b), .unset] [(.ref b)])) rfl rfl (hb hby d3_1)
  refine own_by st1 ?_
  show own_Go p e below s _ _ (T1.setTop (mkF m 4 #[.val (.ref a), .val (.ref b), .unset] [(.int (1 : Int32))]))
  refine own_by (fun tz kz => XS.ifYes X1.here hx rfl (pc0 := 4) (pc' := 9) rfl (hb hby d3_4) rfl ((if0 _ _).trans (feq (by decide : ¬ (1 : Int32) = (0 : Int32))).2) (by decide) (by decide) kz) ?_
  show own_Go p e below s _ _ (T1.setTop (mkF m 9 #[.val (.ref a), .val (.ref b), .unset] []))
  refine own_by (fun tz kz => XS.aloadN X1.here hx rfl (hb hby d3_9) rfl rfl kz) ?_
  show own_Go p e below s _ _ (T1.setTop (mkF m 10 #[.val (.ref a), .val (.ref b), .unset] [(.ref b)]))
  obtain ⟨T2, X2, e2, st2⟩ := castY X1 hx hZ hown (hw _ (List.mem_of_getElem? (i := 23) rfl)) e1 (Ins.self E_b) (g := (mkF m 10 #[.val (.ref a), .val (.ref b), .unset] [(.ref b)])) rfl rfl (hb hby d3_10)
  refine own_by st2 ?_
  show own_Go p e below s _ _ (T2.setTop (mkF m 13 #[.val (.ref a), .val (.ref b), .unset] [(.ref b)]))
  refine own_by (fun tz kz => XS.astoreN X2.here hx rfl (hb hby d3_13) rfl rfl (l' := #[.val (.ref a), .val (.ref b), .val (.ref b)]) rfl kz) ?_
  show own_Go p e below s _ _ (T2.setTop (mkF m 14 #[.val (.ref a), .val (.ref b), .val (.ref b)] []))
  refine own_by (fun tz kz => XS.aloadN X2.here hx rfl (hb hby d3_14) rfl rfl kz) ?_
  show own_Go p e below s _ _ (T2.setTop (mkF m 15 #[.val (.ref a), .val (.ref b), .val (.ref b)] [(.ref a)]))
  obtain ⟨T3, X3, e3, st3⟩ := getF X2 hx hZ hown (host := "") (Or.inl (hw _ (List.mem_of_getElem? (i := 10) rfl))) Via.refl e2 F_a_x (g := (mkF m 15 #[.val (.ref a), .val (.ref b), .val (.ref b)] [(.ref a)])) rfl rfl (hb hby d3_15)
  refine own_by st3 ?_
  show own_Go p e below s _ _ (T3.setTop (mkF m 18 #[.val (.ref a), .val (.ref b), .val (.ref b)] [(.int x0)]))
  refine own_by (fun tz kz => XS.aloadN X3.here hx rfl (hb hby d3_18) rfl rfl kz) ?_
  show own_Go p e below s _ _ (T3.setTop (mkF m 19 #[.val (.ref a), .val (.ref b), .val (.ref b)] [(.ref b), (.int x0)]))
  obtain ⟨T4, X4, e4, st4⟩ := getF X3 hx hZ hown (host := "") (Or.inl (hw _ (List.mem_of_getElem? (i := 10) rfl))) Via.refl e3 F_b_x (g := (mkF m 19 #[.val (.ref a), .val (.ref b), .val (.ref b)] [(.ref b), (.int x0)])) rfl rfl (hb hby d3_19)
  refine own_by st4 ?_
  show own_Go p e below s _ _ (T4.setTop (mkF m 22 #[.val (.ref a), .val (.ref b), .val (.ref b)] [(.int y0), (.int x0)]))
  by_cases hc22_5 : x0 = y0
  · refine own_by (fun tz kz => XS.icmpNo X4.here hx rfl (hb hby d3_22) rfl (teq hc22_5).2 kz) ?_
    show own_Go p e below s _ _ (T4.setTop (mkF m 25 #[.val (.ref a), .val (.ref b), .val (.ref b)] []))
    refine own_by (fun tz kz => XS.aloadN X4.here hx rfl (hb hby d3_25) rfl rfl kz) ?_
    show own_Go p e below s _ _ (T4.setTop (mkF m 26 #[.val (.ref a), .val (.ref b), .val (.ref b)] [(.ref a)]))
    obtain ⟨T6, X6, e6, st6⟩ := getF X4 hx hZ hown (host := "") (Or.inl (hw _ (List.mem_of_getElem? (i := 12) rfl))) Via.refl e4 F_a_y (g := (mkF m 26 #[.val (.ref a), .val (.ref b), .val (.ref b)] [(.ref a)])) rfl rfl (hb hby d3_26)
    refine own_by st6 ?_
    show own_Go p e below s _ _ (T6.setTop (mkF m 29 #[.val (.ref a), .val (.ref b), .val (.ref b)] [(.int x1)]))
    refine own_by (fun tz kz => XS.aloadN X6.here hx rfl (hb hby d3_29) rfl rfl kz) ?_
    show own_Go p e below s _ _ (T6.setTop (mkF m 30 #[.val (.ref a), .val (.ref b), .val (.ref b)] [(.ref b), (.int x1)]))
    obtain ⟨T7, X7, e7, st7⟩ := getF X6 hx hZ hown (host := "") (Or.inl (hw _ (List.mem_of_getElem? (i := 12) rfl))) Via.refl e6 F_b_y (g := (mkF m 30 #[.val (.ref a), .val (.ref b), .val (.ref b)] [(.ref b), (.int x1)])) rfl rfl (hb hby d3_30)
    refine own_by st7 ?_
    show own_Go p e below s _ _ (T7.setTop (mkF m 33 #[.val (.ref a), .val (.ref b), .val (.ref b)] [(.int y1), (.int x1)]))
    by_cases hc33_8 : x1 = y1
    · refine own_by (fun tz kz => XS.icmpNo X7.here hx rfl (hb hby d3_33) rfl (teq hc33_8).2 kz) ?_
      show own_Go p e below s _ _ (T7.setTop (mkF m 36 #[.val (.ref a), .val (.ref b), .val (.ref b)] []))
      refine own_by (fun tz kz => XS.aloadN X7.here hx rfl (hb hby d3_36) rfl rfl kz) ?_
      show own_Go p e below s _ _ (T7.setTop (mkF m 37 #[.val (.ref a), .val (.ref b), .val (.ref b)] [(.ref a)]))
      obtain ⟨T9, X9, e9, st9⟩ := getF X7 hx hZ hown (host := "") (Or.inl (hw _ (List.mem_of_getElem? (i := 14) rfl))) Via.refl e7 F_a_width (g := (mkF m 37 #[.val (.ref a), .val (.ref b), .val (.ref b)] [(.ref a)])) rfl rfl (hb hby d3_37)
      refine own_by st9 ?_
      show own_Go p e below s _ _ (T9.setTop (mkF m 40 #[.val (.ref a), .val (.ref b), .val (.ref b)] [(.int x2)]))
      refine own_by (fun tz kz => XS.aloadN X9.here hx rfl (hb hby d3_40) rfl rfl kz) ?_
      show own_Go p e below s _ _ (T9.setTop (mkF m 41 #[.val (.ref a), .val (.ref b), .val (.ref b)] [(.ref b), (.int x2)]))
      obtain ⟨T10, X10, e10, st10⟩ := getF X9 hx hZ hown (host := "") (Or.inl (hw _ (List.mem_of_getElem? (i := 14) rfl))) Via.refl e9 F_b_width (g := (mkF m 41 #[.val (.ref a), .val (.ref b), .val (.ref b)] [(.ref b), (.int x2)])) rfl rfl (hb hby d3_41)
      refine own_by st10 ?_
      show own_Go p e below s _ _ (T10.setTop (mkF m 44 #[.val (.ref a), .val (.ref b), .val (.ref b)] [(.int y2), (.int x2)]))
      by_cases hc44_11 : x2 = y2
      · refine own_by (fun tz kz => XS.icmpNo X10.here hx rfl (hb hby d3_44) rfl (teq hc44_11).2 kz) ?_
        show own_Go p e below s _ _ (T10.setTop (mkF m 47 #[.val (.ref a), .val (.ref b), .val (.ref b)] []))
        refine own_by (fun tz kz => XS.aloadN X10.here hx rfl (hb hby d3_47) rfl rfl kz) ?_
        show own_Go p e below s _ _ (T10.setTop (mkF m 48 #[.val (.ref a), .val (.ref b), .val (.ref b)] [(.ref a)]))
        obtain ⟨T12, X12, e12, st12⟩ := getF X10 hx hZ hown (host := "") (Or.inl (hw _ (List.mem_of_getElem? (i := 16) rfl))) Via.refl e10 F_a_height (g := (mkF m 48 #[.val (.ref a), .val (.ref b), .val (.ref b)] [(.ref a)])) rfl rfl (hb hby d3_48)
        refine own_by st12 ?_
        show own_Go p e below s _ _ (T12.setTop (mkF m 51 #[.val (.ref a), .val (.ref b), .val (.ref b)] [(.int x3)]))
        refine own_by (fun tz kz => XS.aloadN X12.here hx rfl (hb hby d3_51) rfl rfl kz) ?_
        show own_Go p e below s _ _ (T12.setTop (mkF m 52 #[.val (.ref a), .val (.ref b), .val (.ref b)] [(.ref b), (.int x3)]))
        obtain ⟨T13, X13, e13, st13⟩ := getF X12 hx hZ hown (host := "") (Or.inl (hw _ (List.mem_of_getElem? (i := 16) rfl))) Via.refl e12 F_b_height (g := (mkF m 52 #[.val (.ref a), .val (.ref b), .val (.ref b)] [(.ref b), (.int x3)])) rfl rfl (hb hby d3_52)
        refine own_by st13 ?_
        show own_Go p e below s _ _ (T13.setTop (mkF m 55 #[.val (.ref a), .val (.ref b), .val (.ref b)] [(.int y3), (.int x3)]))
        by_cases hc55_14 : x3 = y3
        · refine own_by (fun tz kz => XS.icmpNo X13.here hx rfl (hb hby d3_55) rfl (teq hc55_14).2 kz) ?_
          show own_Go p e below s _ _ (T13.setTop (mkF m 58 #[.val (.ref a), .val (.ref b), .val (.ref b)] []))
          refine own_by (fun tz kz => XS.iconst X13.here hx rfl (hb hby d3_58) kz) ?_
          show own_Go p e below s _ _ (T13.setTop (mkF m 59 #[.val (.ref a), .val (.ref b), .val (.ref b)] [(.int (1 : Int32))]))
          refine own_by (fun tz kz => XS.goto X13.here hx rfl (pc0 := 59) (pc' := 63) rfl (hb hby d3_59) (by decide) (by decide) kz) ?_
          show own_Go p e below s _ _ (T13.setTop (mkF m 63 #[.val (.ref a), .val (.ref b), .val (.ref b)] [(.int (1 : Int32))]))
          refine own_retI X13 hx hlk (t := .boolean) hret (by simp) rfl (hb hby d3_63) ?_ (by decide) (by decide)
          exact ⟨by simp [hr, hc22_5, hc33_8, hc44_11, hc55_14], N0, e13⟩
        · refine own_by (fun tz kz => XS.icmpYes X13.here hx rfl (pc0 := 55) (pc' := 62) rfl (hb hby d3_55) rfl (feq hc55_14).2 (by decide) (by decide) kz) ?_
          show own_Go p e below s _ _ (T13.setTop (mkF m 62 #[.val (.ref a), .val (.ref b), .val (.ref b)] []))
          refine own_by (fun tz kz => XS.iconst X13.here hx rfl (hb hby d3_62) kz) ?_
          show own_Go p e below s _ _ (T13.setTop (mkF m 63 #[.val (.ref a), .val (.ref b), .val (.ref b)] [(.int (0 : Int32))]))
          refine own_retI X13 hx hlk (t := .boolean) hret (by simp) rfl (hb hby d3_63) ?_ (by decide) (by decide)
          exact ⟨by simp [hr, hc22_5, hc33_8, hc44_11, hc55_14], N0, e13⟩
      · refine own_by (fun tz kz => XS.icmpYes X10.here hx rfl (pc0 := 44) (pc' := 62) rfl (hb hby d3_44) rfl (feq hc44_11).2 (by decide) (by decide) kz) ?_
        show own_Go p e below s _ _ (T10.setTop (mkF m 62 #[.val (.ref a), .val (.ref b), .val (.ref b)] []))
        refine own_by (fun tz kz => XS.iconst X10.here hx rfl (hb hby d3_62) kz) ?_
        show own_Go p e below s _ _ (T10.setTop (mkF m 63 #[.val (.ref a), .val (.ref b), .val (.ref b)] [(.int (0 : Int32))]))
        refine own_retI X10 hx hlk (t := .boolean) hret (by simp) rfl (hb hby d3_63) ?_ (by decide) (by decide)
        exact ⟨by simp [hr, hc22_5, hc33_8, hc44_11], N0, e10⟩
    · refine own_by (fun tz kz => XS.icmpYes X7.here hx rfl (pc0 := 33) (pc' := 62) rfl (hb hby d3_33) rfl (feq hc33_8).2 (by decide) (by decide) kz) ?_
      show own_Go p e below s _ _ (T7.setTop (mkF m 62 #[.val (.ref a), .val (.ref b), .val (.ref b)] []))
      refine own_by (fun tz kz => XS.iconst X7.here hx rfl (hb hby d3_62) kz) ?_
      show own_Go p e below s _ _ (T7.setTop (mkF m 63 #[.val (.ref a), .val (.ref b), .val (.ref b)] [(.int (0 : Int32))]))
      refine own_retI X7 hx hlk (t := .boolean) hret (by simp) rfl (hb hby d3_63) ?_ (by decide) (by decide)
      exact ⟨by simp [hr, hc22_5, hc33_8], N0, e7⟩
  · refine own_by (fun tz kz => XS.icmpYes X4.here hx rfl (pc0 := 22) (pc' := 62) rfl (hb hby d3_22) rfl (feq hc22_5).2 (by decide) (by decide) kz) ?_
    show own_Go p e below s _ _ (T4.setTop (mkF m 62 #[.val (.ref a), .val (.ref b), .val (.ref b)] []))
    refine own_by (fun tz kz => XS.iconst X4.here hx rfl (hb hby d3_62) kz) ?_
    show own_Go p e below s _ _ (T4.setTop (mkF m 63 #[.val (.ref a), .val (.ref b), .val (.ref b)] [(.int (0 : Int32))]))
    refine own_retI X4 hx hlk (t := .boolean) hret (by simp) rfl (hb hby d3_63) ?_ (by decide) (by decide)
    exact ⟨by simp [hr, hc22_5], N0, e4⟩
def Q_rm_eqN (Z : State) (a : Addr) (h0 : Heap) (n0 : Nat) (v : Option Value) (h : Heap) (L : List Loc) : Prop := v = some (.int (0 : Int32)) ∧ Fr n0 L ∧ h = h0
set_option maxRecDepth 65536 in
set_option maxHeartbeats 40000000 in
theorem rm_eqN (l : Launch) (Z : State) (a0 : Array Value) (hw : ∀ d ∈ tables_1, d.before a0 Z = true) (ws : List Jvm.Cond) (a : Addr) (h0 : Heap) (n0 : Nat)  :
    MetFree l (⟨"com/example/rectwire/rectwire/protocol/Rectangle", "equals", "(Ljava/lang/Object;)Z"⟩ : MethodName) (head1 (Jvm.Cond.code (⟨"com/example/rectwire/rectwire/protocol/Rectangle", "equals", "(Ljava/lang/Object;)Z"⟩ : MethodName) prog_29_method_14_code 3 (some .boolean) :: ws) ({ frames := 0, cells := 0, slots := 0, locals := 0 } : Room)) (fun ar U => ar = #[(.ref a), .null] ∧ Z.Warmed39 U.vm ∧ U.heap = h0) (fun _ _ _ _ _ => True) (fun _ U o U' => ∃ v L, o = .returned v ∧ Q_rm_eqN Z a h0 n0 v U'.heap L ∧ FrameEnd U o U' L ({ frames := 0, cells := 0, slots := 0, locals := 0 } : Room).cells ({ frames := 0, cells := 0, slots := 0, locals := 0 } : Room).slots) := by
  refine own_enter (Q := (Q_rm_eqN Z a h0 n0)) pl_3 ?_
  intro p e s m below meth c s₁ X0 hx hZ hby hml hown hnm hret hlk e0
  have N0 := Fr.nil n0
  refine own_by (fun tz kz => castTop (g' := (mkF m 0 #[.val (.ref a), .val .null, .unset] [])) (by first | rfl | (simp [entryFrame, mkF, argsToLocals, Value.category]; done)) kz) ?_
  show own_Go p e below s _ _ (s₁.setTop (mkF m 0 #[.val (.ref a), .val .null, .unset] []))
  refine own_by (fun tz kz => XS.aloadN X0.here hx rfl (hb hby d3_0) rfl rfl kz) ?_
  show own_Go p e below s _ _ (s₁.setTop (mkF m 1 #[.val (.ref a), .val .null, .unset] [.null]))
  refine own_by (fun tz kz => X0.instanceofNull hx (g := (mkF m 1 #[.val (.ref a), .val .null, .unset] [.null])) rfl rfl (hb hby d3_1) _ kz) ?_
  show own_Go p e below s _ _ (s₁.setTop (mkF m 4 #[.val (.ref a), .val .null, .unset] [(.int (0 : Int32))]))
  refine own_by (fun tz kz => XS.ifNo X0.here hx rfl (hb hby d3_4) rfl ((if0 _ _).trans (teq (by decide : (0 : Int32) = (0 : Int32))).2) kz) ?_
  show own_Go p e below s _ _ (s₁.setTop (mkF m 7 #[.val (.ref a), .val .null, .unset] []))
  refine own_by (fun tz kz => XS.iconst X0.here hx rfl (hb hby d3_7) kz) ?_
  show own_Go p e below s _ _ (s₁.setTop (mkF m 8 #[.val (.ref a), .val .null, .unset] [(.int (0 : Int32))]))
  refine own_retI X0 hx hlk (t := .boolean) hret (by simp) rfl (hb hby d3_8) ?_ (by decide) (by decide)
  exact ⟨rfl, N0, e0⟩
def Q_rm_eqI (Z : State) (a b : Addr) (h0 : Heap) (n0 : Nat) (v : Option Value) (h : Heap) (L : List Loc) : Prop := v = some (.int (0 : Int32)) ∧ Fr n0 L ∧ h = h0
set_option maxRecDepth 65536 in
set_option maxHeartbeats 40000000 in
theorem rm_eqI (l : Launch) (Z : State) (a0 : Array Value) (hw : ∀ d ∈ tables_1, d.before a0 Z = true) (ws : List Jvm.Cond) (a b : Addr) (h0 : Heap) (n0 : Nat) (E_b : Exa Z h0 b "java/lang/Integer") :
    MetFree l (⟨"com/example/rectwire/rectwire/protocol/Rectangle", "equals", "(Ljava/lang/Object;)Z"⟩ : MethodName) (head1 (Jvm.Cond.code (⟨"com/example/rectwire/rectwire/protocol/Rectangle", "equals", "(Ljava/lang/Object;)Z"⟩ : MethodName) prog_29_method_14_code 3 (some .boolean) :: ws) ({ frames := 0, cells := 0, slots := 0, locals := 0 } : Room)) (fun ar U => ar = #[(.ref a), (.ref b)] ∧ Z.Warmed39 U.vm ∧ U.heap = h0) (fun _ _ _ _ _ => True) (fun _ U o U' => ∃ v L, o = .returned v ∧ Q_rm_eqI Z a b h0 n0 v U'.heap L ∧ FrameEnd U o U' L ({ frames := 0, cells := 0, slots := 0, locals := 0 } : Room).cells ({ frames := 0, cells := 0, slots := 0, locals := 0 } : Room).slots) := by
  refine own_enter (Q := (Q_rm_eqI Z a b h0 n0)) pl_3 ?_
  intro p e s m below meth c s₁ X0 hx hZ hby hml hown hnm hret hlk e0
  have N0 := Fr.nil n0
  refine own_by (fun tz kz => castTop (g' := (mkF m 0 #[.val (.ref a), .val (.ref b), .unset] [])) (by first | rfl | (simp [entryFrame, mkF, argsToLocals, Value.category]; done)) kz) ?_
  show own_Go p e below s _ _ (s₁.setTop (mkF m 0 #[.val (.ref a), .val (.ref b), .unset] []))
  refine own_by (fun tz kz => XS.aloadN X0.here hx rfl (hb hby d3_0) rfl rfl kz) ?_
  show own_Go p e below s _ _ (s₁.setTop (mkF m 1 #[.val (.ref a), .val (.ref b), .unset] [(.ref b)]))
  obtain ⟨T1, X1, e1, st1⟩ := instNo X0 hx hZ hown (hw _ (List.mem_of_getElem? (i := 23) rfl)) e0 E_b (own_notA (hw _ (List.mem_of_getElem? (i := 32) rfl)) (hw _ (List.mem_of_getElem? (i := 33) rfl)) (hw _ (List.mem_of_getElem? (i := 34) rfl)) (hw _ (List.mem_of_getElem? (i := 2) rfl)) (by decide) (by decide) (by decide)) (g := (mkF m 1 #[.val (.ref a), .val (.ref b), .unset] [(.ref b)])) rfl rfl (hb hby d3_1)
  refine own_by st1 ?_
  show own_Go p e below s _ _ (T1.setTop (mkF m 4 #[.val (.ref a), .val (.ref b), .unset] [(.int (0 : Int32))]))
  refine own_by (fun tz kz => XS.ifNo X1.here hx rfl (hb hby d3_4) rfl ((if0 _ _).trans (teq (by decide : (0 : Int32) = (0 : Int32))).2) kz) ?_
  show own_Go p e below s _ _ (T1.setTop (mkF m 7 #[.val (.ref a), .val (.ref b), .unset] []))
  refine own_by (fun tz kz => XS.iconst X1.here hx rfl (hb hby d3_7) kz) ?_
  show own_Go p e below s _ _ (T1.setTop (mkF m 8 #[.val (.ref a), .val (.ref b), .unset] [(.int (0 : Int32))]))
  refine own_retI X1 hx hlk (t := .boolean) hret (by simp) rfl (hb hby d3_8) ?_ (by decide) (by decide)
  exact ⟨rfl, N0, e1⟩
def Q_rm0 (Z : State) (p0 p1 p2 p3 p4 p5 : Int32) (ca : Addr) (ccl : Cell) (val : Int32 → Value) (h0 : Heap) (n0 : Nat) (v : Option Value) (h : Heap) (L : List Loc) : Prop := v = some (.int 1) ∧ Fr n0 L
set_option maxRecDepth 65536 in
set_option maxHeartbeats 40000000 in
theorem rm0 (l : Launch) (Z : State) (a0 : Array Value) (hw : ∀ d ∈ tables_1, d.before a0 Z = true) (ws : List Jvm.Cond) (p0 p1 p2 p3 p4 p5 : Int32) (ca : Addr) (ccl : Cell) (val : Int32 → Value) (h0 : Heap) (n0 : Nat) (O0 : Old Z n0 h0) (S_high : Sta Z Z.heap "java/lang/Integer$IntegerCache" "high" "I" (.int (127 : Int32))) (S_cache : Sta Z Z.heap "java/lang/Integer$IntegerCache" "cache" "[Ljava/lang/Integer;" (.ref ca)) (B : Bxs Z ca ccl "java/lang/Integer" "I" (256 : Int32) val) :
    MetFree l x (head1 (Jvm.Cond.code x code maxLocals ret :: ws) room_1) (fun ar U => ar = #[(.int p0), (.int p1), (.int p2), (.int p3), (.int p4), (.int p5)] ∧ Z.Warmed39 U.vm ∧ U.heap = h0) (fun _ _ _ _ _ => True) (fun _ U o U' => ∃ v L, o = .returned v ∧ Q_rm0 Z p0 p1 p2 p3 p4 p5 ca ccl val h0 n0 v U'.heap L ∧ FrameEnd U o U' L room_1.cells room_1.slots) := by
  refine own_enter (Q := (Q_rm0 Z p0 p1 p2 p3 p4 p5 ca ccl val h0 n0)) pl_0 ?_
  intro p e s m below meth c s₁ X0 hx hZ hby hml hown hnm hret hlk e0
  have N0 := Fr.nil n0
  refine own_by (fun tz kz => castTop (g' := (mkF m 0 #[.val (.int p0), .val (.int p1), .val (.int p2), .val (.int p3), .val (.int p4), .val (.int p5), .unset, .unset, .unset, .unset, .unset, .unset, .unset, .unset, .unset, .unset, .unset] [])) (by first | rfl | (simp [entryFrame, mkF, argsToLocals, Value.category, maxLocals]; done)) kz) ?_
  have K0 := Keep.refl h0 []
  have J84 : ∀ b8 b9 b10 b11 : Int32, ¬ b10 < (0 : Int32) → ¬ b11 < (0 : Int32) → own_Go p e below s (Q_rm0 Z p0 p1 p2 p3 p4 p5 ca ccl val h0 n0) room_1 (s₁.setTop (mkF m 84 #[.val (.int p0), .val (.int p1), .val (.int p2), .val (.int p3), .val (.int p4), .val (.int p5), .val (.int (p2 &&& (2147483647 : Int32))), .val (.int (p3 &&& (2147483647 : Int32))), .val (.int b8), .val (.int b9), .val (.int b10), .val (.int b11), .unset, .unset, .unset, .unset, .unset] [])) := by
    intro b8 b9 b10 b11 hb10 hb11
    show own_Go p e below s _ _ (s₁.setTop (mkF m 84 #[.val (.int p0), .val (.int p1), .val (.int p2), .val (.int p3), .val (.int p4), .val (.int p5), .val (.int (p2 &&& (2147483647 : Int32))), .val (.int (p3 &&& (2147483647 : Int32))), .val (.int b8), .val (.int b9), .val (.int b10), .val (.int b11), .unset, .unset, .unset, .unset, .unset] []))
    obtain ⟨T1, h1, X1, e1, E1, A1, D1, -, st1⟩ := newO X0 hx hZ hown (hw _ (List.mem_of_getElem? (i := 1) rfl)) (hw _ (List.mem_of_getElem? (i := 2) rfl)) (hw _ (List.mem_of_getElem? (i := 3) rfl)) e0 (g := (mkF m 84 #[.val (.int p0), .val (.int p1), .val (.int p2), .val (.int p3), .val (.int p4), .val (.int p5), .val (.int (p2 &&& (2147483647 : Int32))), .val (.int (p3 &&& (2147483647 : Int32))), .val (.int b8), .val (.int b9), .val (.int b10), .val (.int b11), .unset, .unset, .unset, .unset, .unset] [])) rfl (hb hby at_84) (by decide) (by decide)
    obtain ⟨b1, g1⟩ : ∃ z, z = h0.size := ⟨_, rfl⟩
    rw [← g1] at A1 D1 st1
    have g_b1 : n0 ≤ b1 := by rw [g1]; exact O0.1 ▸ O0.2.1
    have sz_b1 : h0.size ≤ b1 := by rw [g1]; exact K0.1
    have O1 := O0.ext E1
    have K1 := K0.ext E1
    refine own_by st1 ?_
    have F1_x : Fld Z h1 b1 "com/example/rectwire/rectwire/protocol/Rectangle" "x" "I" (.int (0 : Int32)) := D1 (Or.inr (hw _ (List.mem_of_getElem? (i := 11) rfl))) (ty := .int) (by decide)
    have F1_y : Fld Z h1 b1 "com/example/rectwire/rectwire/protocol/Rectangle" "y" "I" (.int (0 : Int32)) := D1 (Or.inr (hw _ (List.mem_of_getElem? (i := 13) rfl))) (ty := .int) (by decide)
    have F1_width : Fld Z h1 b1 "com/example/rectwire/rectwire/protocol/Rectangle" "width" "I" (.int (0 : Int32)) := D1 (Or.inr (hw _ (List.mem_of_getElem? (i := 15) rfl))) (ty := .int) (by decide)
    have F1_height : Fld Z h1 b1 "com/example/rectwire/rectwire/protocol/Rectangle" "height" "I" (.int (0 : Int32)) := D1 (Or.inr (hw _ (List.mem_of_getElem? (i := 17) rfl))) (ty := .int) (by decide)
    show own_Go p e below s _ _ (T1.setTop (mkF m 87 #[.val (.int p0), .val (.int p1), .val (.int p2), .val (.int p3), .val (.int p4), .val (.int p5), .val (.int (p2 &&& (2147483647 : Int32))), .val (.int (p3 &&& (2147483647 : Int32))), .val (.int b8), .val (.int b9), .val (.int b10), .val (.int b11), .unset, .unset, .unset, .unset, .unset] [(.ref b1)]))
    refine own_by (fun tz kz => XS.dup X1.here hx rfl (hb hby at_87) rfl rfl kz) ?_
    show own_Go p e below s _ _ (T1.setTop (mkF m 88 #[.val (.int p0), .val (.int p1), .val (.int p2), .val (.int p3), .val (.int p4), .val (.int p5), .val (.int (p2 &&& (2147483647 : Int32))), .val (.int (p3 &&& (2147483647 : Int32))), .val (.int b8), .val (.int b9), .val (.int b10), .val (.int b11), .unset, .unset, .unset, .unset, .unset] [(.ref b1), (.ref b1)]))
    refine own_by (fun tz kz => XS.iloadN X1.here hx rfl (hb hby at_88) rfl  kz) ?_
    show own_Go p e below s _ _ (T1.setTop (mkF m 89 #[.val (.int p0), .val (.int p1), .val (.int p2), .val (.int p3), .val (.int p4), .val (.int p5), .val (.int (p2 &&& (2147483647 : Int32))), .val (.int (p3 &&& (2147483647 : Int32))), .val (.int b8), .val (.int b9), .val (.int b10), .val (.int b11), .unset, .unset, .unset, .unset, .unset] [(.int p0), (.ref b1), (.ref b1)]))
    refine own_by (fun tz kz => XS.iloadN X1.here hx rfl (hb hby at_89) rfl  kz) ?_
    show own_Go p e below s _ _ (T1.setTop (mkF m 90 #[.val (.int p0), .val (.int p1), .val (.int p2), .val (.int p3), .val (.int p4), .val (.int p5), .val (.int (p2 &&& (2147483647 : Int32))), .val (.int (p3 &&& (2147483647 : Int32))), .val (.int b8), .val (.int b9), .val (.int b10), .val (.int b11), .unset, .unset, .unset, .unset, .unset] [(.int p1), (.int p0), (.ref b1), (.ref b1)]))
    refine own_by (fun tz kz => XS.iload X1.here hx rfl (hb hby at_90) rfl  kz) ?_
    show own_Go p e below s _ _ (T1.setTop (mkF m 92 #[.val (.int p0), .val (.int p1), .val (.int p2), .val (.int p3), .val (.int p4), .val (.int p5), .val (.int (p2 &&& (2147483647 : Int32))), .val (.int (p3 &&& (2147483647 : Int32))), .val (.int b8), .val (.int b9), .val (.int b10), .val (.int b11), .unset, .unset, .unset, .unset, .unset] [(.int (p2 &&& (2147483647 : Int32))), (.int p1), (.int p0), (.ref b1), (.ref b1)]))
    refine own_by (fun tz kz => XS.iload X1.here hx rfl (hb hby at_92) rfl  kz) ?_
    show own_Go p e below s _ _ (T1.setTop (mkF m 94 #[.val (.int p0), .val (.int p1), .val (.int p2), .val (.int p3), .val (.int p4), .val (.int p5), .val (.int (p2 &&& (2147483647 : Int32))), .val (.int (p3 &&& (2147483647 : Int32))), .val (.int b8), .val (.int b9), .val (.int b10), .val (.int b11), .unset, .unset, .unset, .unset, .unset] [(.int (p3 &&& (2147483647 : Int32))), (.int (p2 &&& (2147483647 : Int32))), (.int p1), (.int p0), (.ref b1), (.ref b1)]))
    obtain ⟨_, _, ⟨T2, L2, k2, n2⟩, -, X2, ⟨Lc2, hQ2, l2, y2, z2⟩, st2⟩ := X1.specialBack hx (y := (⟨"com/example/rectwire/rectwire/protocol/Rectangle", "<init>", "(IIII)V"⟩ : MethodName)) rfl hown (mvT hZ (hw _ (List.mem_of_getElem? (i := 4) rfl))) (mvT hZ (hw _ (List.mem_of_getElem? (i := 5) rfl))) (mvT hZ (hw _ (List.mem_of_getElem? (i := 6) rfl))) (by decide) (backOf (W := 1) (rm_init l Z a0 hw [] b1 p0 p1 (p2 &&& (2147483647 : Int32)) (p3 &&& (2147483647 : Int32)) h1 n0 O1 A1 F1_x F1_y F1_width F1_height g_b1 (own_and31 p2) (own_and31 p3)) hZ (hw _ (List.mem_of_getElem? (i := 6) rfl)) (hw _ (List.mem_of_getElem? (i := 3) rfl)) (by decide) (by decide)) (g := (mkF m 94 #[.val (.int p0), .val (.int p1), .val (.int p2), .val (.int p3), .val (.int p4), .val (.int p5), .val (.int (p2 &&& (2147483647 : Int32))), .val (.int (p3 &&& (2147483647 : Int32))), .val (.int b8), .val (.int b9), .val (.int b10), .val (.int b11), .unset, .unset, .unset, .unset, .unset] [(.int (p3 &&& (2147483647 : Int32))), (.int (p2 &&& (2147483647 : Int32))), (.int p1), (.int p0), (.ref b1), (.ref b1)])) rfl (by rw [hml]; rfl) (Steps.refl _) (a := b1) (argsL := [(.int p0), (.int p1), (.int (p2 &&& (2147483647 : Int32))), (.int (p3 &&& (2147483647 : Int32)))]) (rest := [(.ref b1)]) (lenOf pd_0 rfl) rfl (by show 2 * 0 + _ ≤ _; exact Nat.le_of_eq rfl) (hb hby at_94) (fun _ _ => ⟨rfl, e1, (by decide : 1 + 0 ≤ _), (by decide : 4 + 0 ≤ _)⟩)
    dsimp only [Pt.U, Pt.locs, Pt.cells, Pt.slots] at X2 l2 y2 z2 st2 hQ2
    rw [l2, y2, z2] at X2
    obtain ⟨rfl, Nq2, Kq2, Fa2, Fb2, Fc2, Fd2⟩ := hQ2
    have N2 := Fr.app N0 Nq2
    have e2 : T2.heap = T2.heap := rfl
    refine own_via st2 ?_
    have O2 := O1.keep Kq2 (allS g_b1 all0)
    have K2 := K1.trans Kq2 (allS (Or.inr sz_b1) all0)
    show own_Go p e below s _ _ (T2.setTop (mkF m 97 #[.val (.int p0), .val (.int p1), .val (.int p2), .val (.int p3), .val (.int p4), .val (.int p5), .val (.int (p2 &&& (2147483647 : Int32))), .val (.int (p3 &&& (2147483647 : Int32))), .val (.int b8), .val (.int b9), .val (.int b10), .val (.int b11), .unset, .unset, .unset, .unset, .unset] [(.ref b1)]))
    refine own_by (fun tz kz => XS.astore X2.here hx rfl (hb hby at_97) rfl rfl (l' := #[.val (.int p0), .val (.int p1), .val (.int p2), .val (.int p3), .val (.int p4), .val (.int p5), .val (.int (p2 &&& (2147483647 : Int32))), .val (.int (p3 &&& (2147483647 : Int32))), .val (.int b8), .val (.int b9), .val (.int b10), .val (.int b11), .val (.ref b1), .unset, .unset, .unset, .unset]) rfl kz) ?_
    show own_Go p e below s _ _ (T2.setTop (mkF m 99 #[.val (.int p0), .val (.int p1), .val (.int p2), .val (.int p3), .val (.int p4), .val (.int p5), .val (.int (p2 &&& (2147483647 : Int32))), .val (.int (p3 &&& (2147483647 : Int32))), .val (.int b8), .val (.int b9), .val (.int b10), .val (.int b11), .val (.ref b1), .unset, .unset, .unset, .unset] []))
    obtain ⟨T3, h3, X3, e3, E3, A3, D3, -, st3⟩ := newO X2 hx hZ hown (hw _ (List.mem_of_getElem? (i := 1) rfl)) (hw _ (List.mem_of_getElem? (i := 2) rfl)) (hw _ (List.mem_of_getElem? (i := 3) rfl)) e2 (g := (mkF m 99 #[.val (.int p0), .val (.int p1), .val (.int p2), .val (.int p3), .val (.int p4), .val (.int p5), .val (.int (p2 &&& (2147483647 : Int32))), .val (.int (p3 &&& (2147483647 : Int32))), .val (.int b8), .val (.int b9), .val (.int b10), .val (.int b11), .val (.ref b1), .unset, .unset, .unset, .unset] [])) rfl (hb hby at_99) (by decide) (by decide)
    obtain ⟨b3, g3⟩ : ∃ z, z = T2.heap.size := ⟨_, rfl⟩
    have f4 := (A1.keep Kq2)
    have ne_b1_b3 : b1 ≠ b3 := by rw [g3]; exact Nat.ne_of_lt f4.lt
    rw [← g3] at A3 D3 st3
    have g_b3 : n0 ≤ b3 := by rw [g3]; exact O2.1 ▸ O2.2.1
    have sz_b3 : h0.size ≤ b3 := by rw [g3]; exact K2.1
    have O3 := O2.ext E3
    have K3 := K2.ext E3
    refine own_by st3 ?_
    have F3_x : Fld Z h3 b3 "com/example/rectwire/rectwire/protocol/Rectangle" "x" "I" (.int (0 : Int32)) := D3 (Or.inr (hw _ (List.mem_of_getElem? (i := 11) rfl))) (ty := .int) (by decide)
    have F3_y : Fld Z h3 b3 "com/example/rectwire/rectwire/protocol/Rectangle" "y" "I" (.int (0 : Int32)) := D3 (Or.inr (hw _ (List.mem_of_getElem? (i := 13) rfl))) (ty := .int) (by decide)
    have F3_width : Fld Z h3 b3 "com/example/rectwire/rectwire/protocol/Rectangle" "width" "I" (.int (0 : Int32)) := D3 (Or.inr (hw _ (List.mem_of_getElem? (i := 15) rfl))) (ty := .int) (by decide)
    have F3_height : Fld Z h3 b3 "com/example/rectwire/rectwire/protocol/Rectangle" "height" "I" (.int (0 : Int32)) := D3 (Or.inr (hw _ (List.mem_of_getElem? (i := 17) rfl))) (ty := .int) (by decide)
    show own_Go p e below s _ _ (T3.setTop (mkF m 102 #[.val (.int p0), .val (.int p1), .val (.int p2), .val (.int p3), .val (.int p4), .val (.int p5), .val (.int (p2 &&& (2147483647 : Int32))), .val (.int (p3 &&& (2147483647 : Int32))), .val (.int b8), .val (.int b9), .val (.int b10), .val (.int b11), .val (.ref b1), .unset, .unset, .unset, .unset] [(.ref b3)]))
    refine own_by (fun tz kz => XS.dup X3.here hx rfl (hb hby at_102) rfl rfl kz) ?_
    show own_Go p e below s _ _ (T3.setTop (mkF m 103 #[.val (.int p0), .val (.int p1), .val (.int p2), .val (.int p3), .val (.int p4), .val (.int p5), .val (.int (p2 &&& (2147483647 : Int32))), .val (.int (p3 &&& (2147483647 : Int32))), .val (.int b8), .val (.int b9), .val (.int b10), .val (.int b11), .val (.ref b1), .unset, .unset, .unset, .unset] [(.ref b3), (.ref b3)]))
    refine own_by (fun tz kz => XS.iload X3.here hx rfl (hb hby at_103) rfl  kz) ?_
    show own_Go p e below s _ _ (T3.setTop (mkF m 105 #[.val (.int p0), .val (.int p1), .val (.int p2), .val (.int p3), .val (.int p4), .val (.int p5), .val (.int (p2 &&& (2147483647 : Int32))), .val (.int (p3 &&& (2147483647 : Int32))), .val (.int b8), .val (.int b9), .val (.int b10), .val (.int b11), .val (.ref b1), .unset, .unset, .unset, .unset] [(.int b8), (.ref b3), (.ref b3)]))
    refine own_by (fun tz kz => XS.iload X3.here hx rfl (hb hby at_105) rfl  kz) ?_
    show own_Go p e below s _ _ (T3.setTop (mkF m 107 #[.val (.int p0), .val (.int p1), .val (.int p2), .val (.int p3), .val (.int p4), .val (.int p5), .val (.int (p2 &&& (2147483647 : Int32))), .val (.int (p3 &&& (2147483647 : Int32))), .val (.int b8), .val (.int b9), .val (.int b10), .val (.int b11), .val (.ref b1), .unset, .unset, .unset, .unset] [(.int b9), (.int b8), (.ref b3), (.ref b3)]))
    refine own_by (fun tz kz => XS.iload X3.here hx rfl (hb hby at_107) rfl  kz) ?_
    show own_Go p e below s _ _ (T3.setTop (mkF m 109 #[.val (.int p0), .val (.int p1), .val (.int p2), .val (.int p3), .val (.int p4), .val (.int p5), .val (.int (p2 &&& (2147483647 : Int32))), .val (.int (p3 &&& (2147483647 : Int32))), .val (.int b8), .val (.int b9), .val (.int b10), .val (.int b11), .val (.ref b1), .unset, .unset, .unset, .unset] [(.int b10), (.int b9), (.int b8), (.ref b3), (.ref b3)]))
    refine own_by (fun tz kz => XS.iload X3.here hx rfl (hb hby at_109) rfl  kz) ?_
    show own_Go p e below s _ _ (T3.setTop (mkF m 111 #[.val (.int p0), .val (.int p1), .val (.int p2), .val (.int p3), .val (.int p4), .val (.int p5), .val (.int (p2 &&& (2147483647 : Int32))), .val (.int (p3 &&& (2147483647 : Int32))), .val (.int b8), .val (.int b9), .val (.int b10), .val (.int b11), .val (.ref b1), .unset, .unset, .unset, .unset] [(.int b11), (.int b10), (.int b9), (.int b8), (.ref b3), (.ref b3)]))
    obtain ⟨_, _, ⟨T5, L5, k5, n5⟩, -, X5, ⟨Lc5, hQ5, l5, y5, z5⟩, st5⟩ := X3.specialBack hx (y := (⟨"com/example/rectwire/rectwire/protocol/Rectangle", "<init>", "(IIII)V"⟩ : MethodName)) rfl hown (mvT hZ (hw _ (List.mem_of_getElem? (i := 4) rfl))) (mvT hZ (hw _ (List.mem_of_getElem? (i := 5) rfl))) (mvT hZ (hw _ (List.mem_of_getElem? (i := 6) rfl))) (by decide) (backOf (W := 1) (rm_init l Z a0 hw [] b3 b8 b9 b10 b11 h3 n0 O3 A3 F3_x F3_y F3_width F3_height g_b3 hb10 hb11) hZ (hw _ (List.mem_of_getElem? (i := 6) rfl)) (hw _ (List.mem_of_getElem? (i := 3) rfl)) (by decide) (by decide)) (g := (mkF m 111 #[.val (.int p0), .val (.int p1), .val (.int p2), .val (.int p3), .val (.int p4), .val (.int p5), .val (.int (p2 &&& (2147483647 : Int32))), .val (.int (p3 &&& (2147483647 : Int32))), .val (.int b8), .val (.int b9), .val (.int b10), .val (.int b11), .val (.ref b1), .unset, .unset, .unset, .unset] [(.int b11), (.int b10), (.int b9), (.int b8), (.ref b3), (.ref b3)])) rfl (by rw [hml]; rfl) (Steps.refl _) (a := b3) (argsL := [(.int b8), (.int b9), (.int b10), (.int b11)]) (rest := [(.ref b3)]) (lenOf pd_0 rfl) rfl (by show 2 * 0 + _ ≤ _; exact Nat.le_of_eq rfl) (hb hby at_111) (fun _ _ => ⟨rfl, e3, (by decide : 2 + 0 ≤ _), (by decide : 8 + 0 ≤ _)⟩)
    dsimp only [Pt.U, Pt.locs, Pt.cells, Pt.slots] at X5 l5 y5 z5 st5 hQ5
    rw [l5, y5, z5] at X5
    obtain ⟨rfl, Nq5, Kq5, Fa5, Fb5, Fc5, Fd5⟩ := hQ5
    have N5 := Fr.app N2 Nq5
    have e5 : T5.heap = T5.heap := rfl
    refine own_via st5 ?_
    have O5 := O3.keep Kq5 (allS g_b3 all0)
    have K5 := K3.trans Kq5 (allS (Or.inr sz_b3) all0)
    show own_Go p e below s _ _ (T5.setTop (mkF m 114 #[.val (.int p0), .val (.int p1), .val (.int p2), .val (.int p3), .val (.int p4), .val (.int p5), .val (.int (p2 &&& (2147483647 : Int32))), .val (.int (p3 &&& (2147483647 : Int32))), .val (.int b8), .val (.int b9), .val (.int b10), .val (.int b11), .val (.ref b1), .unset, .unset, .unset, .unset] [(.ref b3)]))
    refine own_by (fun tz kz => XS.astore X5.here hx rfl (hb hby at_114) rfl rfl (l' := #[.val (.int p0), .val (.int p1), .val (.int p2), .val (.int p3), .val (.int p4), .val (.int p5), .val (.int (p2 &&& (2147483647 : Int32))), .val (.int (p3 &&& (2147483647 : Int32))), .val (.int b8), .val (.int b9), .val (.int b10), .val (.int b11), .val (.ref b1), .val (.ref b3), .unset, .unset, .unset]) rfl kz) ?_
    show own_Go p e below s _ _ (T5.setTop (mkF m 116 #[.val (.int p0), .val (.int p1), .val (.int p2), .val (.int p3), .val (.int p4), .val (.int p5), .val (.int (p2 &&& (2147483647 : Int32))), .val (.int (p3 &&& (2147483647 : Int32))), .val (.int b8), .val (.int b9), .val (.int b10), .val (.int b11), .val (.ref b1), .val (.ref b3), .unset, .unset, .unset] []))
    refine own_by (fun tz kz => XS.iload X5.here hx rfl (hb hby at_116) rfl  kz) ?_
    show own_Go p e below s _ _ (T5.setTop (mkF m 118 #[.val (.int p0), .val (.int p1), .val (.int p2), .val (.int p3), .val (.int p4), .val (.int p5), .val (.int (p2 &&& (2147483647 : Int32))), .val (.int (p3 &&& (2147483647 : Int32))), .val (.int b8), .val (.int b9), .val (.int b10), .val (.int b11), .val (.ref b1), .val (.ref b3), .unset, .unset, .unset] [(.int p4)]))
    refine own_by (fun tz kz => XS.iconst X5.here hx rfl (hb hby at_118) kz) ?_
    show own_Go p e below s _ _ (T5.setTop (mkF m 119 #[.val (.int p0), .val (.int p1), .val (.int p2), .val (.int p3), .val (.int p4), .val (.int p5), .val (.int (p2 &&& (2147483647 : Int32))), .val (.int (p3 &&& (2147483647 : Int32))), .val (.int b8), .val (.int b9), .val (.int b10), .val (.int b11), .val (.ref b1), .val (.ref b3), .unset, .unset, .unset] [(.int (4 : Int32)), (.int p4)]))
    refine own_by (fun tz kz => XS.iushr X5.here hx rfl (hb hby at_119) rfl kz) ?_
    show own_Go p e below s _ _ (T5.setTop (mkF m 120 #[.val (.int p0), .val (.int p1), .val (.int p2), .val (.int p3), .val (.int p4), .val (.int p5), .val (.int (p2 &&& (2147483647 : Int32))), .val (.int (p3 &&& (2147483647 : Int32))), .val (.int b8), .val (.int b9), .val (.int b10), .val (.int b11), .val (.ref b1), .val (.ref b3), .unset, .unset, .unset] [(.int ((p4.toUInt32 >>> ((4 : Int32) &&& 31).toUInt32).toInt32))]))
    refine own_by (fun tz kz => XS.iconst X5.here hx rfl (hb hby at_120) kz) ?_
    show own_Go p e below s _ _ (T5.setTop (mkF m 121 #[.val (.int p0), .val (.int p1), .val (.int p2), .val (.int p3), .val (.int p4), .val (.int p5), .val (.int (p2 &&& (2147483647 : Int32))), .val (.int (p3 &&& (2147483647 : Int32))), .val (.int b8), .val (.int b9), .val (.int b10), .val (.int b11), .val (.ref b1), .val (.ref b3), .unset, .unset, .unset] [(.int (3 : Int32)), (.int ((p4.toUInt32 >>> ((4 : Int32) &&& 31).toUInt32).toInt32))]))
    refine own_by (fun tz kz => XS.iand X5.here hx rfl (hb hby at_121) rfl kz) ?_
    show own_Go p e below s _ _ (T5.setTop (mkF m 122 #[.val (.int p0), .val (.int p1), .val (.int p2), .val (.int p3), .val (.int p4), .val (.int p5), .val (.int (p2 &&& (2147483647 : Int32))), .val (.int (p3 &&& (2147483647 : Int32))), .val (.int b8), .val (.int b9), .val (.int b10), .val (.int b11), .val (.ref b1), .val (.ref b3), .unset, .unset, .unset] [(.int (((p4.toUInt32 >>> ((4 : Int32) &&& 31).toUInt32).toInt32) &&& (3 : Int32)))]))
    refine own_by (fun tz kz => XS.istore X5.here hx rfl (hb hby at_122) rfl (l' := #[.val (.int p0), .val (.int p1), .val (.int p2), .val (.int p3), .val (.int p4), .val (.int p5), .val (.int (p2 &&& (2147483647 : Int32))), .val (.int (p3 &&& (2147483647 : Int32))), .val (.int b8), .val (.int b9), .val (.int b10), .val (.int b11), .val (.ref b1), .val (.ref b3), .val (.int (((p4.toUInt32 >>> ((4 : Int32) &&& 31).toUInt32).toInt32) &&& (3 : Int32))), .unset, .unset]) rfl kz) ?_
    show own_Go p e below s _ _ (T5.setTop (mkF m 124 #[.val (.int p0), .val (.int p1), .val (.int p2), .val (.int p3), .val (.int p4), .val (.int p5), .val (.int (p2 &&& (2147483647 : Int32))), .val (.int (p3 &&& (2147483647 : Int32))), .val (.int b8), .val (.int b9), .val (.int b10), .val (.int b11), .val (.ref b1), .val (.ref b3), .val (.int (((p4.toUInt32 >>> ((4 : Int32) &&& 31).toUInt32).toInt32) &&& (3 : Int32))), .unset, .unset] []))
    refine own_by (fun tz kz => XS.iload X5.here hx rfl (hb hby at_124) rfl  kz) ?_
    show own_Go p e below s _ _ (T5.setTop (mkF m 126 #[.val (.int p0), .val (.int p1), .val (.int p2), .val (.int p3), .val (.int p4), .val (.int p5), .val (.int (p2 &&& (2147483647 : Int32))), .val (.int (p3 &&& (2147483647 : Int32))), .val (.int b8), .val (.int b9), .val (.int b10), .val (.int b11), .val (.ref b1), .val (.ref b3), .val (.int (((p4.toUInt32 >>> ((4 : Int32) &&& 31).toUInt32).toInt32) &&& (3 : Int32))), .unset, .unset] [(.int (((p4.toUInt32 >>> ((4 : Int32) &&& 31).toUInt32).toInt32) &&& (3 : Int32)))]))
    refine own_by (fun tz kz => XS.iconst X5.here hx rfl (hb hby at_126) kz) ?_
    show own_Go p e below s _ _ (T5.setTop (mkF m 127 #[.val (.int p0), .val (.int p1), .val (.int p2), .val (.int p3), .val (.int p4), .val (.int p5), .val (.int (p2 &&& (2147483647 : Int32))), .val (.int (p3 &&& (2147483647 : Int32))), .val (.int b8), .val (.int b9), .val (.int b10), .val (.int b11), .val (.ref b1), .val (.ref b3), .val (.int (((p4.toUInt32 >>> ((4 : Int32) &&& 31).toUInt32).toInt32) &&& (3 : Int32))), .unset, .unset] [(.int (2 : Int32)), (.int (((p4.toUInt32 >>> ((4 : Int32) &&& 31).toUInt32).toInt32) &&& (3 : Int32)))]))
    by_cases hc127_6 : (((p4.toUInt32 >>> ((4 : Int32) &&& 31).toUInt32).toInt32) &&& (3 : Int32)) = (2 : Int32)
    · refine own_by (fun tz kz => XS.icmpNo X5.here hx rfl (hb hby at_127) rfl (teq hc127_6).2 kz) ?_
      show own_Go p e below s _ _ (T5.setTop (mkF m 130 #[.val (.int p0), .val (.int p1), .val (.int p2), .val (.int p3), .val (.int p4), .val (.int p5), .val (.int (p2 &&& (2147483647 : Int32))), .val (.int (p3 &&& (2147483647 : Int32))), .val (.int b8), .val (.int b9), .val (.int b10), .val (.int b11), .val (.ref b1), .val (.ref b3), .val (.int (((p4.toUInt32 >>> ((4 : Int32) &&& 31).toUInt32).toInt32) &&& (3 : Int32))), .unset, .unset] []))
      refine own_by (fun tz kz => XS.iloadN X5.here hx rfl (hb hby at_130) rfl  kz) ?_
      show own_Go p e below s _ _ (T5.setTop (mkF m 131 #[.val (.int p0), .val (.int p1), .val (.int p2), .val (.int p3), .val (.int p4), .val (.int p5), .val (.int (p2 &&& (2147483647 : Int32))), .val (.int (p3 &&& (2147483647 : Int32))), .val (.int b8), .val (.int b9), .val (.int b10), .val (.int b11), .val (.ref b1), .val (.ref b3), .val (.int (((p4.toUInt32 >>> ((4 : Int32) &&& 31).toUInt32).toInt32) &&& (3 : Int32))), .unset, .unset] [(.int p0)]))
      obtain ⟨_, _, ⟨T7, L7, k7, n7⟩, -, X7, ⟨Lc7, hQ7, l7, y7, z7⟩, st7⟩ := Jvm.LawKit.callS X5 hx (y := (⟨"java/lang/Integer", "valueOf", "(I)Ljava/lang/Integer;"⟩ : MethodName)) hown (mvT hZ (hw _ (List.mem_of_getElem? (i := 25) rfl))) (mvT hZ (hw _ (List.mem_of_getElem? (i := 26) rfl))) (mvT hZ (hw _ (List.mem_of_getElem? (i := 27) rfl))) (mvT hZ (hw _ (List.mem_of_getElem? (i := 28) rfl))) (by decide) (backOf (W := 0) (rm_valueOf l Z a0 hw [] p0 ca ccl val T5.heap n0 O5 S_high S_cache B) hZ (hw _ (List.mem_of_getElem? (i := 28) rfl)) (hw _ (List.mem_of_getElem? (i := 27) rfl)) (by decide) (by decide)) (g := (mkF m 131 #[.val (.int p0), .val (.int p1), .val (.int p2), .val (.int p3), .val (.int p4), .val (.int p5), .val (.int (p2 &&& (2147483647 : Int32))), .val (.int (p3 &&& (2147483647 : Int32))), .val (.int b8), .val (.int b9), .val (.int b10), .val (.int b11), .val (.ref b1), .val (.ref b3), .val (.int (((p4.toUInt32 >>> ((4 : Int32) &&& 31).toUInt32).toInt32) &&& (3 : Int32))), .unset, .unset] [(.int p0)])) rfl (by rw [hml]; rfl) (argsL := [(.int p0)]) (rest := []) (lenOf pd_3 rfl) rfl (by show 2 * 0 + _ ≤ _; exact Nat.le_of_eq rfl) (hb hby at_131) (fun _ _ => ⟨rfl, e5, (by decide : 2 + 1 ≤ _), (by decide : 8 + 1 ≤ _)⟩)
      dsimp only [Pt.U, Pt.locs, Pt.cells, Pt.slots] at X7 l7 y7 z7 st7 hQ7
      rw [l7, y7, z7] at X7
      obtain ⟨b7, rfl, Nq7, Kq7, Eq7⟩ := hQ7
      have N7 := Fr.app N5 Nq7
      have e7 : T7.heap = T7.heap := rfl
      refine own_by st7 ?_
      have O7 := O5.keep Kq7 all0
      have K7 := K5.trans Kq7 all0
      show own_Go p e below s _ _ (T7.setTop (mkF m 134 #[.val (.int p0), .val (.int p1), .val (.int p2), .val (.int p3), .val (.int p4), .val (.int p5), .val (.int (p2 &&& (2147483647 : Int32))), .val (.int (p3 &&& (2147483647 : Int32))), .val (.int b8), .val (.int b9), .val (.int b10), .val (.int b11), .val (.ref b1), .val (.ref b3), .val (.int (((p4.toUInt32 >>> ((4 : Int32) &&& 31).toUInt32).toInt32) &&& (3 : Int32))), .unset, .unset] [(.ref b7)]))
      refine own_by (fun tz kz => XS.astore X7.here hx rfl (hb hby at_134) rfl rfl (l' := #[.val (.int p0), .val (.int p1), .val (.int p2), .val (.int p3), .val (.int p4), .val (.int p5), .val (.int (p2 &&& (2147483647 : Int32))), .val (.int (p3 &&& (2147483647 : Int32))), .val (.int b8), .val (.int b9), .val (.int b10), .val (.int b11), .val (.ref b1), .val (.ref b3), .val (.int (((p4.toUInt32 >>> ((4 : Int32) &&& 31).toUInt32).toInt32) &&& (3 : Int32))), .val (.ref b7), .unset]) rfl kz) ?_
      show own_Go p e below s _ _ (T7.setTop (mkF m 136 #[.val (.int p0), .val (.int p1), .val (.int p2), .val (.int p3), .val (.int p4), .val (.int p5), .val (.int (p2 &&& (2147483647 : Int32))), .val (.int (p3 &&& (2147483647 : Int32))), .val (.int b8), .val (.int b9), .val (.int b10), .val (.int b11), .val (.ref b1), .val (.ref b3), .val (.int (((p4.toUInt32 >>> ((4 : Int32) &&& 31).toUInt32).toInt32) &&& (3 : Int32))), .val (.ref b7), .unset] []))
      refine own_by (fun tz kz => XS.goto X7.here hx rfl (pc0 := 136) (pc' := 155) rfl (hb hby at_136) (by decide) (by decide) kz) ?_
      show own_Go p e below s _ _ (T7.setTop (mkF m 155 #[.val (.int p0), .val (.int p1), .val (.int p2), .val (.int p3), .val (.int p4), .val (.int p5), .val (.int (p2 &&& (2147483647 : Int32))), .val (.int (p3 &&& (2147483647 : Int32))), .val (.int b8), .val (.int b9), .val (.int b10), .val (.int b11), .val (.ref b1), .val (.ref b3), .val (.int (((p4.toUInt32 >>> ((4 : Int32) &&& 31).toUInt32).toInt32) &&& (3 : Int32))), .val (.ref b7), .unset] []))
      refine own_by (fun tz kz => XS.iload X7.here hx rfl (hb hby at_155) rfl  kz) ?_
      show own_Go p e below s _ _ (T7.setTop (mkF m 157 #[.val (.int p0), .val (.int p1), .val (.int p2), .val (.int p3), .val (.int p4), .val (.int p5), .val (.int (p2 &&& (2147483647 : Int32))), .val (.int (p3 &&& (2147483647 : Int32))), .val (.int b8), .val (.int b9), .val (.int b10), .val (.int b11), .val (.ref b1), .val (.ref b3), .val (.int (((p4.toUInt32 >>> ((4 : Int32) &&& 31).toUInt32).toInt32) &&& (3 : Int32))), .val (.ref b7), .unset] [(.int (((p4.toUInt32 >>> ((4 : Int32) &&& 31).toUInt32).toInt32) &&& (3 : Int32)))]))
      refine own_by (fun tz kz => XS.iconst X7.here hx rfl (hb hby at_157) kz) ?_
      show own_Go p e below s _ _ (T7.setTop (mkF m 158 #[.val (.int p0), .val (.int p1), .val (.int p2), .val (.int p3), .val (.int p4), .val (.int p5), .val (.int (p2 &&& (2147483647 : Int32))), .val (.int (p3 &&& (2147483647 : Int32))), .val (.int b8), .val (.int b9), .val (.int b10), .val (.int b11), .val (.ref b1), .val (.ref b3), .val (.int (((p4.toUInt32 >>> ((4 : Int32) &&& 31).toUInt32).toInt32) &&& (3 : Int32))), .val (.ref b7), .unset] [(.int (2 : Int32)), (.int (((p4.toUInt32 >>> ((4 : Int32) &&& 31).toUInt32).toInt32) &&& (3 : Int32)))]))
      refine own_by (fun tz kz => XS.icmpYes X7.here hx rfl (pc0 := 158) (pc' := 191) rfl (hb hby at_158) rfl (flt (by rw [hc127_6]; decide)).2.1 (by decide) (by decide) kz) ?_
      show own_Go p e below s _ _ (T7.setTop (mkF m 191 #[.val (.int p0), .val (.int p1), .val (.int p2), .val (.int p3), .val (.int p4), .val (.int p5), .val (.int (p2 &&& (2147483647 : Int32))), .val (.int (p3 &&& (2147483647 : Int32))), .val (.int b8), .val (.int b9), .val (.int b10), .val (.int b11), .val (.ref b1), .val (.ref b3), .val (.int (((p4.toUInt32 >>> ((4 : Int32) &&& 31).toUInt32).toInt32) &&& (3 : Int32))), .val (.ref b7), .unset] []))
      refine own_by (fun tz kz => XS.iconst X7.here hx rfl (hb hby at_191) kz) ?_
      show own_Go p e below s _ _ (T7.setTop (mkF m 192 #[.val (.int p0), .val (.int p1), .val (.int p2), .val (.int p3), .val (.int p4), .val (.int p5), .val (.int (p2 &&& (2147483647 : Int32))), .val (.int (p3 &&& (2147483647 : Int32))), .val (.int b8), .val (.int b9), .val (.int b10), .val (.int b11), .val (.ref b1), .val (.ref b3), .val (.int (((p4.toUInt32 >>> ((4 : Int32) &&& 31).toUInt32).toInt32) &&& (3 : Int32))), .val (.ref b7), .unset] [(.int (0 : Int32))]))
      refine own_by (fun tz kz => XS.istore X7.here hx rfl (hb hby at_192) rfl (l' := #[.val (.int p0), .val (.int p1), .val (.int p2), .val (.int p3), .val (.int p4), .val (.int p5), .val (.int (p2 &&& (2147483647 : Int32))), .val (.int (p3 &&& (2147483647 : Int32))), .val (.int b8), .val (.int b9), .val (.int b10), .val (.int b11), .val (.ref b1), .val (.ref b3), .val (.int (((p4.toUInt32 >>> ((4 : Int32) &&& 31).toUInt32).toInt32) &&& (3 : Int32))), .val (.ref b7), .val (.int (0 : Int32))]) rfl kz) ?_
      show own_Go p e below s _ _ (T7.setTop (mkF m 194 #[.val (.int p0), .val (.int p1), .val (.int p2), .val (.int p3), .val (.int p4), .val (.int p5), .val (.int (p2 &&& (2147483647 : Int32))), .val (.int (p3 &&& (2147483647 : Int32))), .val (.int b8), .val (.int b9), .val (.int b10), .val (.int b11), .val (.ref b1), .val (.ref b3), .val (.int (((p4.toUInt32 >>> ((4 : Int32) &&& 31).toUInt32).toInt32) &&& (3 : Int32))), .val (.ref b7), .val (.int (0 : Int32))] []))
      refine own_by (fun tz kz => XS.aload X7.here hx rfl (hb hby at_194) rfl rfl kz) ?_
      show own_Go p e below s _ _ (T7.setTop (mkF m 196 #[.val (.int p0), .val (.int p1), .val (.int p2), .val (.int p3), .val (.int p4), .val (.int p5), .val (.int (p2 &&& (2147483647 : Int32))), .val (.int (p3 &&& (2147483647 : Int32))), .val (.int b8), .val (.int b9), .val (.int b10), .val (.int b11), .val (.ref b1), .val (.ref b3), .val (.int (((p4.toUInt32 >>> ((4 : Int32) &&& 31).toUInt32).toInt32) &&& (3 : Int32))), .val (.ref b7), .val (.int (0 : Int32))] [(.ref b1)]))
      refine own_by (fun tz kz => XS.aload X7.here hx rfl (hb hby at_196) rfl rfl kz) ?_
      show own_Go p e below s _ _ (T7.setTop (mkF m 198 #[.val (.int p0), .val (.int p1), .val (.int p2), .val (.int p3), .val (.int p4), .val (.int p5), .val (.int (p2 &&& (2147483647 : Int32))), .val (.int (p3 &&& (2147483647 : Int32))), .val (.int b8), .val (.int b9), .val (.int b10), .val (.int b11), .val (.ref b1), .val (.ref b3), .val (.int (((p4.toUInt32 >>> ((4 : Int32) &&& 31).toUInt32).toInt32) &&& (3 : Int32))), .val (.ref b7), .val (.int (0 : Int32))] [(.ref b7), (.ref b1)]))
      have f8 := (((Fa2.ext E3).keep Kq5 (ninS ne_b1_b3 nin0)).keep Kq7 nin0)
      have f9 := (((Fb2.ext E3).keep Kq5 (ninS ne_b1_b3 nin0)).keep Kq7 nin0)
      have f10 := (((Fc2.ext E3).keep Kq5 (ninS ne_b1_b3 nin0)).keep Kq7 nin0)
      have f11 := (((Fd2.ext E3).keep Kq5 (ninS ne_b1_b3 nin0)).keep Kq7 nin0)
      have f12 := (((f4.ext E3).keep Kq5).keep Kq7)
      obtain ⟨cq13, kq13, q13a, q13b, q13c⟩ := isOf hZ e7 f12
      obtain ⟨_, _, ⟨T13, L13, k13, n13⟩, -, X13, ⟨Lc13, hQ13, l13, y13, z13⟩, st13⟩ := X7.virtualBack hx (y := (⟨"com/example/rectwire/rectwire/protocol/Rectangle", "equals", "(Ljava/lang/Object;)Z"⟩ : MethodName)) (z := (⟨"com/example/rectwire/rectwire/protocol/Rectangle", "equals", "(Ljava/lang/Object;)Z"⟩ : MethodName)) hown (mvT hZ (hw _ (List.mem_of_getElem? (i := 18) rfl))) (mvT hZ (hw _ (List.mem_of_getElem? (i := 19) rfl))) (notFace_of_selects (args := #[]) (mvT hZ (hw _ (List.mem_of_getElem? (i := 21) rfl)))) (mvT hZ (hw _ (List.mem_of_getElem? (i := 21) rfl))) (mvT hZ (hw _ (List.mem_of_getElem? (i := 20) rfl))) (by decide) (backOf (W := 0) (rm_eqI l Z a0 hw [] b1 b7 T7.heap n0 Eq7) hZ (hw _ (List.mem_of_getElem? (i := 22) rfl)) (hw _ (List.mem_of_getElem? (i := 3) rfl)) (by decide) (by decide)) q13a q13c (g := (mkF m 198 #[.val (.int p0), .val (.int p1), .val (.int p2), .val (.int p3), .val (.int p4), .val (.int p5), .val (.int (p2 &&& (2147483647 : Int32))), .val (.int (p3 &&& (2147483647 : Int32))), .val (.int b8), .val (.int b9), .val (.int b10), .val (.int b11), .val (.ref b1), .val (.ref b3), .val (.int (((p4.toUInt32 >>> ((4 : Int32) &&& 31).toUInt32).toInt32) &&& (3 : Int32))), .val (.ref b7), .val (.int (0 : Int32))] [(.ref b7), (.ref b1)])) rfl (by rw [hml]; rfl) (Steps.refl _) (argsL := [(.ref b7)]) (rest := []) (lenOf pd_2 rfl) rfl (by show 2 * 0 + _ ≤ _; exact Nat.le_of_eq rfl) (hb hby at_198) (fun _ _ => ⟨rfl, e7, (by decide : (2 + 1) + 0 ≤ _), (by decide : (8 + 1) + 0 ≤ _)⟩)
      dsimp only [Pt.U, Pt.locs, Pt.cells, Pt.slots] at X13 l13 y13 z13 st13 hQ13
      rw [l13, y13, z13] at X13
      obtain ⟨rfl, Nq13, e13⟩ := hQ13
      have N13 := Fr.app N7 Nq13
      refine own_via st13 ?_
      show own_Go p e below s _ _ (T13.setTop (mkF m 201 #[.val (.int p0), .val (.int p1), .val (.int p2), .val (.int p3), .val (.int p4), .val (.int p5), .val (.int (p2 &&& (2147483647 : Int32))), .val (.int (p3 &&& (2147483647 : Int32))), .val (.int b8), .val (.int b9), .val (.int b10), .val (.int b11), .val (.ref b1), .val (.ref b3), .val (.int (((p4.toUInt32 >>> ((4 : Int32) &&& 31).toUInt32).toInt32) &&& (3 : Int32))), .val (.ref b7), .val (.int (0 : Int32))] [(.int (0 : Int32))]))
      refine own_by (fun tz kz => XS.iload X13.here hx rfl (hb hby at_201) rfl  kz) ?_
      show own_Go p e below s _ _ (T13.setTop (mkF m 203 #[.val (.int p0), .val (.int p1), .val (.int p2), .val (.int p3), .val (.int p4), .val (.int p5), .val (.int (p2 &&& (2147483647 : Int32))), .val (.int (p3 &&& (2147483647 : Int32))), .val (.int b8), .val (.int b9), .val (.int b10), .val (.int b11), .val (.ref b1), .val (.ref b3), .val (.int (((p4.toUInt32 >>> ((4 : Int32) &&& 31).toUInt32).toInt32) &&& (3 : Int32))), .val (.ref b7), .val (.int (0 : Int32))] [(.int (0 : Int32)), (.int (0 : Int32))]))
      refine own_by (fun tz kz => XS.icmpNo X13.here hx rfl (hb hby at_203) rfl (teq (by decide : (0 : Int32) = (0 : Int32))).2 kz) ?_
      show own_Go p e below s _ _ (T13.setTop (mkF m 206 #[.val (.int p0), .val (.int p1), .val (.int p2), .val (.int p3), .val (.int p4), .val (.int p5), .val (.int (p2 &&& (2147483647 : Int32))), .val (.int (p3 &&& (2147483647 : Int32))), .val (.int b8), .val (.int b9), .val (.int b10), .val (.int b11), .val (.ref b1), .val (.ref b3), .val (.int (((p4.toUInt32 >>> ((4 : Int32) &&& 31).toUInt32).toInt32) &&& (3 : Int32))), .val (.ref b7), .val (.int (0 : Int32))] []))
      refine own_by (fun tz kz => XS.iconst X13.here hx rfl (hb hby at_206) kz) ?_
      show own_Go p e below s _ _ (T13.setTop (mkF m 207 #[.val (.int p0), .val (.int p1), .val (.int p2), .val (.int p3), .val (.int p4), .val (.int p5), .val (.int (p2 &&& (2147483647 : Int32))), .val (.int (p3 &&& (2147483647 : Int32))), .val (.int b8), .val (.int b9), .val (.int b10), .val (.int b11), .val (.ref b1), .val (.ref b3), .val (.int (((p4.toUInt32 >>> ((4 : Int32) &&& 31).toUInt32).toInt32) &&& (3 : Int32))), .val (.ref b7), .val (.int (0 : Int32))] [(.int (1 : Int32))]))
      refine own_by (fun tz kz => XS.goto X13.here hx rfl (pc0 := 207) (pc' := 211) rfl (hb hby at_207) (by decide) (by decide) kz) ?_
      show own_Go p e below s _ _ (T13.setTop (mkF m 211 #[.val (.int p0), .val (.int p1), .val (.int p2), .val (.int p3), .val (.int p4), .val (.int p5), .val (.int (p2 &&& (2147483647 : Int32))), .val (.int (p3 &&& (2147483647 : Int32))), .val (.int b8), .val (.int b9), .val (.int b10), .val (.int b11), .val (.ref b1), .val (.ref b3), .val (.int (((p4.toUInt32 >>> ((4 : Int32) &&& 31).toUInt32).toInt32) &&& (3 : Int32))), .val (.ref b7), .val (.int (0 : Int32))] [(.int (1 : Int32))]))
      refine own_retI X13 hx hlk (t := .boolean) hret (by simp) rfl (hb hby at_211) ?_ (by decide) (by decide)
      exact ⟨rfl, N13⟩
    · refine own_by (fun tz kz => XS.icmpYes X5.here hx rfl (pc0 := 127) (pc' := 139) rfl (hb hby at_127) rfl (feq hc127_6).2 (by decide) (by decide) kz) ?_
      show own_Go p e below s _ _ (T5.setTop (mkF m 139 #[.val (.int p0), .val (.int p1), .val (.int p2), .val (.int p3), .val (.int p4), .val (.int p5), .val (.int (p2 &&& (2147483647 : Int32))), .val (.int (p3 &&& (2147483647 : Int32))), .val (.int b8), .val (.int b9), .val (.int b10), .val (.int b11), .val (.ref b1), .val (.ref b3), .val (.int (((p4.toUInt32 >>> ((4 : Int32) &&& 31).toUInt32).toInt32) &&& (3 : Int32))), .unset, .unset] []))
      refine own_by (fun tz kz => XS.iload X5.here hx rfl (hb hby at_139) rfl  kz) ?_
      show own_Go p e below s _ _ (T5.setTop (mkF m 141 #[.val (.int p0), .val (.int p1), .val (.int p2), .val (.int p3), .val (.int p4), .val (.int p5), .val (.int (p2 &&& (2147483647 : Int32))), .val (.int (p3 &&& (2147483647 : Int32))), .val (.int b8), .val (.int b9), .val (.int b10), .val (.int b11), .val (.ref b1), .val (.ref b3), .val (.int (((p4.toUInt32 >>> ((4 : Int32) &&& 31).toUInt32).toInt32) &&& (3 : Int32))), .unset, .unset] [(.int (((p4.toUInt32 >>> ((4 : Int32) &&& 31).toUInt32).toInt32) &&& (3 : Int32)))]))
      refine own_by (fun tz kz => XS.iconst X5.here hx rfl (hb hby at_141) kz) ?_
      show own_Go p e below s _ _ (T5.setTop (mkF m 142 #[.val (.int p0), .val (.int p1), .val (.int p2), .val (.int p3), .val (.int p4), .val (.int p5), .val (.int (p2 &&& (2147483647 : Int32))), .val (.int (p3 &&& (2147483647 : Int32))), .val (.int b8), .val (.int b9), .val (.int b10), .val (.int b11), .val (.ref b1), .val (.ref b3), .val (.int (((p4.toUInt32 >>> ((4 : Int32) &&& 31).toUInt32).toInt32) &&& (3 : Int32))), .unset, .unset] [(.int (3 : Int32)), (.int (((p4.toUInt32 >>> ((4 : Int32) &&& 31).toUInt32).toInt32) &&& (3 : Int32)))]))
      by_cases hc142_14 : (((p4.toUInt32 >>> ((4 : Int32) &&& 31).toUInt32).toInt32) &&& (3 : Int32)) = (3 : Int32)
      · refine own_by (fun tz kz => XS.icmpNo X5.here hx rfl (hb hby at_142) rfl (teq hc142_14).2 kz) ?_
        show own_Go p e below s _ _ (T5.setTop (mkF m 145 #[.val (.int p0), .val (.int p1), .val (.int p2), .val (.int p3), .val (.int p4), .val (.int p5), .val (.int (p2 &&& (2147483647 : Int32))), .val (.int (p3 &&& (2147483647 : Int32))), .val (.int b8), .val (.int b9), .val (.int b10), .val (.int b11), .val (.ref b1), .val (.ref b3), .val (.int (((p4.toUInt32 >>> ((4 : Int32) &&& 31).toUInt32).toInt32) &&& (3 : Int32))), .unset, .unset] []))
        refine own_by (fun tz kz => XS.aconstNull X5.here hx rfl (hb hby at_145) kz) ?_
        show own_Go p e below s _ _ (T5.setTop (mkF m 146 #[.val (.int p0), .val (.int p1), .val (.int p2), .val (.int p3), .val (.int p4), .val (.int p5), .val (.int (p2 &&& (2147483647 : Int32))), .val (.int (p3 &&& (2147483647 : Int32))), .val (.int b8), .val (.int b9), .val (.int b10), .val (.int b11), .val (.ref b1), .val (.ref b3), .val (.int (((p4.toUInt32 >>> ((4 : Int32) &&& 31).toUInt32).toInt32) &&& (3 : Int32))), .unset, .unset] [.null]))
        refine own_by (fun tz kz => XS.astore X5.here hx rfl (hb hby at_146) rfl rfl (l' := #[.val (.int p0), .val (.int p1), .val (.int p2), .val (.int p3), .val (.int p4), .val (.int p5), .val (.int (p2 &&& (2147483647 : Int32))), .val (.int (p3 &&& (2147483647 : Int32))), .val (.int b8), .val (.int b9), .val (.int b10), .val (.int b11), .val (.ref b1), .val (.ref b3), .val (.int (((p4.toUInt32 >>> ((4 : Int32) &&& 31).toUInt32).toInt32) &&& (3 : Int32))), .val .null, .unset]) rfl kz) ?_
        show own_Go p e below s _ _ (T5.setTop (mkF m 148 #[.val (.int p0), .val (.int p1), .val (.int p2), .val (.int p3), .val (.int p4), .val (.int p5), .val (.int (p2 &&& (2147483647 : Int32))), .val (.int (p3 &&& (2147483647 : Int32))), .val (.int b8), .val (.int b9), .val (.int b10), .val (.int b11), .val (.ref b1), .val (.ref b3), .val (.int (((p4.toUInt32 >>> ((4 : Int32) &&& 31).toUInt32).toInt32) &&& (3 : Int32))), .val .null, .unset] []))
        refine own_by (fun tz kz => XS.goto X5.here hx rfl (pc0 := 148) (pc' := 155) rfl (hb hby at_148) (by decide) (by decide) kz) ?_
        show own_Go p e below s _ _ (T5.setTop (mkF m 155 #[.val (.int p0), .val (.int p1), .val (.int p2), .val (.int p3), .val (.int p4), .val (.int p5), .val (.int (p2 &&& (2147483647 : Int32))), .val (.int (p3 &&& (2147483647 : Int32))), .val (.int b8), .val (.int b9), .val (.int b10), .val (.int b11), .val (.ref b1), .val (.ref b3), .val (.int (((p4.toUInt32 >>> ((4 : Int32) &&& 31).toUInt32).toInt32) &&& (3 : Int32))), .val .null, .unset] []))
        refine own_by (fun tz kz => XS.iload X5.here hx rfl (hb hby at_155) rfl  kz) ?_
        show own_Go p e below s _ _ (T5.setTop (mkF m 157 #[.val (.int p0), .val (.int p1), .val (.int p2), .val (.int p3), .val (.int p4), .val (.int p5), .val (.int (p2 &&& (2147483647 : Int32))), .val (.int (p3 &&& (2147483647 : Int32))), .val (.int b8), .val (.int b9), .val (.int b10), .val (.int b11), .val (.ref b1), .val (.ref b3), .val (.int (((p4.toUInt32 >>> ((4 : Int32) &&& 31).toUInt32).toInt32) &&& (3 : Int32))), .val .null, .unset] [(.int (((p4.toUInt32 >>> ((4 : Int32) &&& 31).toUInt32).toInt32) &&& (3 : Int32)))]))
        refine own_by (fun tz kz => XS.iconst X5.here hx rfl (hb hby at_157) kz) ?_
        show own_Go p e below s _ _ (T5.setTop (mkF m 158 #[.val (.int p0), .val (.int p1), .val (.int p2), .val (.int p3), .val (.int p4), .val (.int p5), .val (.int (p2 &&& (2147483647 : Int32))), .val (.int (p3 &&& (2147483647 : Int32))), .val (.int b8), .val (.int b9), .val (.int b10), .val (.int b11), .val (.ref b1), .val (.ref b3), .val (.int (((p4.toUInt32 >>> ((4 : Int32) &&& 31).toUInt32).toInt32) &&& (3 : Int32))), .val .null, .unset] [(.int (2 : Int32)), (.int (((p4.toUInt32 >>> ((4 : Int32) &&& 31).toUInt32).toInt32) &&& (3 : Int32)))]))
        refine own_by (fun tz kz => XS.icmpYes X5.here hx rfl (pc0 := 158) (pc' := 191) rfl (hb hby at_158) rfl (flt (by rw [hc142_14]; decide)).2.1 (by decide) (by decide) kz) ?_
        show own_Go p e below s _ _ (T5.setTop (mkF m 191 #[.val (.int p0), .val (.int p1), .val (.int p2), .val (.int p3), .val (.int p4), .val (.int p5), .val (.int (p2 &&& (2147483647 : Int32))), .val (.int (p3 &&& (2147483647 : Int32))), .val (.int b8), .val (.int b9), .val (.int b10), .val (.int b11), .val (.ref b1), .val (.ref b3), .val (.int (((p4.toUInt32 >>> ((4 : Int32) &&& 31).toUInt32).toInt32) &&& (3 : Int32))), .val .null, .unset] []))
        refine own_by (fun tz kz => XS.iconst X5.here hx rfl (hb hby at_191) kz) ?_
        show own_Go p e below s _ _ (T5.setTop (mkF m 192 #[.val (.int p0), .val (.int p1), .val (.int p2), .val (.int p3), .val (.int p4), .val (.int p5), .val (.int (p2 &&& (2147483647 : Int32))), .val (.int (p3 &&& (2147483647 : Int32))), .val (.int b8), .val (.int b9), .val (.int b10), .val (.int b11), .val (.ref b1), .val (.ref b3), .val (.int (((p4.toUInt32 >>> ((4 : Int32) &&& 31).toUInt32).toInt32) &&& (3 : Int32))), .val .null, .unset] [(.int (0 : Int32))]))
        refine own_by (fun tz kz => XS.istore X5.here hx rfl (hb hby at_192) rfl (l' := #[.val (.int p0), .val (.int p1), .val (.int p2), .val (.int p3), .val (.int p4), .val (.int p5), .val (.int (p2 &&& (2147483647 : Int32))), .val (.int (p3 &&& (2147483647 : Int32))), .val (.int b8), .val (.int b9), .val (.int b10), .val (.int b11), .val (.ref b1), .val (.ref b3), .val (.int (((p4.toUInt32 >>> ((4 : Int32) &&& 31).toUInt32).toInt32) &&& (3 : Int32))), .val .null, .val (.int (0 : Int32))]) rfl kz) ?_
        show own_Go p e below s _ _ (T5.setTop (mkF m 194 #[.val (.int p0), .val (.int p1), .val (.int p2), .val (.int p3), .val (.int p4), .val (.int p5), .val (.int (p2 &&& (2147483647 : Int32))), .val (.int (p3 &&& (2147483647 : Int32))), .val (.int b8), .val (.int b9), .val (.int b10), .val (.int b11), .val (.ref b1), .val (.ref b3), .val (.int (((p4.toUInt32 >>> ((4 : Int32) &&& 31).toUInt32).toInt32) &&& (3 : Int32))), .val .null, .val (.int (0 : Int32))] []))
        refine own_by (fun tz kz => XS.aload X5.here hx rfl (hb hby at_194) rfl rfl kz) ?_
        show own_Go p e below s _ _ (T5.setTop (mkF m 196 #[.val (.int p0), .val (.int p1), .val (.int p2), .val (.int p3), .val (.int p4), .val (.int p5), .val (.int (p2 &&& (2147483647 : Int32))), .val (.int (p3 &&& (2147483647 : Int32))), .val (.int b8), .val (.int b9), .val (.int b10), .val (.int b11), .val (.ref b1), .val (.ref b3), .val (.int (((p4.toUInt32 >>> ((4 : Int32) &&& 31).toUInt32).toInt32) &&& (3 : Int32))), .val .null, .val (.int (0 : Int32))] [(.ref b1)]))
        refine own_by (fun tz kz => XS.aload X5.here hx rfl (hb hby at_196) rfl rfl kz) ?_
        show own_Go p e below s _ _ (T5.setTop (mkF m 198 #[.val (.int p0), .val (.int p1), .val (.int p2), .val (.int p3), .val (.int p4), .val (.int p5), .val (.int (p2 &&& (2147483647 : Int32))), .val (.int (p3 &&& (2147483647 : Int32))), .val (.int b8), .val (.int b9), .val (.int b10), .val (.int b11), .val (.ref b1), .val (.ref b3), .val (.int (((p4.toUInt32 >>> ((4 : Int32) &&& 31).toUInt32).toInt32) &&& (3 : Int32))), .val .null, .val (.int (0 : Int32))] [.null, (.ref b1)]))
        have f15 := ((Fa2.ext E3).keep Kq5 (ninS ne_b1_b3 nin0))
        have f16 := ((Fb2.ext E3).keep Kq5 (ninS ne_b1_b3 nin0))
        have f17 := ((Fc2.ext E3).keep Kq5 (ninS ne_b1_b3 nin0))
        have f18 := ((Fd2.ext E3).keep Kq5 (ninS ne_b1_b3 nin0))
        have f19 := ((f4.ext E3).keep Kq5)
        obtain ⟨cq20, kq20, q20a, q20b, q20c⟩ := isOf hZ e5 f19
        obtain ⟨_, _, ⟨T20, L20, k20, n20⟩, -, X20, ⟨Lc20, hQ20, l20, y20, z20⟩, st20⟩ := X5.virtualBack hx (y := (⟨"com/example/rectwire/rectwire/protocol/Rectangle", "equals", "(Ljava/lang/Object;)Z"⟩ : MethodName)) (z := (⟨"com/example/rectwire/rectwire/protocol/Rectangle", "equals", "(Ljava/lang/Object;)Z"⟩ : MethodName)) hown (mvT hZ (hw _ (List.mem_of_getElem? (i := 18) rfl))) (mvT hZ (hw _ (List.mem_of_getElem? (i := 19) rfl))) (notFace_of_selects (args := #[]) (mvT hZ (hw _ (List.mem_of_getElem? (i := 21) rfl)))) (mvT hZ (hw _ (List.mem_of_getElem? (i := 21) rfl))) (mvT hZ (hw _ (List.mem_of_getElem? (i := 20) rfl))) (by decide) (backOf (W := 0) (rm_eqN l Z a0 hw [] b1 T5.heap n0) hZ (hw _ (List.mem_of_getElem? (i := 22) rfl)) (hw _ (List.mem_of_getElem? (i := 3) rfl)) (by decide) (by decide)) q20a q20c (g := (mkF m 198 #[.val (.int p0), .val (.int p1), .val (.int p2), .val (.int p3), .val (.int p4), .val (.int p5), .val (.int (p2 &&& (2147483647 : Int32))), .val (.int (p3 &&& (2147483647 : Int32))), .val (.int b8), .val (.int b9), .val (.int b10), .val (.int b11), .val (.ref b1), .val (.ref b3), .val (.int (((p4.toUInt32 >>> ((4 : Int32) &&& 31).toUInt32).toInt32) &&& (3 : Int32))), .val .null, .val (.int (0 : Int32))] [.null, (.ref b1)])) rfl (by rw [hml]; rfl) (Steps.refl _) (argsL := [.null]) (rest := []) (lenOf pd_2 rfl) rfl (by show 2 * 0 + _ ≤ _; exact Nat.le_of_eq rfl) (hb hby at_198) (fun _ _ => ⟨rfl, e5, (by decide : 2 + 0 ≤ _), (by decide : 8 + 0 ≤ _)⟩)
        dsimp only [Pt.U, Pt.locs, Pt.cells, Pt.slots] at X20 l20 y20 z20 st20 hQ20
        rw [l20, y20, z20] at X20
        obtain ⟨rfl, Nq20, e20⟩ := hQ20
        have N20 := Fr.app N5 Nq20
        refine own_via st20 ?_
        show own_Go p e below s _ _ (T20.setTop (mkF m 201 #[.val (.int p0), .val (.int p1), .val (.int p2), .val (.int p3), .val (.int p4), .val (.int p5), .val (.int (p2 &&& (2147483647 : Int32))), .val (.int (p3 &&& (2147483647 : Int32))), .val (.int b8), .val (.int b9), .val (.int b10), .val (.int b11), .val (.ref b1), .val (.ref b3), .val (.int (((p4.toUInt32 >>> ((4 : Int32) &&& 31).toUInt32).toInt32) &&& (3 : Int32))), .val .null, .val (.int (0 : Int32))] [(.int (0 : Int32))]))
        refine own_by (fun tz kz => XS.iload X20.here hx rfl (hb hby at_201) rfl  kz) ?_
        show own_Go p e below s _ _ (T20.setTop (mkF m 203 #[.val (.int p0), .val (.int p1), .val (.int p2), .val (.int p3), .val (.int p4), .val (.int p5), .val (.int (p2 &&& (2147483647 : Int32))), .val (.int (p3 &&& (2147483647 : Int32))), .val (.int b8), .val (.int b9), .val (.int b10), .val (.int b11), .val (.ref b1), .val (.ref b3), .val (.int (((p4.toUInt32 >>> ((4 : Int32) &&& 31).toUInt32).toInt32) &&& (3 : Int32))), .val .null, .val (.int (0 : Int32))] [(.int (0 : Int32)), (.int (0 : Int32))]))
        refine own_by (fun tz kz => XS.icmpNo X20.here hx rfl (hb hby at_203) rfl (teq (by decide : (0 : Int32) = (0 : Int32))).2 kz) ?_
        show own_Go p e below s _ _ (T20.setTop (mkF m 206 #[.val (.int p0), .val (.int p1), .val (.int p2), .val (.int p3), .val (.int p4), .val (.int p5), .val (.int (p2 &&& (2147483647 : Int32))), .val (.int (p3 &&& (2147483647 : Int32))), .val (.int b8), .val (.int b9), .val (.int b10), .val (.int b11), .val (.ref b1), .val (.ref b3), .val (.int (((p4.toUInt32 >>> ((4 : Int32) &&& 31).toUInt32).toInt32) &&& (3 : Int32))), .val .null, .val (.int (0 : Int32))] []))
        refine own_by (fun tz kz => XS.iconst X20.here hx rfl (hb hby at_206) kz) ?_
        show own_Go p e below s _ _ (T20.setTop (mkF m 207 #[.val (.int p0), .val (.int p1), .val (.int p2), .val (.int p3), .val (.int p4), .val (.int p5), .val (.int (p2 &&& (2147483647 : Int32))), .val (.int (p3 &&& (2147483647 : Int32))), .val (.int b8), .val (.int b9), .val (.int b10), .val (.int b11), .val (.ref b1), .val (.ref b3), .val (.int (((p4.toUInt32 >>> ((4 : Int32) &&& 31).toUInt32).toInt32) &&& (3 : Int32))), .val .null, .val (.int (0 : Int32))] [(.int (1 : Int32))]))
        refine own_by (fun tz kz => XS.goto X20.here hx rfl (pc0 := 207) (pc' := 211) rfl (hb hby at_207) (by decide) (by decide) kz) ?_
        show own_Go p e below s _ _ (T20.setTop (mkF m 211 #[.val (.int p0), .val (.int p1), .val (.int p2), .val (.int p3), .val (.int p4), .val (.int p5), .val (.int (p2 &&& (2147483647 : Int32))), .val (.int (p3 &&& (2147483647 : Int32))), .val (.int b8), .val (.int b9), .val (.int b10), .val (.int b11), .val (.ref b1), .val (.ref b3), .val (.int (((p4.toUInt32 >>> ((4 : Int32) &&& 31).toUInt32).toInt32) &&& (3 : Int32))), .val .null, .val (.int (0 : Int32))] [(.int (1 : Int32))]))
        refine own_retI X20 hx hlk (t := .boolean) hret (by simp) rfl (hb hby at_211) ?_ (by decide) (by decide)
        exact ⟨rfl, N20⟩
      · refine own_by (fun tz kz => XS.icmpYes X5.here hx rfl (pc0 := 142) (pc' := 151) rfl (hb hby at_142) rfl (feq hc142_14).2 (by decide) (by decide) kz) ?_
        show own_Go p e below s _ _ (T5.setTop (mkF m 151 #[.val (.int p0), .val (.int p1), .val (.int p2), .val (.int p3), .val (.int p4), .val (.int p5), .val (.int (p2 &&& (2147483647 : Int32))), .val (.int (p3 &&& (2147483647 : Int32))), .val (.int b8), .val (.int b9), .val (.int b10), .val (.int b11), .val (.ref b1), .val (.ref b3), .val (.int (((p4.toUInt32 >>> ((4 : Int32) &&& 31).toUInt32).toInt32) &&& (3 : Int32))), .unset, .unset] []))
        refine own_by (fun tz kz => XS.aload X5.here hx rfl (hb hby at_151) rfl rfl kz) ?_
        show own_Go p e below s _ _ (T5.setTop (mkF m 153 #[.val (.int p0), .val (.int p1), .val (.int p2), .val (.int p3), .val (.int p4), .val (.int p5), .val (.int (p2 &&& (2147483647 : Int32))), .val (.int (p3 &&& (2147483647 : Int32))), .val (.int b8), .val (.int b9), .val (.int b10), .val (.int b11), .val (.ref b1), .val (.ref b3), .val (.int (((p4.toUInt32 >>> ((4 : Int32) &&& 31).toUInt32).toInt32) &&& (3 : Int32))), .unset, .unset] [(.ref b3)]))
        refine own_by (fun tz kz => XS.astore X5.here hx rfl (hb hby at_153) rfl rfl (l' := #[.val (.int p0), .val (.int p1), .val (.int p2), .val (.int p3), .val (.int p4), .val (.int p5), .val (.int (p2 &&& (2147483647 : Int32))), .val (.int (p3 &&& (2147483647 : Int32))), .val (.int b8), .val (.int b9), .val (.int b10), .val (.int b11), .val (.ref b1), .val (.ref b3), .val (.int (((p4.toUInt32 >>> ((4 : Int32) &&& 31).toUInt32).toInt32) &&& (3 : Int32))), .val (.ref b3), .unset]) rfl kz) ?_
        show own_Go p e below s _ _ (T5.setTop (mkF m 155 #[.val (.int p0), .val (.int p1), .val (.int p2), .val (.int p3), .val (.int p4), .val (.int p5), .val (.int (p2 &&& (2147483647 : Int32))), .val (.int (p3 &&& (2147483647 : Int32))), .val (.int b8), .val (.int b9), .val (.int b10), .val (.int b11), .val (.ref b1), .val (.ref b3), .val (.int (((p4.toUInt32 >>> ((4 : Int32) &&& 31).toUInt32).toInt32) &&& (3 : Int32))), .val (.ref b3), .unset] []))
        refine own_by (fun tz kz => XS.iload X5.here hx rfl (hb hby at_155) rfl  kz) ?_
        show own_Go p e below s _ _ (T5.setTop (mkF m 157 #[.val (.int p0), .val (.int p1), .val (.int p2), .val (.int p3), .val (.int p4), .val (.int p5), .val (.int (p2 &&& (2147483647 : Int32))), .val (.int (p3 &&& (2147483647 : Int32))), .val (.int b8), .val (.int b9), .val (.int b10), .val (.int b11), .val (.ref b1), .val (.ref b3), .val (.int (((p4.toUInt32 >>> ((4 : Int32) &&& 31).toUInt32).toInt32) &&& (3 : Int32))), .val (.ref b3), .unset] [(.int (((p4.toUInt32 >>> ((4 : Int32) &&& 31).toUInt32).toInt32) &&& (3 : Int32)))]))
        refine own_by (fun tz kz => XS.iconst X5.here hx rfl (hb hby at_157) kz) ?_
        show own_Go p e below s _ _ (T5.setTop (mkF m 158 #[.val (.int p0), .val (.int p1), .val (.int p2), .val (.int p3), .val (.int p4), .val (.int p5), .val (.int (p2 &&& (2147483647 : Int32))), .val (.int (p3 &&& (2147483647 : Int32))), .val (.int b8), .val (.int b9), .val (.int b10), .val (.int b11), .val (.ref b1), .val (.ref b3), .val (.int (((p4.toUInt32 >>> ((4 : Int32) &&& 31).toUInt32).toInt32) &&& (3 : Int32))), .val (.ref b3), .unset] [(.int (2 : Int32)), (.int (((p4.toUInt32 >>> ((4 : Int32) &&& 31).toUInt32).toInt32) &&& (3 : Int32)))]))
        refine own_by (fun tz kz => XS.icmpNo X5.here hx rfl (hb hby at_158) rfl (tlt (own_k3 _ hc127_6 hc142_14)).2.1 kz) ?_
        have J194 : ∀ ex : Int32, ex = (if b8 = p0 ∧ b9 = p1 ∧ b10 = (p2 &&& (2147483647 : Int32)) ∧ b11 = (p3 &&& (2147483647 : Int32)) then (1 : Int32) else (0 : Int32)) → own_Go p e below s (Q_rm0 Z p0 p1 p2 p3 p4 p5 ca ccl val h0 n0) room_1 (T5.setTop (mkF m 194 #[.val (.int p0), .val (.int p1), .val (.int p2), .val (.int p3), .val (.int p4), .val (.int p5), .val (.int (p2 &&& (2147483647 : Int32))), .val (.int (p3 &&& (2147483647 : Int32))), .val (.int b8), .val (.int b9), .val (.int b10), .val (.int b11), .val (.ref b1), .val (.ref b3), .val (.int (((p4.toUInt32 >>> ((4 : Int32) &&& 31).toUInt32).toInt32) &&& (3 : Int32))), .val (.ref b3), .val (.int ex)] [])) := by
          intro ex hex
          show own_Go p e below s _ _ (T5.setTop (mkF m 194 #[.val (.int p0), .val (.int p1), .val (.int p2), .val (.int p3), .val (.int p4), .val (.int p5), .val (.int (p2 &&& (2147483647 : Int32))), .val (.int (p3 &&& (2147483647 : Int32))), .val (.int b8), .val (.int b9), .val (.int b10), .val (.int b11), .val (.ref b1), .val (.ref b3), .val (.int (((p4.toUInt32 >>> ((4 : Int32) &&& 31).toUInt32).toInt32) &&& (3 : Int32))), .val (.ref b3), .val (.int ex)] []))
          refine own_by (fun tz kz => XS.aload X5.here hx rfl (hb hby at_194) rfl rfl kz) ?_
          show own_Go p e below s _ _ (T5.setTop (mkF m 196 #[.val (.int p0), .val (.int p1), .val (.int p2), .val (.int p3), .val (.int p4), .val (.int p5), .val (.int (p2 &&& (2147483647 : Int32))), .val (.int (p3 &&& (2147483647 : Int32))), .val (.int b8), .val (.int b9), .val (.int b10), .val (.int b11), .val (.ref b1), .val (.ref b3), .val (.int (((p4.toUInt32 >>> ((4 : Int32) &&& 31).toUInt32).toInt32) &&& (3 : Int32))), .val (.ref b3), .val (.int ex)] [(.ref b1)]))
          refine own_by (fun tz kz => XS.aload X5.here hx rfl (hb hby at_196) rfl rfl kz) ?_
          show own_Go p e below s _ _ (T5.setTop (mkF m 198 #[.val (.int p0), .val (.int p1), .val (.int p2), .val (.int p3), .val (.int p4), .val (.int p5), .val (.int (p2 &&& (2147483647 : Int32))), .val (.int (p3 &&& (2147483647 : Int32))), .val (.int b8), .val (.int b9), .val (.int b10), .val (.int b11), .val (.ref b1), .val (.ref b3), .val (.int (((p4.toUInt32 >>> ((4 : Int32) &&& 31).toUInt32).toInt32) &&& (3 : Int32))), .val (.ref b3), .val (.int ex)] [(.ref b3), (.ref b1)]))
          have f21 := ((Fa2.ext E3).keep Kq5 (ninS ne_b1_b3 nin0))
          have f22 := ((Fb2.ext E3).keep Kq5 (ninS ne_b1_b3 nin0))
          have f23 := ((Fc2.ext E3).keep Kq5 (ninS ne_b1_b3 nin0))
          have f24 := ((Fd2.ext E3).keep Kq5 (ninS ne_b1_b3 nin0))
          have f25 := ((f4.ext E3).keep Kq5)
          have f26 := (A3.keep Kq5)
          obtain ⟨cq27, kq27, q27a, q27b, q27c⟩ := isOf hZ e5 f25
          obtain ⟨_, _, ⟨T27, L27, k27, n27⟩, -, X27, ⟨Lc27, hQ27, l27, y27, z27⟩, st27⟩ := X5.virtualBack hx (y := (⟨"com/example/rectwire/rectwire/protocol/Rectangle", "equals", "(Ljava/lang/Object;)Z"⟩ : MethodName)) (z := (⟨"com/example/rectwire/rectwire/protocol/Rectangle", "equals", "(Ljava/lang/Object;)Z"⟩ : MethodName)) hown (mvT hZ (hw _ (List.mem_of_getElem? (i := 18) rfl))) (mvT hZ (hw _ (List.mem_of_getElem? (i := 19) rfl))) (notFace_of_selects (args := #[]) (mvT hZ (hw _ (List.mem_of_getElem? (i := 21) rfl)))) (mvT hZ (hw _ (List.mem_of_getElem? (i := 21) rfl))) (mvT hZ (hw _ (List.mem_of_getElem? (i := 20) rfl))) (by decide) (backOf (W := 0) (rm_eq l Z a0 hw [] b1 b3 p0 p1 (p2 &&& (2147483647 : Int32)) (p3 &&& (2147483647 : Int32)) b8 b9 b10 b11 ex T5.heap n0 f26 f21 f22 f23 f24 Fa5 Fb5 Fc5 Fd5 (hex.trans (own_sym4 _ _ _ _ _ _ _ _))) hZ (hw _ (List.mem_of_getElem? (i := 22) rfl)) (hw _ (List.mem_of_getElem? (i := 3) rfl)) (by decide) (by decide)) q27a q27c (g := (mkF m 198 #[.val (.int p0), .val (.int p1), .val (.int p2), .val (.int p3), .val (.int p4), .val (.int p5), .val (.int (p2 &&& (2147483647 : Int32))), .val (.int (p3 &&& (2147483647 : Int32))), .val (.int b8), .val (.int b9), .val (.int b10), .val (.int b11), .val (.ref b1), .val (.ref b3), .val (.int (((p4.toUInt32 >>> ((4 : Int32) &&& 31).toUInt32).toInt32) &&& (3 : Int32))), .val (.ref b3), .val (.int ex)] [(.ref b3), (.ref b1)])) rfl (by rw [hml]; rfl) (Steps.refl _) (argsL := [(.ref b3)]) (rest := []) (lenOf pd_2 rfl) rfl (by show 2 * 0 + _ ≤ _; exact Nat.le_of_eq rfl) (hb hby at_198) (fun _ _ => ⟨rfl, e5, (by decide : 2 + 0 ≤ _), (by decide : 8 + 0 ≤ _)⟩)
          dsimp only [Pt.U, Pt.locs, Pt.cells, Pt.slots] at X27 l27 y27 z27 st27 hQ27
          rw [l27, y27, z27] at X27
          obtain ⟨rfl, Nq27, e27⟩ := hQ27
          have N27 := Fr.app N5 Nq27
          refine own_via st27 ?_
          show own_Go p e below s _ _ (T27.setTop (mkF m 201 #[.val (.int p0), .val (.int p1), .val (.int p2), .val (.int p3), .val (.int p4), .val (.int p5), .val (.int (p2 &&& (2147483647 : Int32))), .val (.int (p3 &&& (2147483647 : Int32))), .val (.int b8), .val (.int b9), .val (.int b10), .val (.int b11), .val (.ref b1), .val (.ref b3), .val (.int (((p4.toUInt32 >>> ((4 : Int32) &&& 31).toUInt32).toInt32) &&& (3 : Int32))), .val (.ref b3), .val (.int ex)] [(.int ex)]))
          refine own_by (fun tz kz => XS.iload X27.here hx rfl (hb hby at_201) rfl  kz) ?_
          show own_Go p e below s _ _ (T27.setTop (mkF m 203 #[.val (.int p0), .val (.int p1), .val (.int p2), .val (.int p3), .val (.int p4), .val (.int p5), .val (.int (p2 &&& (2147483647 : Int32))), .val (.int (p3 &&& (2147483647 : Int32))), .val (.int b8), .val (.int b9), .val (.int b10), .val (.int b11), .val (.ref b1), .val (.ref b3), .val (.int (((p4.toUInt32 >>> ((4 : Int32) &&& 31).toUInt32).toInt32) &&& (3 : Int32))), .val (.ref b3), .val (.int ex)] [(.int ex), (.int ex)]))
          refine own_by (fun tz kz => XS.icmpNo X27.here hx rfl (hb hby at_203) rfl (teq rfl).2 kz) ?_
          show own_Go p e below s _ _ (T27.setTop (mkF m 206 #[.val (.int p0), .val (.int p1), .val (.int p2), .val (.int p3), .val (.int p4), .val (.int p5), .val (.int (p2 &&& (2147483647 : Int32))), .val (.int (p3 &&& (2147483647 : Int32))), .val (.int b8), .val (.int b9), .val (.int b10), .val (.int b11), .val (.ref b1), .val (.ref b3), .val (.int (((p4.toUInt32 >>> ((4 : Int32) &&& 31).toUInt32).toInt32) &&& (3 : Int32))), .val (.ref b3), .val (.int ex)] []))
          refine own_by (fun tz kz => XS.iconst X27.here hx rfl (hb hby at_206) kz) ?_
          show own_Go p e below s _ _ (T27.setTop (mkF m 207 #[.val (.int p0), .val (.int p1), .val (.int p2), .val (.int p3), .val (.int p4), .val (.int p5), .val (.int (p2 &&& (2147483647 : Int32))), .val (.int (p3 &&& (2147483647 : Int32))), .val (.int b8), .val (.int b9), .val (.int b10), .val (.int b11), .val (.ref b1), .val (.ref b3), .val (.int (((p4.toUInt32 >>> ((4 : Int32) &&& 31).toUInt32).toInt32) &&& (3 : Int32))), .val (.ref b3), .val (.int ex)] [(.int (1 : Int32))]))
          refine own_by (fun tz kz => XS.goto X27.here hx rfl (pc0 := 207) (pc' := 211) rfl (hb hby at_207) (by decide) (by decide) kz) ?_
          show own_Go p e below s _ _ (T27.setTop (mkF m 211 #[.val (.int p0), .val (.int p1), .val (.int p2), .val (.int p3), .val (.int p4), .val (.int p5), .val (.int (p2 &&& (2147483647 : Int32))), .val (.int (p3 &&& (2147483647 : Int32))), .val (.int b8), .val (.int b9), .val (.int b10), .val (.int b11), .val (.ref b1), .val (.ref b3), .val (.int (((p4.toUInt32 >>> ((4 : Int32) &&& 31).toUInt32).toInt32) &&& (3 : Int32))), .val (.ref b3), .val (.int ex)] [(.int (1 : Int32))]))
          refine own_retI X27 hx hlk (t := .boolean) hret (by simp) rfl (hb hby at_211) ?_ (by decide) (by decide)
          exact ⟨rfl, N27⟩
        show own_Go p e below s _ _ (T5.setTop (mkF m 161 #[.val (.int p0), .val (.int p1), .val (.int p2), .val (.int p3), .val (.int p4), .val (.int p5), .val (.int (p2 &&& (2147483647 : Int32))), .val (.int (p3 &&& (2147483647 : Int32))), .val (.int b8), .val (.int b9), .val (.int b10), .val (.int b11), .val (.ref b1), .val (.ref b3), .val (.int (((p4.toUInt32 >>> ((4 : Int32) &&& 31).toUInt32).toInt32) &&& (3 : Int32))), .val (.ref b3), .unset] []))
        refine own_by (fun tz kz => XS.iload X5.here hx rfl (hb hby at_161) rfl  kz) ?_
        show own_Go p e below s _ _ (T5.setTop (mkF m 163 #[.val (.int p0), .val (.int p1), .val (.int p2), .val (.int p3), .val (.int p4), .val (.int p5), .val (.int (p2 &&& (2147483647 : Int32))), .val (.int (p3 &&& (2147483647 : Int32))), .val (.int b8), .val (.int b9), .val (.int b10), .val (.int b11), .val (.ref b1), .val (.ref b3), .val (.int (((p4.toUInt32 >>> ((4 : Int32) &&& 31).toUInt32).toInt32) &&& (3 : Int32))), .val (.ref b3), .unset] [(.int b8)]))
        refine own_by (fun tz kz => XS.iloadN X5.here hx rfl (hb hby at_163) rfl  kz) ?_
        show own_Go p e below s _ _ (T5.setTop (mkF m 164 #[.val (.int p0), .val (.int p1), .val (.int p2), .val (.int p3), .val (.int p4), .val (.int p5), .val (.int (p2 &&& (2147483647 : Int32))), .val (.int (p3 &&& (2147483647 : Int32))), .val (.int b8), .val (.int b9), .val (.int b10), .val (.int b11), .val (.ref b1), .val (.ref b3), .val (.int (((p4.toUInt32 >>> ((4 : Int32) &&& 31).toUInt32).toInt32) &&& (3 : Int32))), .val (.ref b3), .unset] [(.int p0), (.int b8)]))
        by_cases hc164_28 : b8 = p0
        · refine own_by (fun tz kz => XS.icmpNo X5.here hx rfl (hb hby at_164) rfl (teq hc164_28).2 kz) ?_
          show own_Go p e below s _ _ (T5.setTop (mkF m 167 #[.val (.int p0), .val (.int p1), .val (.int p2), .val (.int p3), .val (.int p4), .val (.int p5), .val (.int (p2 &&& (2147483647 : Int32))), .val (.int (p3 &&& (2147483647 : Int32))), .val (.int b8), .val (.int b9), .val (.int b10), .val (.int b11), .val (.ref b1), .val (.ref b3), .val (.int (((p4.toUInt32 >>> ((4 : Int32) &&& 31).toUInt32).toInt32) &&& (3 : Int32))), .val (.ref b3), .unset] []))
          refine own_by (fun tz kz => XS.iload X5.here hx rfl (hb hby at_167) rfl  kz) ?_
          show own_Go p e below s _ _ (T5.setTop (mkF m 169 #[.val (.int p0), .val (.int p1), .val (.int p2), .val (.int p3), .val (.int p4), .val (.int p5), .val (.int (p2 &&& (2147483647 : Int32))), .val (.int (p3 &&& (2147483647 : Int32))), .val (.int b8), .val (.int b9), .val (.int b10), .val (.int b11), .val (.ref b1), .val (.ref b3), .val (.int (((p4.toUInt32 >>> ((4 : Int32) &&& 31).toUInt32).toInt32) &&& (3 : Int32))), .val (.ref b3), .unset] [(.int b9)]))
          refine own_by (fun tz kz => XS.iloadN X5.here hx rfl (hb hby at_169) rfl  kz) ?_
          show own_Go p e below s _ _ (T5.setTop (mkF m 170 #[.val (.int p0), .val (.int p1), .val (.int p2), .val (.int p3), .val (.int p4), .val (.int p5), .val (.int (p2 &&& (2147483647 : Int32))), .val (.int (p3 &&& (2147483647 : Int32))), .val (.int b8), .val (.int b9), .val (.int b10), .val (.int b11), .val (.ref b1), .val (.ref b3), .val (.int (((p4.toUInt32 >>> ((4 : Int32) &&& 31).toUInt32).toInt32) &&& (3 : Int32))), .val (.ref b3), .unset] [(.int p1), (.int b9)]))
          by_cases hc170_29 : b9 = p1
          · refine own_by (fun tz kz => XS.icmpNo X5.here hx rfl (hb hby at_170) rfl (teq hc170_29).2 kz) ?_
            show own_Go p e below s _ _ (T5.setTop (mkF m 173 #[.val (.int p0), .val (.int p1), .val (.int p2), .val (.int p3), .val (.int p4), .val (.int p5), .val (.int (p2 &&& (2147483647 : Int32))), .val (.int (p3 &&& (2147483647 : Int32))), .val (.int b8), .val (.int b9), .val (.int b10), .val (.int b11), .val (.ref b1), .val (.ref b3), .val (.int (((p4.toUInt32 >>> ((4 : Int32) &&& 31).toUInt32).toInt32) &&& (3 : Int32))), .val (.ref b3), .unset] []))
            refine own_by (fun tz kz => XS.iload X5.here hx rfl (hb hby at_173) rfl  kz) ?_
            show own_Go p e below s _ _ (T5.setTop (mkF m 175 #[.val (.int p0), .val (.int p1), .val (.int p2), .val (.int p3), .val (.int p4), .val (.int p5), .val (.int (p2 &&& (2147483647 : Int32))), .val (.int (p3 &&& (2147483647 : Int32))), .val (.int b8), .val (.int b9), .val (.int b10), .val (.int b11), .val (.ref b1), .val (.ref b3), .val (.int (((p4.toUInt32 >>> ((4 : Int32) &&& 31).toUInt32).toInt32) &&& (3 : Int32))), .val (.ref b3), .unset] [(.int b10)]))
            refine own_by (fun tz kz => XS.iload X5.here hx rfl (hb hby at_175) rfl  kz) ?_
            show own_Go p e below s _ _ (T5.setTop (mkF m 177 #[.val (.int p0), .val (.int p1), .val (.int p2), .val (.int p3), .val (.int p4), .val (.int p5), .val (.int (p2 &&& (2147483647 : Int32))), .val (.int (p3 &&& (2147483647 : Int32))), .val (.int b8), .val (.int b9), .val (.int b10), .val (.int b11), .val (.ref b1), .val (.ref b3), .val (.int (((p4.toUInt32 >>> ((4 : Int32) &&& 31).toUInt32).toInt32) &&& (3 : Int32))), .val (.ref b3), .unset] [(.int (p2 &&& (2147483647 : Int32))), (.int b10)]))
            by_cases hc177_30 : b10 = (p2 &&& (2147483647 : Int32))
            · refine own_by (fun tz kz => XS.icmpNo X5.here hx rfl (hb hby at_177) rfl (teq hc177_30).2 kz) ?_
              show own_Go p e below s _ _ (T5.setTop (mkF m 180 #[.val (.int p0), .val (.int p1), .val (.int p2), .val (.int p3), .val (.int p4), .val (.int p5), .val (.int (p2 &&& (2147483647 : Int32))), .val (.int (p3 &&& (2147483647 : Int32))), .val (.int b8), .val (.int b9), .val (.int b10), .val (.int b11), .val (.ref b1), .val (.ref b3), .val (.int (((p4.toUInt32 >>> ((4 : Int32) &&& 31).toUInt32).toInt32) &&& (3 : Int32))), .val (.ref b3), .unset] []))
              refine own_by (fun tz kz => XS.iload X5.here hx rfl (hb hby at_180) rfl  kz) ?_
              show own_Go p e below s _ _ (T5.setTop (mkF m 182 #[.val (.int p0), .val (.int p1), .val (.int p2), .val (.int p3), .val (.int p4), .val (.int p5), .val (.int (p2 &&& (2147483647 : Int32))), .val (.int (p3 &&& (2147483647 : Int32))), .val (.int b8), .val (.int b9), .val (.int b10), .val (.int b11), .val (.ref b1), .val (.ref b3), .val (.int (((p4.toUInt32 >>> ((4 : Int32) &&& 31).toUInt32).toInt32) &&& (3 : Int32))), .val (.ref b3), .unset] [(.int b11)]))
              refine own_by (fun tz kz => XS.iload X5.here hx rfl (hb hby at_182) rfl  kz) ?_
              show own_Go p e below s _ _ (T5.setTop (mkF m 184 #[.val (.int p0), .val (.int p1), .val (.int p2), .val (.int p3), .val (.int p4), .val (.int p5), .val (.int (p2 &&& (2147483647 : Int32))), .val (.int (p3 &&& (2147483647 : Int32))), .val (.int b8), .val (.int b9), .val (.int b10), .val (.int b11), .val (.ref b1), .val (.ref b3), .val (.int (((p4.toUInt32 >>> ((4 : Int32) &&& 31).toUInt32).toInt32) &&& (3 : Int32))), .val (.ref b3), .unset] [(.int (p3 &&& (2147483647 : Int32))), (.int b11)]))
              by_cases hc184_31 : b11 = (p3 &&& (2147483647 : Int32))
              · refine own_by (fun tz kz => XS.icmpNo X5.here hx rfl (hb hby at_184) rfl (teq hc184_31).2 kz) ?_
                show own_Go p e below s _ _ (T5.setTop (mkF m 187 #[.val (.int p0), .val (.int p1), .val (.int p2), .val (.int p3), .val (.int p4), .val (.int p5), .val (.int (p2 &&& (2147483647 : Int32))), .val (.int (p3 &&& (2147483647 : Int32))), .val (.int b8), .val (.int b9), .val (.int b10), .val (.int b11), .val (.ref b1), .val (.ref b3), .val (.int (((p4.toUInt32 >>> ((4 : Int32) &&& 31).toUInt32).toInt32) &&& (3 : Int32))), .val (.ref b3), .unset] []))
                refine own_by (fun tz kz => XS.iconst X5.here hx rfl (hb hby at_187) kz) ?_
                show own_Go p e below s _ _ (T5.setTop (mkF m 188 #[.val (.int p0), .val (.int p1), .val (.int p2), .val (.int p3), .val (.int p4), .val (.int p5), .val (.int (p2 &&& (2147483647 : Int32))), .val (.int (p3 &&& (2147483647 : Int32))), .val (.int b8), .val (.int b9), .val (.int b10), .val (.int b11), .val (.ref b1), .val (.ref b3), .val (.int (((p4.toUInt32 >>> ((4 : Int32) &&& 31).toUInt32).toInt32) &&& (3 : Int32))), .val (.ref b3), .unset] [(.int (1 : Int32))]))
                refine own_by (fun tz kz => XS.goto X5.here hx rfl (pc0 := 188) (pc' := 192) rfl (hb hby at_188) (by decide) (by decide) kz) ?_
                show own_Go p e below s _ _ (T5.setTop (mkF m 192 #[.val (.int p0), .val (.int p1), .val (.int p2), .val (.int p3), .val (.int p4), .val (.int p5), .val (.int (p2 &&& (2147483647 : Int32))), .val (.int (p3 &&& (2147483647 : Int32))), .val (.int b8), .val (.int b9), .val (.int b10), .val (.int b11), .val (.ref b1), .val (.ref b3), .val (.int (((p4.toUInt32 >>> ((4 : Int32) &&& 31).toUInt32).toInt32) &&& (3 : Int32))), .val (.ref b3), .unset] [(.int (1 : Int32))]))
                refine own_by (fun tz kz => XS.istore X5.here hx rfl (hb hby at_192) rfl (l' := #[.val (.int p0), .val (.int p1), .val (.int p2), .val (.int p3), .val (.int p4), .val (.int p5), .val (.int (p2 &&& (2147483647 : Int32))), .val (.int (p3 &&& (2147483647 : Int32))), .val (.int b8), .val (.int b9), .val (.int b10), .val (.int b11), .val (.ref b1), .val (.ref b3), .val (.int (((p4.toUInt32 >>> ((4 : Int32) &&& 31).toUInt32).toInt32) &&& (3 : Int32))), .val (.ref b3), .val (.int (1 : Int32))]) rfl kz) ?_
                exact J194 _ (by simp [hc164_28, hc170_29, hc177_30, hc184_31])
              · refine own_by (fun tz kz => XS.icmpYes X5.here hx rfl (pc0 := 184) (pc' := 191) rfl (hb hby at_184) rfl (feq hc184_31).2 (by decide) (by decide) kz) ?_
                show own_Go p e below s _ _ (T5.setTop (mkF m 191 #[.val (.int p0), .val (.int p1), .val (.int p2), .val (.int p3), .val (.int p4), .val (.int p5), .val (.int (p2 &&& (2147483647 : Int32))), .val (.int (p3 &&& (2147483647 : Int32))), .val (.int b8), .val (.int b9), .val (.int b10), .val (.int b11), .val (.ref b1), .val (.ref b3), .val (.int (((p4.toUInt32 >>> ((4 : Int32) &&& 31).toUInt32).toInt32) &&& (3 : Int32))), .val (.ref b3), .unset] []))
                refine own_by (fun tz kz => XS.iconst X5.here hx rfl (hb hby at_191) kz) ?_
                show own_Go p e below s _ _ (T5.setTop (mkF m 192 #[.val (.int p0), .val (.int p1), .val (.int p2), .val (.int p3), .val (.int p4), .val (.int p5), .val (.int (p2 &&& (2147483647 : Int32))), .val (.int (p3 &&& (2147483647 : Int32))), .val (.int b8), .val (.int b9), .val (.int b10), .val (.int b11), .val (.ref b1), .val (.ref b3), .val (.int (((p4.toUInt32 >>> ((4 : Int32) &&& 31).toUInt32).toInt32) &&& (3 : Int32))), .val (.ref b3), .unset] [(.int (0 : Int32))]))
                refine own_by (fun tz kz => XS.istore X5.here hx rfl (hb hby at_192) rfl (l' := #[.val (.int p0), .val (.int p1), .val (.int p2), .val (.int p3), .val (.int p4), .val (.int p5), .val (.int (p2 &&& (2147483647 : Int32))), .val (.int (p3 &&& (2147483647 : Int32))), .val (.int b8), .val (.int b9), .val (.int b10), .val (.int b11), .val (.ref b1), .val (.ref b3), .val (.int (((p4.toUInt32 >>> ((4 : Int32) &&& 31).toUInt32).toInt32) &&& (3 : Int32))), .val (.ref b3), .val (.int (0 : Int32))]) rfl kz) ?_
                exact J194 _ (by simp [hc164_28, hc170_29, hc177_30, hc184_31])
            · refine own_by (fun tz kz => XS.icmpYes X5.here hx rfl (pc0 := 177) (pc' := 191) rfl (hb hby at_177) rfl (feq hc177_30).2 (by decide) (by decide) kz) ?_
              show own_Go p e below s _ _ (T5.setTop (mkF m 191 #[.val (.int p0), .val (.int p1), .val (.int p2), .val (.int p3), .val (.int p4), .val (.int p5), .val (.int (p2 &&& (2147483647 : Int32))), .val (.int (p3 &&& (2147483647 : Int32))), .val (.int b8), .val (.int b9), .val (.int b10), .val (.int b11), .val (.ref b1), .val (.ref b3), .val (.int (((p4.toUInt32 >>> ((4 : Int32) &&& 31).toUInt32).toInt32) &&& (3 : Int32))), .val (.ref b3), .unset] []))
              refine own_by (fun tz kz => XS.iconst X5.here hx rfl (hb hby at_191) kz) ?_
              show own_Go p e below s _ _ (T5.setTop (mkF m 192 #[.val (.int p0), .val (.int p1), .val (.int p2), .val (.int p3), .val (.int p4), .val (.int p5), .val (.int (p2 &&& (2147483647 : Int32))), .val (.int (p3 &&& (2147483647 : Int32))), .val (.int b8), .val (.int b9), .val (.int b10), .val (.int b11), .val (.ref b1), .val (.ref b3), .val (.int (((p4.toUInt32 >>> ((4 : Int32) &&& 31).toUInt32).toInt32) &&& (3 : Int32))), .val (.ref b3), .unset] [(.int (0 : Int32))]))
              refine own_by (fun tz kz => XS.istore X5.here hx rfl (hb hby at_192) rfl (l' := #[.val (.int p0), .val (.int p1), .val (.int p2), .val (.int p3), .val (.int p4), .val (.int p5), .val (.int (p2 &&& (2147483647 : Int32))), .val (.int (p3 &&& (2147483647 : Int32))), .val (.int b8), .val (.int b9), .val (.int b10), .val (.int b11), .val (.ref b1), .val (.ref b3), .val (.int (((p4.toUInt32 >>> ((4 : Int32) &&& 31).toUInt32).toInt32) &&& (3 : Int32))), .val (.ref b3), .val (.int (0 : Int32))]) rfl kz) ?_
              exact J194 _ (by simp [hc164_28, hc170_29, hc177_30])
          · refine own_by (fun tz kz => XS.icmpYes X5.here hx rfl (pc0 := 170) (pc' := 191) rfl (hb hby at_170) rfl (feq hc170_29).2 (by decide) (by decide) kz) ?_
            show own_Go p e below s _ _ (T5.setTop (mkF m 191 #[.val (.int p0), .val (.int p1), .val (.int p2), .val (.int p3), .val (.int p4), .val (.int p5), .val (.int (p2 &&& (2147483647 : Int32))), .val (.int (p3 &&& (2147483647 : Int32))), .val (.int b8), .val (.int b9), .val (.int b10), .val (.int b11), .val (.ref b1), .val (.ref b3), .val (.int (((p4.toUInt32 >>> ((4 : Int32) &&& 31).toUInt32).toInt32) &&& (3 : Int32))), .val (.ref b3), .unset] []))
            refine own_by (fun tz kz => XS.iconst X5.here hx rfl (hb hby at_191) kz) ?_
            show own_Go p e below s _ _ (T5.setTop (mkF m 192 #[.val (.int p0), .val (.int p1), .val (.int p2), .val (.int p3), .val (.int p4), .val (.int p5), .val (.int (p2 &&& (2147483647 : Int32))), .val (.int (p3 &&& (2147483647 : Int32))), .val (.int b8), .val (.int b9), .val (.int b10), .val (.int b11), .val (.ref b1), .val (.ref b3), .val (.int (((p4.toUInt32 >>> ((4 : Int32) &&& 31).toUInt32).toInt32) &&& (3 : Int32))), .val (.ref b3), .unset] [(.int (0 : Int32))]))
            refine own_by (fun tz kz => XS.istore X5.here hx rfl (hb hby at_192) rfl (l' := #[.val (.int p0), .val (.int p1), .val (.int p2), .val (.int p3), .val (.int p4), .val (.int p5), .val (.int (p2 &&& (2147483647 : Int32))), .val (.int (p3 &&& (2147483647 : Int32))), .val (.int b8), .val (.int b9), .val (.int b10), .val (.int b11), .val (.ref b1), .val (.ref b3), .val (.int (((p4.toUInt32 >>> ((4 : Int32) &&& 31).toUInt32).toInt32) &&& (3 : Int32))), .val (.ref b3), .val (.int (0 : Int32))]) rfl kz) ?_
            exact J194 _ (by simp [hc164_28, hc170_29])
        · refine own_by (fun tz kz => XS.icmpYes X5.here hx rfl (pc0 := 164) (pc' := 191) rfl (hb hby at_164) rfl (feq hc164_28).2 (by decide) (by decide) kz) ?_
          show own_Go p e below s _ _ (T5.setTop (mkF m 191 #[.val (.int p0), .val (.int p1), .val (.int p2), .val (.int p3), .val (.int p4), .val (.int p5), .val (.int (p2 &&& (2147483647 : Int32))), .val (.int (p3 &&& (2147483647 : Int32))), .val (.int b8), .val (.int b9), .val (.int b10), .val (.int b11), .val (.ref b1), .val (.ref b3), .val (.int (((p4.toUInt32 >>> ((4 : Int32) &&& 31).toUInt32).toInt32) &&& (3 : Int32))), .val (.ref b3), .unset] []))
          refine own_by (fun tz kz => XS.iconst X5.here hx rfl (hb hby at_191) kz) ?_
          show own_Go p e below s _ _ (T5.setTop (mkF m 192 #[.val (.int p0), .val (.int p1), .val (.int p2), .val (.int p3), .val (.int p4), .val (.int p5), .val (.int (p2 &&& (2147483647 : Int32))), .val (.int (p3 &&& (2147483647 : Int32))), .val (.int b8), .val (.int b9), .val (.int b10), .val (.int b11), .val (.ref b1), .val (.ref b3), .val (.int (((p4.toUInt32 >>> ((4 : Int32) &&& 31).toUInt32).toInt32) &&& (3 : Int32))), .val (.ref b3), .unset] [(.int (0 : Int32))]))
          refine own_by (fun tz kz => XS.istore X5.here hx rfl (hb hby at_192) rfl (l' := #[.val (.int p0), .val (.int p1), .val (.int p2), .val (.int p3), .val (.int p4), .val (.int p5), .val (.int (p2 &&& (2147483647 : Int32))), .val (.int (p3 &&& (2147483647 : Int32))), .val (.int b8), .val (.int b9), .val (.int b10), .val (.int b11), .val (.ref b1), .val (.ref b3), .val (.int (((p4.toUInt32 >>> ((4 : Int32) &&& 31).toUInt32).toInt32) &&& (3 : Int32))), .val (.ref b3), .val (.int (0 : Int32))]) rfl kz) ?_
          exact J194 _ (by simp [hc164_28])
  have J65 : ∀ b8 b9 b10 : Int32, ¬ b10 < (0 : Int32) → own_Go p e below s (Q_rm0 Z p0 p1 p2 p3 p4 p5 ca ccl val h0 n0) room_1 (s₁.setTop (mkF m 65 #[.val (.int p0), .val (.int p1), .val (.int p2), .val (.int p3), .val (.int p4), .val (.int p5), .val (.int (p2 &&& (2147483647 : Int32))), .val (.int (p3 &&& (2147483647 : Int32))), .val (.int b8), .val (.int b9), .val (.int b10), .unset, .unset, .unset, .unset, .unset, .unset] [])) := by
    intro b8 b9 b10 hb10
    show own_Go p e below s _ _ (s₁.setTop (mkF m 65 #[.val (.int p0), .val (.int p1), .val (.int p2), .val (.int p3), .val (.int p4), .val (.int p5), .val (.int (p2 &&& (2147483647 : Int32))), .val (.int (p3 &&& (2147483647 : Int32))), .val (.int b8), .val (.int b9), .val (.int b10), .unset, .unset, .unset, .unset, .unset, .unset] []))
    refine own_by (fun tz kz => XS.iload X0.here hx rfl (hb hby at_65) rfl  kz) ?_
    show own_Go p e below s _ _ (s₁.setTop (mkF m 67 #[.val (.int p0), .val (.int p1), .val (.int p2), .val (.int p3), .val (.int p4), .val (.int p5), .val (.int (p2 &&& (2147483647 : Int32))), .val (.int (p3 &&& (2147483647 : Int32))), .val (.int b8), .val (.int b9), .val (.int b10), .unset, .unset, .unset, .unset, .unset, .unset] [(.int p4)]))
    refine own_by (fun tz kz => XS.bipush X0.here hx rfl (hb hby at_67) kz) ?_
    show own_Go p e below s _ _ (s₁.setTop (mkF m 69 #[.val (.int p0), .val (.int p1), .val (.int p2), .val (.int p3), .val (.int p4), .val (.int p5), .val (.int (p2 &&& (2147483647 : Int32))), .val (.int (p3 &&& (2147483647 : Int32))), .val (.int b8), .val (.int b9), .val (.int b10), .unset, .unset, .unset, .unset, .unset, .unset] [(.int (8 : Int32)), (.int p4)]))
    refine own_by (fun tz kz => XS.iand X0.here hx rfl (hb hby at_69) rfl kz) ?_
    show own_Go p e below s _ _ (s₁.setTop (mkF m 70 #[.val (.int p0), .val (.int p1), .val (.int p2), .val (.int p3), .val (.int p4), .val (.int p5), .val (.int (p2 &&& (2147483647 : Int32))), .val (.int (p3 &&& (2147483647 : Int32))), .val (.int b8), .val (.int b9), .val (.int b10), .unset, .unset, .unset, .unset, .unset, .unset] [(.int (p4 &&& (8 : Int32)))]))
    by_cases hc70_32 : (p4 &&& (8 : Int32)) = (0 : Int32)
    · refine own_by (fun tz kz => XS.ifYes X0.here hx rfl (pc0 := 70) (pc' := 78) rfl (hb hby at_70) rfl ((if0 _ _).trans (teq hc70_32).1) (by decide) (by decide) kz) ?_
      show own_Go p e below s _ _ (s₁.setTop (mkF m 78 #[.val (.int p0), .val (.int p1), .val (.int p2), .val (.int p3), .val (.int p4), .val (.int p5), .val (.int (p2 &&& (2147483647 : Int32))), .val (.int (p3 &&& (2147483647 : Int32))), .val (.int b8), .val (.int b9), .val (.int b10), .unset, .unset, .unset, .unset, .unset, .unset] []))
      refine own_by (fun tz kz => XS.iload X0.here hx rfl (hb hby at_78) rfl  kz) ?_
      show own_Go p e below s _ _ (s₁.setTop (mkF m 80 #[.val (.int p0), .val (.int p1), .val (.int p2), .val (.int p3), .val (.int p4), .val (.int p5), .val (.int (p2 &&& (2147483647 : Int32))), .val (.int (p3 &&& (2147483647 : Int32))), .val (.int b8), .val (.int b9), .val (.int b10), .unset, .unset, .unset, .unset, .unset, .unset] [(.int p5)]))
      refine own_by (fun tz kz => XS.iconst X0.here hx rfl (hb hby at_80) kz) ?_
      show own_Go p e below s _ _ (s₁.setTop (mkF m 81 #[.val (.int p0), .val (.int p1), .val (.int p2), .val (.int p3), .val (.int p4), .val (.int p5), .val (.int (p2 &&& (2147483647 : Int32))), .val (.int (p3 &&& (2147483647 : Int32))), .val (.int b8), .val (.int b9), .val (.int b10), .unset, .unset, .unset, .unset, .unset, .unset] [(.int (1 : Int32)), (.int p5)]))
      refine own_by (fun tz kz => XS.iushr X0.here hx rfl (hb hby at_81) rfl kz) ?_
      show own_Go p e below s _ _ (s₁.setTop (mkF m 82 #[.val (.int p0), .val (.int p1), .val (.int p2), .val (.int p3), .val (.int p4), .val (.int p5), .val (.int (p2 &&& (2147483647 : Int32))), .val (.int (p3 &&& (2147483647 : Int32))), .val (.int b8), .val (.int b9), .val (.int b10), .unset, .unset, .unset, .unset, .unset, .unset] [(.int ((p5.toUInt32 >>> ((1 : Int32) &&& 31).toUInt32).toInt32))]))
      refine own_by (fun tz kz => XS.istore X0.here hx rfl (hb hby at_82) rfl (l' := #[.val (.int p0), .val (.int p1), .val (.int p2), .val (.int p3), .val (.int p4), .val (.int p5), .val (.int (p2 &&& (2147483647 : Int32))), .val (.int (p3 &&& (2147483647 : Int32))), .val (.int b8), .val (.int b9), .val (.int b10), .val (.int ((p5.toUInt32 >>> ((1 : Int32) &&& 31).toUInt32).toInt32)), .unset, .unset, .unset, .unset, .unset]) rfl kz) ?_
      exact J84 _ _ _ _ hb10 (own_ushr1 p5)
    · refine own_by (fun tz kz => XS.ifNo X0.here hx rfl (hb hby at_70) rfl ((if0 _ _).trans (feq hc70_32).1) kz) ?_
      show own_Go p e below s _ _ (s₁.setTop (mkF m 73 #[.val (.int p0), .val (.int p1), .val (.int p2), .val (.int p3), .val (.int p4), .val (.int p5), .val (.int (p2 &&& (2147483647 : Int32))), .val (.int (p3 &&& (2147483647 : Int32))), .val (.int b8), .val (.int b9), .val (.int b10), .unset, .unset, .unset, .unset, .unset, .unset] []))
      refine own_by (fun tz kz => XS.iload X0.here hx rfl (hb hby at_73) rfl  kz) ?_
      show own_Go p e below s _ _ (s₁.setTop (mkF m 75 #[.val (.int p0), .val (.int p1), .val (.int p2), .val (.int p3), .val (.int p4), .val (.int p5), .val (.int (p2 &&& (2147483647 : Int32))), .val (.int (p3 &&& (2147483647 : Int32))), .val (.int b8), .val (.int b9), .val (.int b10), .unset, .unset, .unset, .unset, .unset, .unset] [(.int (p3 &&& (2147483647 : Int32)))]))
      refine own_by (fun tz kz => XS.goto X0.here hx rfl (pc0 := 75) (pc' := 82) rfl (hb hby at_75) (by decide) (by decide) kz) ?_
      show own_Go p e below s _ _ (s₁.setTop (mkF m 82 #[.val (.int p0), .val (.int p1), .val (.int p2), .val (.int p3), .val (.int p4), .val (.int p5), .val (.int (p2 &&& (2147483647 : Int32))), .val (.int (p3 &&& (2147483647 : Int32))), .val (.int b8), .val (.int b9), .val (.int b10), .unset, .unset, .unset, .unset, .unset, .unset] [(.int (p3 &&& (2147483647 : Int32)))]))
      refine own_by (fun tz kz => XS.istore X0.here hx rfl (hb hby at_82) rfl (l' := #[.val (.int p0), .val (.int p1), .val (.int p2), .val (.int p3), .val (.int p4), .val (.int p5), .val (.int (p2 &&& (2147483647 : Int32))), .val (.int (p3 &&& (2147483647 : Int32))), .val (.int b8), .val (.int b9), .val (.int b10), .val (.int (p3 &&& (2147483647 : Int32))), .unset, .unset, .unset, .unset, .unset]) rfl kz) ?_
      exact J84 _ _ _ _ hb10 (own_and31 p3)
  have J46 : ∀ b8 b9 : Int32, own_Go p e below s (Q_rm0 Z p0 p1 p2 p3 p4 p5 ca ccl val h0 n0) room_1 (s₁.setTop (mkF m 46 #[.val (.int p0), .val (.int p1), .val (.int p2), .val (.int p3), .val (.int p4), .val (.int p5), .val (.int (p2 &&& (2147483647 : Int32))), .val (.int (p3 &&& (2147483647 : Int32))), .val (.int b8), .val (.int b9), .unset, .unset, .unset, .unset, .unset, .unset, .unset] [])) := by
    intro b8 b9
    show own_Go p e below s _ _ (s₁.setTop (mkF m 46 #[.val (.int p0), .val (.int p1), .val (.int p2), .val (.int p3), .val (.int p4), .val (.int p5), .val (.int (p2 &&& (2147483647 : Int32))), .val (.int (p3 &&& (2147483647 : Int32))), .val (.int b8), .val (.int b9), .unset, .unset, .unset, .unset, .unset, .unset, .unset] []))
    refine own_by (fun tz kz => XS.iload X0.here hx rfl (hb hby at_46) rfl  kz) ?_
    show own_Go p e below s _ _ (s₁.setTop (mkF m 48 #[.val (.int p0), .val (.int p1), .val (.int p2), .val (.int p3), .val (.int p4), .val (.int p5), .val (.int (p2 &&& (2147483647 : Int32))), .val (.int (p3 &&& (2147483647 : Int32))), .val (.int b8), .val (.int b9), .unset, .unset, .unset, .unset, .unset, .unset, .unset] [(.int p4)]))
    refine own_by (fun tz kz => XS.iconst X0.here hx rfl (hb hby at_48) kz) ?_
    show own_Go p e below s _ _ (s₁.setTop (mkF m 49 #[.val (.int p0), .val (.int p1), .val (.int p2), .val (.int p3), .val (.int p4), .val (.int p5), .val (.int (p2 &&& (2147483647 : Int32))), .val (.int (p3 &&& (2147483647 : Int32))), .val (.int b8), .val (.int b9), .unset, .unset, .unset, .unset, .unset, .unset, .unset] [(.int (4 : Int32)), (.int p4)]))
    refine own_by (fun tz kz => XS.iand X0.here hx rfl (hb hby at_49) rfl kz) ?_
    show own_Go p e below s _ _ (s₁.setTop (mkF m 50 #[.val (.int p0), .val (.int p1), .val (.int p2), .val (.int p3), .val (.int p4), .val (.int p5), .val (.int (p2 &&& (2147483647 : Int32))), .val (.int (p3 &&& (2147483647 : Int32))), .val (.int b8), .val (.int b9), .unset, .unset, .unset, .unset, .unset, .unset, .unset] [(.int (p4 &&& (4 : Int32)))]))
    by_cases hc50_33 : (p4 &&& (4 : Int32)) = (0 : Int32)
    · refine own_by (fun tz kz => XS.ifYes X0.here hx rfl (pc0 := 50) (pc' := 58) rfl (hb hby at_50) rfl ((if0 _ _).trans (teq hc50_33).1) (by decide) (by decide) kz) ?_
      show own_Go p e below s _ _ (s₁.setTop (mkF m 58 #[.val (.int p0), .val (.int p1), .val (.int p2), .val (.int p3), .val (.int p4), .val (.int p5), .val (.int (p2 &&& (2147483647 : Int32))), .val (.int (p3 &&& (2147483647 : Int32))), .val (.int b8), .val (.int b9), .unset, .unset, .unset, .unset, .unset, .unset, .unset] []))
      refine own_by (fun tz kz => XS.iload X0.here hx rfl (hb hby at_58) rfl  kz) ?_
      show own_Go p e below s _ _ (s₁.setTop (mkF m 60 #[.val (.int p0), .val (.int p1), .val (.int p2), .val (.int p3), .val (.int p4), .val (.int p5), .val (.int (p2 &&& (2147483647 : Int32))), .val (.int (p3 &&& (2147483647 : Int32))), .val (.int b8), .val (.int b9), .unset, .unset, .unset, .unset, .unset, .unset, .unset] [(.int p5)]))
      refine own_by (fun tz kz => X0.ldcInt hx hown (mvT hZ (hw _ (List.mem_of_getElem? (i := 0) rfl))) (g := (mkF m 60 #[.val (.int p0), .val (.int p1), .val (.int p2), .val (.int p3), .val (.int p4), .val (.int p5), .val (.int (p2 &&& (2147483647 : Int32))), .val (.int (p3 &&& (2147483647 : Int32))), .val (.int b8), .val (.int b9), .unset, .unset, .unset, .unset, .unset, .unset, .unset] [(.int p5)])) rfl (hb hby at_60) _ kz) ?_
      show own_Go p e below s _ _ (s₁.setTop (mkF m 62 #[.val (.int p0), .val (.int p1), .val (.int p2), .val (.int p3), .val (.int p4), .val (.int p5), .val (.int (p2 &&& (2147483647 : Int32))), .val (.int (p3 &&& (2147483647 : Int32))), .val (.int b8), .val (.int b9), .unset, .unset, .unset, .unset, .unset, .unset, .unset] [(.int (2147483647 : Int32)), (.int p5)]))
      refine own_by (fun tz kz => XS.iand X0.here hx rfl (hb hby at_62) rfl kz) ?_
      show own_Go p e below s _ _ (s₁.setTop (mkF m 63 #[.val (.int p0), .val (.int p1), .val (.int p2), .val (.int p3), .val (.int p4), .val (.int p5), .val (.int (p2 &&& (2147483647 : Int32))), .val (.int (p3 &&& (2147483647 : Int32))), .val (.int b8), .val (.int b9), .unset, .unset, .unset, .unset, .unset, .unset, .unset] [(.int (p5 &&& (2147483647 : Int32)))]))
      refine own_by (fun tz kz => XS.istore X0.here hx rfl (hb hby at_63) rfl (l' := #[.val (.int p0), .val (.int p1), .val (.int p2), .val (.int p3), .val (.int p4), .val (.int p5), .val (.int (p2 &&& (2147483647 : Int32))), .val (.int (p3 &&& (2147483647 : Int32))), .val (.int b8), .val (.int b9), .val (.int (p5 &&& (2147483647 : Int32))), .unset, .unset, .unset, .unset, .unset, .unset]) rfl kz) ?_
      exact J65 _ _ _ (own_and31 p5)
    · refine own_by (fun tz kz => XS.ifNo X0.here hx rfl (hb hby at_50) rfl ((if0 _ _).trans (feq hc50_33).1) kz) ?_
      show own_Go p e below s _ _ (s₁.setTop (mkF m 53 #[.val (.int p0), .val (.int p1), .val (.int p2), .val (.int p3), .val (.int p4), .val (.int p5), .val (.int (p2 &&& (2147483647 : Int32))), .val (.int (p3 &&& (2147483647 : Int32))), .val (.int b8), .val (.int b9), .unset, .unset, .unset, .unset, .unset, .unset, .unset] []))
      refine own_by (fun tz kz => XS.iload X0.here hx rfl (hb hby at_53) rfl  kz) ?_
      show own_Go p e below s _ _ (s₁.setTop (mkF m 55 #[.val (.int p0), .val (.int p1), .val (.int p2), .val (.int p3), .val (.int p4), .val (.int p5), .val (.int (p2 &&& (2147483647 : Int32))), .val (.int (p3 &&& (2147483647 : Int32))), .val (.int b8), .val (.int b9), .unset, .unset, .unset, .unset, .unset, .unset, .unset] [(.int (p2 &&& (2147483647 : Int32)))]))
      refine own_by (fun tz kz => XS.goto X0.here hx rfl (pc0 := 55) (pc' := 63) rfl (hb hby at_55) (by decide) (by decide) kz) ?_
      show own_Go p e below s _ _ (s₁.setTop (mkF m 63 #[.val (.int p0), .val (.int p1), .val (.int p2), .val (.int p3), .val (.int p4), .val (.int p5), .val (.int (p2 &&& (2147483647 : Int32))), .val (.int (p3 &&& (2147483647 : Int32))), .val (.int b8), .val (.int b9), .unset, .unset, .unset, .unset, .unset, .unset, .unset] [(.int (p2 &&& (2147483647 : Int32)))]))
      refine own_by (fun tz kz => XS.istore X0.here hx rfl (hb hby at_63) rfl (l' := #[.val (.int p0), .val (.int p1), .val (.int p2), .val (.int p3), .val (.int p4), .val (.int p5), .val (.int (p2 &&& (2147483647 : Int32))), .val (.int (p3 &&& (2147483647 : Int32))), .val (.int b8), .val (.int b9), .val (.int (p2 &&& (2147483647 : Int32))), .unset, .unset, .unset, .unset, .unset, .unset]) rfl kz) ?_
      exact J65 _ _ _ (own_and31 p2)
  have J29 : ∀ b8 : Int32, own_Go p e below s (Q_rm0 Z p0 p1 p2 p3 p4 p5 ca ccl val h0 n0) room_1 (s₁.setTop (mkF m 29 #[.val (.int p0), .val (.int p1), .val (.int p2), .val (.int p3), .val (.int p4), .val (.int p5), .val (.int (p2 &&& (2147483647 : Int32))), .val (.int (p3 &&& (2147483647 : Int32))), .val (.int b8), .unset, .unset, .unset, .unset, .unset, .unset, .unset, .unset] [])) := by
    intro b8
    show own_Go p e below s _ _ (s₁.setTop (mkF m 29 #[.val (.int p0), .val (.int p1), .val (.int p2), .val (.int p3), .val (.int p4), .val (.int p5), .val (.int (p2 &&& (2147483647 : Int32))), .val (.int (p3 &&& (2147483647 : Int32))), .val (.int b8), .unset, .unset, .unset, .unset, .unset, .unset, .unset, .unset] []))
    refine own_by (fun tz kz => XS.iload X0.here hx rfl (hb hby at_29) rfl  kz) ?_
    show own_Go p e below s _ _ (s₁.setTop (mkF m 31 #[.val (.int p0), .val (.int p1), .val (.int p2), .val (.int p3), .val (.int p4), .val (.int p5), .val (.int (p2 &&& (2147483647 : Int32))), .val (.int (p3 &&& (2147483647 : Int32))), .val (.int b8), .unset, .unset, .unset, .unset, .unset, .unset, .unset, .unset] [(.int p4)]))
    refine own_by (fun tz kz => XS.iconst X0.here hx rfl (hb hby at_31) kz) ?_
    show own_Go p e below s _ _ (s₁.setTop (mkF m 32 #[.val (.int p0), .val (.int p1), .val (.int p2), .val (.int p3), .val (.int p4), .val (.int p5), .val (.int (p2 &&& (2147483647 : Int32))), .val (.int (p3 &&& (2147483647 : Int32))), .val (.int b8), .unset, .unset, .unset, .unset, .unset, .unset, .unset, .unset] [(.int (2 : Int32)), (.int p4)]))
    refine own_by (fun tz kz => XS.iand X0.here hx rfl (hb hby at_32) rfl kz) ?_
    show own_Go p e below s _ _ (s₁.setTop (mkF m 33 #[.val (.int p0), .val (.int p1), .val (.int p2), .val (.int p3), .val (.int p4), .val (.int p5), .val (.int (p2 &&& (2147483647 : Int32))), .val (.int (p3 &&& (2147483647 : Int32))), .val (.int b8), .unset, .unset, .unset, .unset, .unset, .unset, .unset, .unset] [(.int (p4 &&& (2 : Int32)))]))
    by_cases hc33_34 : (p4 &&& (2 : Int32)) = (0 : Int32)
    · refine own_by (fun tz kz => XS.ifYes X0.here hx rfl (pc0 := 33) (pc' := 40) rfl (hb hby at_33) rfl ((if0 _ _).trans (teq hc33_34).1) (by decide) (by decide) kz) ?_
      show own_Go p e below s _ _ (s₁.setTop (mkF m 40 #[.val (.int p0), .val (.int p1), .val (.int p2), .val (.int p3), .val (.int p4), .val (.int p5), .val (.int (p2 &&& (2147483647 : Int32))), .val (.int (p3 &&& (2147483647 : Int32))), .val (.int b8), .unset, .unset, .unset, .unset, .unset, .unset, .unset, .unset] []))
      refine own_by (fun tz kz => XS.iloadN X0.here hx rfl (hb hby at_40) rfl  kz) ?_
      show own_Go p e below s _ _ (s₁.setTop (mkF m 41 #[.val (.int p0), .val (.int p1), .val (.int p2), .val (.int p3), .val (.int p4), .val (.int p5), .val (.int (p2 &&& (2147483647 : Int32))), .val (.int (p3 &&& (2147483647 : Int32))), .val (.int b8), .unset, .unset, .unset, .unset, .unset, .unset, .unset, .unset] [(.int p1)]))
      refine own_by (fun tz kz => XS.iload X0.here hx rfl (hb hby at_41) rfl  kz) ?_
      show own_Go p e below s _ _ (s₁.setTop (mkF m 43 #[.val (.int p0), .val (.int p1), .val (.int p2), .val (.int p3), .val (.int p4), .val (.int p5), .val (.int (p2 &&& (2147483647 : Int32))), .val (.int (p3 &&& (2147483647 : Int32))), .val (.int b8), .unset, .unset, .unset, .unset, .unset, .unset, .unset, .unset] [(.int p5), (.int p1)]))
      refine own_by (fun tz kz => XS.isub X0.here hx rfl (hb hby at_43) rfl kz) ?_
      show own_Go p e below s _ _ (s₁.setTop (mkF m 44 #[.val (.int p0), .val (.int p1), .val (.int p2), .val (.int p3), .val (.int p4), .val (.int p5), .val (.int (p2 &&& (2147483647 : Int32))), .val (.int (p3 &&& (2147483647 : Int32))), .val (.int b8), .unset, .unset, .unset, .unset, .unset, .unset, .unset, .unset] [(.int (p1 - p5))]))
      refine own_by (fun tz kz => XS.istore X0.here hx rfl (hb hby at_44) rfl (l' := #[.val (.int p0), .val (.int p1), .val (.int p2), .val (.int p3), .val (.int p4), .val (.int p5), .val (.int (p2 &&& (2147483647 : Int32))), .val (.int (p3 &&& (2147483647 : Int32))), .val (.int b8), .val (.int (p1 - p5)), .unset, .unset, .unset, .unset, .unset, .unset, .unset]) rfl kz) ?_
      exact J46 _ _
    · refine own_by (fun tz kz => XS.ifNo X0.here hx rfl (hb hby at_33) rfl ((if0 _ _).trans (feq hc33_34).1) kz) ?_
      show own_Go p e below s _ _ (s₁.setTop (mkF m 36 #[.val (.int p0), .val (.int p1), .val (.int p2), .val (.int p3), .val (.int p4), .val (.int p5), .val (.int (p2 &&& (2147483647 : Int32))), .val (.int (p3 &&& (2147483647 : Int32))), .val (.int b8), .unset, .unset, .unset, .unset, .unset, .unset, .unset, .unset] []))
      refine own_by (fun tz kz => XS.iloadN X0.here hx rfl (hb hby at_36) rfl  kz) ?_
      show own_Go p e below s _ _ (s₁.setTop (mkF m 37 #[.val (.int p0), .val (.int p1), .val (.int p2), .val (.int p3), .val (.int p4), .val (.int p5), .val (.int (p2 &&& (2147483647 : Int32))), .val (.int (p3 &&& (2147483647 : Int32))), .val (.int b8), .unset, .unset, .unset, .unset, .unset, .unset, .unset, .unset] [(.int p1)]))
      refine own_by (fun tz kz => XS.goto X0.here hx rfl (pc0 := 37) (pc' := 44) rfl (hb hby at_37) (by decide) (by decide) kz) ?_
      show own_Go p e below s _ _ (s₁.setTop (mkF m 44 #[.val (.int p0), .val (.int p1), .val (.int p2), .val (.int p3), .val (.int p4), .val (.int p5), .val (.int (p2 &&& (2147483647 : Int32))), .val (.int (p3 &&& (2147483647 : Int32))), .val (.int b8), .unset, .unset, .unset, .unset, .unset, .unset, .unset, .unset] [(.int p1)]))
      refine own_by (fun tz kz => XS.istore X0.here hx rfl (hb hby at_44) rfl (l' := #[.val (.int p0), .val (.int p1), .val (.int p2), .val (.int p3), .val (.int p4), .val (.int p5), .val (.int (p2 &&& (2147483647 : Int32))), .val (.int (p3 &&& (2147483647 : Int32))), .val (.int b8), .val (.int p1), .unset, .unset, .unset, .unset, .unset, .unset, .unset]) rfl kz) ?_
      exact J46 _ _
  show own_Go p e below s _ _ (s₁.setTop (mkF m 0 #[.val (.int p0), .val (.int p1), .val (.int p2), .val (.int p3), .val (.int p4), .val (.int p5), .unset, .unset, .unset, .unset, .unset, .unset, .unset, .unset, .unset, .unset, .unset] []))
  refine own_by (fun tz kz => XS.iloadN X0.here hx rfl (hb hby at_0) rfl  kz) ?_
  show own_Go p e below s _ _ (s₁.setTop (mkF m 1 #[.val (.int p0), .val (.int p1), .val (.int p2), .val (.int p3), .val (.int p4), .val (.int p5), .unset, .unset, .unset, .unset, .unset, .unset, .unset, .unset, .unset, .unset, .unset] [(.int p2)]))
  refine own_by (fun tz kz => X0.ldcInt hx hown (mvT hZ (hw _ (List.mem_of_getElem? (i := 0) rfl))) (g := (mkF m 1 #[.val (.int p0), .val (.int p1), .val (.int p2), .val (.int p3), .val (.int p4), .val (.int p5), .unset, .unset, .unset, .unset, .unset, .unset, .unset, .unset, .unset, .unset, .unset] [(.int p2)])) rfl (hb hby at_1) _ kz) ?_
  show own_Go p e below s _ _ (s₁.setTop (mkF m 3 #[.val (.int p0), .val (.int p1), .val (.int p2), .val (.int p3), .val (.int p4), .val (.int p5), .unset, .unset, .unset, .unset, .unset, .unset, .unset, .unset, .unset, .unset, .unset] [(.int (2147483647 : Int32)), (.int p2)]))
  refine own_by (fun tz kz => XS.iand X0.here hx rfl (hb hby at_3) rfl kz) ?_
  show own_Go p e below s _ _ (s₁.setTop (mkF m 4 #[.val (.int p0), .val (.int p1), .val (.int p2), .val (.int p3), .val (.int p4), .val (.int p5), .unset, .unset, .unset, .unset, .unset, .unset, .unset, .unset, .unset, .unset, .unset] [(.int (p2 &&& (2147483647 : Int32)))]))
  refine own_by (fun tz kz => XS.istore X0.here hx rfl (hb hby at_4) rfl (l' := #[.val (.int p0), .val (.int p1), .val (.int p2), .val (.int p3), .val (.int p4), .val (.int p5), .val (.int (p2 &&& (2147483647 : Int32))), .unset, .unset, .unset, .unset, .unset, .unset, .unset, .unset, .unset, .unset]) rfl kz) ?_
  show own_Go p e below s _ _ (s₁.setTop (mkF m 6 #[.val (.int p0), .val (.int p1), .val (.int p2), .val (.int p3), .val (.int p4), .val (.int p5), .val (.int (p2 &&& (2147483647 : Int32))), .unset, .unset, .unset, .unset, .unset, .unset, .unset, .unset, .unset, .unset] []))
  refine own_by (fun tz kz => XS.iloadN X0.here hx rfl (hb hby at_6) rfl  kz) ?_
  show own_Go p e below s _ _ (s₁.setTop (mkF m 7 #[.val (.int p0), .val (.int p1), .val (.int p2), .val (.int p3), .val (.int p4), .val (.int p5), .val (.int (p2 &&& (2147483647 : Int32))), .unset, .unset, .unset, .unset, .unset, .unset, .unset, .unset, .unset, .unset] [(.int p3)]))
  refine own_by (fun tz kz => X0.ldcInt hx hown (mvT hZ (hw _ (List.mem_of_getElem? (i := 0) rfl))) (g := (mkF m 7 #[.val (.int p0), .val (.int p1), .val (.int p2), .val (.int p3), .val (.int p4), .val (.int p5), .val (.int (p2 &&& (2147483647 : Int32))), .unset, .unset, .unset, .unset, .unset, .unset, .unset, .unset, .unset, .unset] [(.int p3)])) rfl (hb hby at_7) _ kz) ?_
  show own_Go p e below s _ _ (s₁.setTop (mkF m 9 #[.val (.int p0), .val (.int p1), .val (.int p2), .val (.int p3), .val (.int p4), .val (.int p5), .val (.int (p2 &&& (2147483647 : Int32))), .unset, .unset, .unset, .unset, .unset, .unset, .unset, .unset, .unset, .unset] [(.int (2147483647 : Int32)), (.int p3)]))
  refine own_by (fun tz kz => XS.iand X0.here hx rfl (hb hby at_9) rfl kz) ?_
  show own_Go p e below s _ _ (s₁.setTop (mkF m 10 #[.val (.int p0), .val (.int p1), .val (.int p2), .val (.int p3), .val (.int p4), .val (.int p5), .val (.int (p2 &&& (2147483647 : Int32))), .unset, .unset, .unset, .unset, .unset, .unset, .unset, .unset, .unset, .unset] [(.int (p3 &&& (2147483647 : Int32)))]))
  refine own_by (fun tz kz => XS.istore X0.here hx rfl (hb hby at_10) rfl (l' := #[.val (.int p0), .val (.int p1), .val (.int p2), .val (.int p3), .val (.int p4), .val (.int p5), .val (.int (p2 &&& (2147483647 : Int32))), .val (.int (p3 &&& (2147483647 : Int32))), .unset, .unset, .unset, .unset, .unset, .unset, .unset, .unset, .unset]) rfl kz) ?_
  show own_Go p e below s _ _ (s₁.setTop (mkF m 12 #[.val (.int p0), .val (.int p1), .val (.int p2), .val (.int p3), .val (.int p4), .val (.int p5), .val (.int (p2 &&& (2147483647 : Int32))), .val (.int (p3 &&& (2147483647 : Int32))), .unset, .unset, .unset, .unset, .unset, .unset, .unset, .unset, .unset] []))
  refine own_by (fun tz kz => XS.iload X0.here hx rfl (hb hby at_12) rfl  kz) ?_
  show own_Go p e below s _ _ (s₁.setTop (mkF m 14 #[.val (.int p0), .val (.int p1), .val (.int p2), .val (.int p3), .val (.int p4), .val (.int p5), .val (.int (p2 &&& (2147483647 : Int32))), .val (.int (p3 &&& (2147483647 : Int32))), .unset, .unset, .unset, .unset, .unset, .unset, .unset, .unset, .unset] [(.int p4)]))
  refine own_by (fun tz kz => XS.iconst X0.here hx rfl (hb hby at_14) kz) ?_
  show own_Go p e below s _ _ (s₁.setTop (mkF m 15 #[.val (.int p0), .val (.int p1), .val (.int p2), .val (.int p3), .val (.int p4), .val (.int p5), .val (.int (p2 &&& (2147483647 : Int32))), .val (.int (p3 &&& (2147483647 : Int32))), .unset, .unset, .unset, .unset, .unset, .unset, .unset, .unset, .unset] [(.int (1 : Int32)), (.int p4)]))
  refine own_by (fun tz kz => XS.iand X0.here hx rfl (hb hby at_15) rfl kz) ?_
  show own_Go p e below s _ _ (s₁.setTop (mkF m 16 #[.val (.int p0), .val (.int p1), .val (.int p2), .val (.int p3), .val (.int p4), .val (.int p5), .val (.int (p2 &&& (2147483647 : Int32))), .val (.int (p3 &&& (2147483647 : Int32))), .unset, .unset, .unset, .unset, .unset, .unset, .unset, .unset, .unset] [(.int (p4 &&& (1 : Int32)))]))
  by_cases hc16_35 : (p4 &&& (1 : Int32)) = (0 : Int32)
  · refine own_by (fun tz kz => XS.ifYes X0.here hx rfl (pc0 := 16) (pc' := 23) rfl (hb hby at_16) rfl ((if0 _ _).trans (teq hc16_35).1) (by decide) (by decide) kz) ?_
    show own_Go p e below s _ _ (s₁.setTop (mkF m 23 #[.val (.int p0), .val (.int p1), .val (.int p2), .val (.int p3), .val (.int p4), .val (.int p5), .val (.int (p2 &&& (2147483647 : Int32))), .val (.int (p3 &&& (2147483647 : Int32))), .unset, .unset, .unset, .unset, .unset, .unset, .unset, .unset, .unset] []))
    refine own_by (fun tz kz => XS.iloadN X0.here hx rfl (hb hby at_23) rfl  kz) ?_
    show own_Go p e below s _ _ (s₁.setTop (mkF m 24 #[.val (.int p0), .val (.int p1), .val (.int p2), .val (.int p3), .val (.int p4), .val (.int p5), .val (.int (p2 &&& (2147483647 : Int32))), .val (.int (p3 &&& (2147483647 : Int32))), .unset, .unset, .unset, .unset, .unset, .unset, .unset, .unset, .unset] [(.int p0)]))
    refine own_by (fun tz kz => XS.iload X0.here hx rfl (hb hby at_24) rfl  kz) ?_
    show own_Go p e below s _ _ (s₁.setTop (mkF m 26 #[.val (.int p0), .val (.int p1), .val (.int p2), .val (.int p3), .val (.int p4), .val (.int p5), .val (.int (p2 &&& (2147483647 : Int32))), .val (.int (p3 &&& (2147483647 : Int32))), .unset, .unset, .unset, .unset, .unset, .unset, .unset, .unset, .unset] [(.int p5), (.int p0)]))
    refine own_by (fun tz kz => XS.iadd X0.here hx rfl (hb hby at_26) rfl kz) ?_
    show own_Go p e below s _ _ (s₁.setTop (mkF m 27 #[.val (.int p0), .val (.int p1), .val (.int p2), .val (.int p3), .val (.int p4), .val (.int p5), .val (.int (p2 &&& (2147483647 : Int32))), .val (.int (p3 &&& (2147483647 : Int32))), .unset, .unset, .unset, .unset, .unset, .unset, .unset, .unset, .unset] [(.int (p0 + p5))]))
    refine own_by (fun tz kz => XS.istore X0.here hx rfl (hb hby at_27) rfl (l' := #[.val (.int p0), .val (.int p1), .val (.int p2), .val (.int p3), .val (.int p4), .val (.int p5), .val (.int (p2 &&& (2147483647 : Int32))), .val (.int (p3 &&& (2147483647 : Int32))), .val (.int (p0 + p5)), .unset, .unset, .unset, .unset, .unset, .unset, .unset, .unset]) rfl kz) ?_
    exact J29 _
  · refine own_by (fun tz kz => XS.ifNo X0.here hx rfl (hb hby at_16) rfl ((if0 _ _).trans (feq hc16_35).1) kz) ?_
    show own_Go p e below s _ _ (s₁.setTop (mkF m 19 #[.val (.int p0), .val (.int p1), .val (.int p2), .val (.int p3), .val (.int p4), .val (.int p5), .val (.int (p2 &&& (2147483647 : Int32))), .val (.int (p3 &&& (2147483647 : Int32))), .unset, .unset, .unset, .unset, .unset, .unset, .unset, .unset, .unset] []))
    refine own_by (fun tz kz => XS.iloadN X0.here hx rfl (hb hby at_19) rfl  kz) ?_
    show own_Go p e below s _ _ (s₁.setTop (mkF m 20 #[.val (.int p0), .val (.int p1), .val (.int p2), .val (.int p3), .val (.int p4), .val (.int p5), .val (.int (p2 &&& (2147483647 : Int32))), .val (.int (p3 &&& (2147483647 : Int32))), .unset, .unset, .unset, .unset, .unset, .unset, .unset, .unset, .unset] [(.int p0)]))
    refine own_by (fun tz kz => XS.goto X0.here hx rfl (pc0 := 20) (pc' := 27) rfl (hb hby at_20) (by decide) (by decide) kz) ?_
    show own_Go p e below s _ _ (s₁.setTop (mkF m 27 #[.val (.int p0), .val (.int p1), .val (.int p2), .val (.int p3), .val (.int p4), .val (.int p5), .val (.int (p2 &&& (2147483647 : Int32))), .val (.int (p3 &&& (2147483647 : Int32))), .unset, .unset, .unset, .unset, .unset, .unset, .unset, .unset, .unset] [(.int p0)]))
    refine own_by (fun tz kz => XS.istore X0.here hx rfl (hb hby at_27) rfl (l' := #[.val (.int p0), .val (.int p1), .val (.int p2), .val (.int p3), .val (.int p4), .val (.int p5), .val (.int (p2 &&& (2147483647 : Int32))), .val (.int (p3 &&& (2147483647 : Int32))), .val (.int p0), .unset, .unset, .unset, .unset, .unset, .unset, .unset, .unset]) rfl kz) ?_
    exact J29 _
set_option maxRecDepth 65536 in
set_option maxHeartbeats 40000000 in
theorem comes_1 {Post : Tables → Env → Array Value → State → Outcome → State → Prop} (hpost : ∀ tb e args s v u, (limb_1_1.after args s (.returned v) u = true ∧ limb_1_2.after args s (.returned v) u = true ∧ True) → FrameEnd s (.returned v) u (Jvm.fieldLocs frame_1_writes args s ++ Jvm.arrayLocs frame_1_arrays args s ++ Jvm.staticLocs frame_1_statics s) 16 128 → Post tb e args s (.returned v) u) :
    ArmFor flags0 classFile x code maxLocals ret World_1 tables_1 room_1 Calls_1 rest_1 Pre_1 Post := by
  intro l hfl _ _ p e ha hc hk s m args below hf hA hF happ hP
  obtain ⟨hcalls, hrest, hpre⟩ := hP
  obtain ⟨-, -, -, hnamed, -, -, -, hat⟩ := (Spec.applies_iff hf).mp happ
  obtain ⟨hg, hn⟩ := and_e (Cond.before_iff.mp (show (Jvm.Cond.and given_1 narrow_1).before args s = true from hpre))
  obtain ⟨g1a, g1b⟩ := and_e hg
  obtain ⟨g2a, g2b⟩ := and_e g1b
  obtain ⟨g3a, g3b⟩ := and_e g2b
  obtain ⟨g4a, g4b⟩ := and_e g3b
  obtain ⟨g5a, g5b⟩ := and_e g4b
  obtain ⟨g6a, g6b⟩ := and_e g5b
  obtain ⟨w0, w1, w2, w3, w4, w5, rfl⟩ : ∃ w0 w1 w2 w3 w4 w5 : Value, args = #[w0, w1, w2, w3, w4, w5] := by
    have hs : args.size = 6 := by simpa [Cond.value, given_1] using g1a
    obtain ⟨L⟩ := args
    match L, hs with
    | [w0, w1, w2, w3, w4, w5], _ => exact ⟨w0, w1, w2, w3, w4, w5, rfl⟩
  have hw := fun d (hd : d ∈ tables_1) => atoms_spec (ws := Jvm.Cond.code x code maxLocals ret :: tables_1) hat d (List.mem_cons_of_mem _ hd)
  have hfit : Fit s := fun {y c} hc i hi => by
    obtain ⟨ha, rfl⟩ := Array.getElem?_eq_some_iff.mp hc
    have q := List.all_eq_true.mp ((Array.all_eq_true_iff_forall_mem.mp hF) _ (Array.getElem_mem ha)) i (List.mem_range.mpr hi)
    simpa [Array.getElem?_eq_getElem hi] using q
  obtain ⟨i0, ei0⟩ := is_v g2a
  obtain rfl : w0 = (.int i0) := Option.some.inj ei0
  obtain ⟨i1, ei1⟩ := is_v g3a
  obtain rfl : w1 = (.int i1) := Option.some.inj ei1
  obtain ⟨i2, ei2⟩ := is_v g4a
  obtain rfl : w2 = (.int i2) := Option.some.inj ei2
  obtain ⟨i3, ei3⟩ := is_v g5a
  obtain rfl : w3 = (.int i3) := Option.some.inj ei3
  obtain ⟨i4, ei4⟩ := is_v g6a
  obtain rfl : w4 = (.int i4) := Option.some.inj ei4
  obtain ⟨i5, ei5⟩ := is_v g6b
  obtain rfl : w5 = (.int i5) := Option.some.inj ei5
  obtain ⟨hsets, hown0⟩ := atoms_of _ (rest_1_c_eq ▸ (show rest_1_c.before _ s = true from hrest))
  have hc4 := Cond.before_iff.mp (hsets _ (List.mem_of_getElem? (i := 4) rfl))
  obtain ⟨ca, eca⟩ := arr_v hc4
  have S_cache : Sta s s.heap "java/lang/Integer$IntegerCache" "cache" "[Ljava/lang/Integer;" (.ref ca) := Sta.start eca (Or.inr ⟨(hw _ (List.mem_of_getElem? (i := 30) rfl)), (hsets _ (List.mem_of_getElem? (i := 2) rfl))⟩)
  have S_high : Sta s s.heap "java/lang/Integer$IntegerCache" "high" "I" (.int (127 : Int32)) := Sta.start (eqv_i (Term.int_eval (127)) (Cond.before_iff.mp (hsets _ (List.mem_of_getElem? (i := 3) rfl)))) (Or.inl (hsets _ (List.mem_of_getElem? (i := 1) rfl)))
  obtain ⟨ccl, Aca⟩ := Arr.start eca hc4
  have hl6 := eqv_i (Term.int_eval (256)) (Cond.before_iff.mp (hsets _ (List.mem_of_getElem? (i := 6) rfl)))
  obtain ⟨_, _, le1, le2, le3⟩ := Term.length_spec hl6
  cases eca.symm.trans le1
  cases (State.arrayAt?_spec le2).1.symm.trans Aca.1
  have B : Bxs s ca ccl "java/lang/Integer" "I" (256 : Int32) (fun j => .int (j - 128)) := Bxs.start (fun idx => eca) Aca (own_len31 hl6 eca Aca.1) (Value.int.inj le3).symm (by decide) (Cond.before_iff.mp (hsets _ (List.mem_of_getElem? (i := 7) rfl))) (fun X j hj hq => eqv_i (Term.sub_int (idx_at hj) (Term.int_eval (128))) hq)
  obtain ⟨n, o, h1, h2, h3, _, L, rfl, ⟨rfl, N⟩, hq⟩ := rm0 l s _ hw tables_1 i0 i1 i2 i3 i4 i5 ca ccl _ s.heap s.heap.size (Old.start s) S_high S_cache B p e ha hc hk s m _ below hf ((Spec.applies_iff_loose hf).mp happ).1 ⟨rfl, State.Warmed39.refl s, rfl⟩ trivial
  refine ⟨n, _, h1, h2, h3, hpost _ _ _ _ _ _ ⟨Cond.after_iff.mpr rfl, Cond.after_iff.mpr (eq_i res_at (Term.int_eval (1)) rfl), trivial⟩ ⟨hq.1, hq.2.1, (hq.2.2.sift fun y hy => Or.inr (N y hy)).mono (by decide) (by decide)⟩⟩
theorem main_1_1 : Claimed_1_1 := comes_1 fun _ _ _ _ _ _ h hF => ⟨h.1, hF⟩
theorem main_1_2 : Claimed_1_2 := comes_1 fun _ _ _ _ _ _ h hF => ⟨h.2.1, hF⟩
end Jvm.Pilot.@@N@@
namespace Jvm.Pilot.@@N@@
open Jvm Jvm.ClassFile Sem Op Lib Jvm.Free Jvm.Stand Jvm.Pilot.@@N@@.Jvm.D
/-! MADE BY PROGRAM (witnessworld.py) out of the Statement's table words and the real class files: 16 classes; the members and pool entries that the words name. The judged class is class 1, her method 1. -/
namespace start1
open Jvm.ClassFile
def u (s : String) : CpInfo := .utf8 (stringToUtf16 s)
/-- a pool by its gaps: so many unusable entries, then the entry; so many at the end -/
def gap : Nat → List CpInfo → List CpInfo
  | 0, r => r
  | n + 1, r => .unusable :: gap n r
def poolList (es : List (Nat × CpInfo)) (last : Nat) : List CpInfo := es.foldr (fun e r => gap e.1 (e.2 :: r)) (gap last [])
def pool (es : List (Nat × CpInfo)) (last : Nat) : Array CpInfo := ⟨poolList es last⟩
def fileOf (pool : Array CpInfo) (this : Nat) (attrs : Array Attribute := #[]) (ms : Array MethodInfo := #[]) (fl : Nat := 33) (sup : Nat := 0) (ifs : Array Nat := #[]) (fds : Array FieldInfo := #[]) : ClassFile where
  minorVersion := 0
  majorVersion := 65
  constantPool := pool
  accessFlags := fl
  thisClass := this
  superClass := sup
  interfaces := ifs
  fields := fds
  methods := ms
  attributes := attrs
def plain (name : String) (sup : Option ClassId) : Class where
  name := name
  kind := .ordinary
  loader := none
  accessFlags := 33
  super := sup
  interfaces := #[]
  cf := none
  fields := #[]
  methods := #[]
  instanceTypes := #[]
  staticTypes := #[]
  resolved := #[]
  callSites := []
  init := .initialized
  statics := none
  mirror := none

def pool0 : Array CpInfo := pool [(5, u "<init>"), (0, u "()V"), (1, .class_ 10), (1, u "java/lang/Object")] 113

def k0c0 : Code := { maxStack := 0, maxLocals := 1, code := object_method_1_code, exceptionTable := #[], attributes := #[] }
def k0m0 : Method := { name := "<init>", desc := "()V", sig := { parameters := [], returnType := none }, accessFlags := 1, code := some k0c0 }
/-- java/lang/Object -/
def k0 : Class := { plain "java/lang/Object" none with
  accessFlags := 33
  interfaces := #[]
  cf := some (fileOf pool0 8 #[] #[{ accessFlags := 1, nameIndex := 5, descriptorIndex := 6, attributes := #[] }] 33 0 #[] #[])
  fields := #[]
  methods := #[k0m0]
  instanceTypes := #[]
  staticTypes := #[]
  resolved := Array.replicate 124 none
  statics := none }

def pool1 : Array CpInfo := pool [(2, .class_ 4), (1, u "java/lang/Object"), (0, u "<init>"), (0, u "()V"), (0, .integer 2147483647), (0, .class_ 9), (0, u "com/example/rectwire/rectwire/protocol/Rectangle"), (0, .methodref 8 11), (0, .nameAndType 5 12), (0, u "(IIII)V"), (0, .methodref 14 15), (0, .class_ 16), (0, .nameAndType 17 18), (0, u "java/lang/Integer"), (0, u "valueOf"), (0, u "(I)Ljava/lang/Integer;"), (0, .methodref 8 20), (0, .nameAndType 21 22), (0, u "equals"), (0, u "(Ljava/lang/Object;)Z"), (0, .class_ 24), (0, u "com/example/rectwire/rectwire/protocol/RectangleEqualsPinLaw"), (2, u "law"), (0, u "(IIIIII)Z")] 3

def k1m0 : Method := { name := "<init>", desc := "()V", sig := { parameters := [], returnType := none }, accessFlags := 1, code := none }
def k1c1 : Code := { maxStack := 6, maxLocals := 17, code := code, exceptionTable := #[], attributes := #[] }
def k1m1 : Method := { name := "law", desc := "(IIIIII)Z", sig := { parameters := [.int, .int, .int, .int, .int, .int], returnType := some .boolean }, accessFlags := 9, code := some k1c1 }
/-- com/example/rectwire/rectwire/protocol/RectangleEqualsPinLaw -/
def k1 : Class := { plain "com/example/rectwire/rectwire/protocol/RectangleEqualsPinLaw" (some 0) with
  accessFlags := 49
  interfaces := #[]
  cf := some (fileOf pool1 23 #[] #[{ accessFlags := 1, nameIndex := 5, descriptorIndex := 6, attributes := #[] }, { accessFlags := 9, nameIndex := 27, descriptorIndex := 28, attributes := #[] }] 49 2 #[] #[])
  fields := #[]
  methods := #[k1m0, k1m1]
  instanceTypes := #[]
  staticTypes := #[]
  resolved := Array.replicate 32 none
  statics := none }

def pool2 : Array CpInfo := pool [(1, .methodref 2 3), (0, .class_ 4), (0, .nameAndType 5 6), (0, u "java/lang/Object"), (0, u "<init>"), (0, u "()V"), (9, .fieldref 17 18), (0, .class_ 19), (0, .nameAndType 20 21), (0, u "com/example/rectwire/rectwire/protocol/Rectangle"), (0, u "x"), (0, u "I"), (0, .fieldref 17 23), (0, .nameAndType 24 21), (0, u "y"), (0, .fieldref 17 26), (0, .nameAndType 27 21), (0, u "width"), (0, .fieldref 17 29), (0, .nameAndType 30 21), (0, u "height"), (18, u "(IIII)V"), (5, u "(Ljava/lang/Object;)Z"), (29, u "equals")] 22

def k2c0 : Code := { maxStack := 4, maxLocals := 5, code := prog_29_method_1_code, exceptionTable := #[], attributes := #[] }
def k2m0 : Method := { name := "<init>", desc := "(IIII)V", sig := { parameters := [.int, .int, .int, .int], returnType := none }, accessFlags := 1, code := some k2c0 }
def k2c1 : Code := { maxStack := 2, maxLocals := 3, code := prog_29_method_14_code, exceptionTable := #[], attributes := #[] }
def k2m1 : Method := { name := "equals", desc := "(Ljava/lang/Object;)Z", sig := { parameters := [(.object "java/lang/Object")], returnType := some .boolean }, accessFlags := 1, code := some k2c1 }
/-- com/example/rectwire/rectwire/protocol/Rectangle -/
def k2 : Class := { plain "com/example/rectwire/rectwire/protocol/Rectangle" (some 0) with
  accessFlags := 33
  interfaces := #[]
  cf := some (fileOf pool2 17 #[] #[{ accessFlags := 1, nameIndex := 5, descriptorIndex := 49, attributes := #[] }, { accessFlags := 1, nameIndex := 85, descriptorIndex := 55, attributes := #[] }] 33 2 #[] #[{ accessFlags := 18, nameIndex := 20, descriptorIndex := 21, attributes := #[] }, { accessFlags := 18, nameIndex := 24, descriptorIndex := 21, attributes := #[] }, { accessFlags := 18, nameIndex := 27, descriptorIndex := 21, attributes := #[] }, { accessFlags := 18, nameIndex := 30, descriptorIndex := 21, attributes := #[] }])
  fields := #[{ name := "x", type := .int, accessFlags := 18, slot := 0, constantValue := 0 }, { name := "y", type := .int, accessFlags := 18, slot := 1, constantValue := 0 }, { name := "width", type := .int, accessFlags := 18, slot := 2, constantValue := 0 }, { name := "height", type := .int, accessFlags := 18, slot := 3, constantValue := 0 }]
  methods := #[k2m0, k2m1]
  instanceTypes := #[.int, .int, .int, .int]
  staticTypes := #[]
  resolved := Array.replicate 108 none
  statics := none }

def pool3 : Array CpInfo := pool [(1, .class_ 2), (0, u "java/io/Serializable"), (0, .class_ 4), (0, u "java/lang/Object")] 2

/-- java/io/Serializable -/
def k3 : Class := { plain "java/io/Serializable" (some 0) with
  accessFlags := 1537
  interfaces := #[]
  cf := some (fileOf pool3 1 #[] #[] 1537 3 #[] #[])
  fields := #[]
  methods := #[]
  instanceTypes := #[]
  staticTypes := #[]
  resolved := Array.replicate 7 none
  statics := none }

def pool4 : Array CpInfo := pool [(1, .methodref 2 3), (0, .class_ 4), (0, .nameAndType 5 6), (0, u "java/lang/Object"), (0, u "<init>"), (0, u "()V"), (1, .class_ 10), (1, u "java/lang/Number"), (2, .class_ 14), (0, u "java/io/Serializable"), (0, u "serialVersionUID"), (0, u "J")] 20

def k4c0 : Code := { maxStack := 1, maxLocals := 1, code := jdk_18_method_1_code, exceptionTable := #[], attributes := #[] }
def k4m0 : Method := { name := "<init>", desc := "()V", sig := { parameters := [], returnType := none }, accessFlags := 1, code := some k4c0 }
/-- java/lang/Number -/
def k4 : Class := { plain "java/lang/Number" (some 0) with
  accessFlags := 1057
  interfaces := #[3]
  cf := some (fileOf pool4 8 #[] #[{ accessFlags := 1, nameIndex := 5, descriptorIndex := 6, attributes := #[] }] 1057 2 #[13] #[{ accessFlags := 26, nameIndex := 15, descriptorIndex := 16, attributes := #[] }])
  fields := #[{ name := "serialVersionUID", type := .long, accessFlags := 26, slot := 0, constantValue := 0 }]
  methods := #[k4m0]
  instanceTypes := #[]
  staticTypes := #[.long]
  resolved := Array.replicate 37 none
  statics := none }

def pool5 : Array CpInfo := pool [(1, .class_ 2), (0, u "java/lang/Comparable"), (0, .class_ 4), (0, u "java/lang/Object")] 7

/-- java/lang/Comparable -/
def k5 : Class := { plain "java/lang/Comparable" (some 0) with
  accessFlags := 1537
  interfaces := #[]
  cf := some (fileOf pool5 1 #[] #[] 1537 3 #[] #[])
  fields := #[]
  methods := #[]
  instanceTypes := #[]
  staticTypes := #[]
  resolved := Array.replicate 12 none
  statics := none }

def pool6 : Array CpInfo := pool [(1, .class_ 2), (0, u "java/lang/constant/Constable"), (0, .class_ 4), (0, u "java/lang/Object")] 6

/-- java/lang/constant/Constable -/
def k6 : Class := { plain "java/lang/constant/Constable" (some 0) with
  accessFlags := 1537
  interfaces := #[]
  cf := some (fileOf pool6 1 #[] #[] 1537 3 #[] #[])
  fields := #[]
  methods := #[]
  instanceTypes := #[]
  staticTypes := #[]
  resolved := Array.replicate 11 none
  statics := none }

def pool7 : Array CpInfo := pool [(1, .class_ 2), (0, u "java/lang/constant/ConstantDesc"), (0, .class_ 4), (0, u "java/lang/Object")] 32

/-- java/lang/constant/ConstantDesc -/
def k7 : Class := { plain "java/lang/constant/ConstantDesc" (some 0) with
  accessFlags := 1537
  interfaces := #[]
  cf := some (fileOf pool7 1 #[] #[] 1537 3 #[] #[])
  fields := #[]
  methods := #[]
  instanceTypes := #[]
  staticTypes := #[]
  resolved := Array.replicate 37 none
  statics := none }

def pool8 : Array CpInfo := pool [(1, .class_ 2), (0, u "java/lang/Integer"), (16, u "digits"), (0, u "[C"), (46, u "<init>"), (17, u "DigitOnes"), (0, u "[B"), (2, u "DigitTens"), (10, .nameAndType 67 101), (0, u "()V"), (85, u "valueOf"), (0, u "(I)Ljava/lang/Integer;"), (0, .class_ 190), (0, u "java/lang/Integer$IntegerCache"), (0, .fieldref 189 192), (0, .nameAndType 193 194), (0, u "high"), (0, u "I"), (0, .fieldref 189 196), (0, .nameAndType 197 198), (0, u "cache"), (0, u "[Ljava/lang/Integer;"), (0, .methodref 1 200), (0, .nameAndType 67 201), (0, u "(I)V"), (0, .methodref 203 100), (0, .class_ 204), (0, u "java/lang/Number"), (0, .fieldref 1 206), (0, .nameAndType 207 194), (0, u "value"), (94, u "TYPE"), (0, u "Ljava/lang/Class;"), (0, .class_ 305), (0, u "java/lang/Comparable"), (0, .class_ 307), (0, u "java/lang/constant/Constable"), (0, .class_ 309), (0, u "java/lang/constant/ConstantDesc"), (0, u "MIN_VALUE"), (1, u "MAX_VALUE"), (3, u "SIZE"), (1, u "BYTES"), (1, u "serialVersionUID"), (0, u "J")] 131

def k8c0 : Code := { maxStack := 3, maxLocals := 1, code := jdk_33_method_22_code, exceptionTable := #[], attributes := #[] }
def k8m0 : Method := { name := "valueOf", desc := "(I)Ljava/lang/Integer;", sig := { parameters := [.int], returnType := some (.object "java/lang/Integer") }, accessFlags := 9, code := some k8c0 }
def k8c1 : Code := { maxStack := 2, maxLocals := 2, code := jdk_33_method_23_code, exceptionTable := #[], attributes := #[] }
def k8m1 : Method := { name := "<init>", desc := "(I)V", sig := { parameters := [.int], returnType := none }, accessFlags := 1, code := some k8c1 }
/-- java/lang/Integer -/
def k8 : Class := { plain "java/lang/Integer" (some 4) with
  accessFlags := 49
  interfaces := #[5, 6, 7]
  cf := some (fileOf pool8 1 #[.nestMembers #[189]] #[{ accessFlags := 9, nameIndex := 187, descriptorIndex := 188, attributes := #[] }, { accessFlags := 1, nameIndex := 67, descriptorIndex := 201, attributes := #[] }] 49 203 #[304, 306, 308] #[{ accessFlags := 25, nameIndex := 310, descriptorIndex := 194, attributes := #[] }, { accessFlags := 25, nameIndex := 312, descriptorIndex := 194, attributes := #[] }, { accessFlags := 25, nameIndex := 302, descriptorIndex := 303, attributes := #[] }, { accessFlags := 24, nameIndex := 19, descriptorIndex := 20, attributes := #[] }, { accessFlags := 24, nameIndex := 89, descriptorIndex := 86, attributes := #[] }, { accessFlags := 24, nameIndex := 85, descriptorIndex := 86, attributes := #[] }, { accessFlags := 18, nameIndex := 207, descriptorIndex := 194, attributes := #[] }, { accessFlags := 25, nameIndex := 316, descriptorIndex := 194, attributes := #[] }, { accessFlags := 25, nameIndex := 318, descriptorIndex := 194, attributes := #[] }, { accessFlags := 26, nameIndex := 320, descriptorIndex := 321, attributes := #[] }])
  fields := #[{ name := "MIN_VALUE", type := .int, accessFlags := 25, slot := 0, constantValue := 0 }, { name := "MAX_VALUE", type := .int, accessFlags := 25, slot := 1, constantValue := 0 }, { name := "TYPE", type := (.object "java/lang/Class"), accessFlags := 25, slot := 2, constantValue := 0 }, { name := "digits", type := (.array .char), accessFlags := 24, slot := 3, constantValue := 0 }, { name := "DigitTens", type := (.array .byte), accessFlags := 24, slot := 4, constantValue := 0 }, { name := "DigitOnes", type := (.array .byte), accessFlags := 24, slot := 5, constantValue := 0 }, { name := "value", type := .int, accessFlags := 18, slot := 0, constantValue := 0 }, { name := "SIZE", type := .int, accessFlags := 25, slot := 6, constantValue := 0 }, { name := "BYTES", type := .int, accessFlags := 25, slot := 7, constantValue := 0 }, { name := "serialVersionUID", type := .long, accessFlags := 26, slot := 8, constantValue := 0 }]
  methods := #[k8m0, k8m1]
  instanceTypes := #[.int]
  staticTypes := #[.int, .int, (.object "java/lang/Class"), (.array .char), (.array .byte), (.array .byte), .int, .int, .long]
  resolved := Array.replicate 453 none
  statics := none }

def pool9 : Array CpInfo := pool [(2, .class_ 4), (1, u "java/lang/Object"), (0, u "<init>"), (0, u "()V"), (0, .class_ 8), (0, u "java/lang/Integer"), (7, .class_ 18), (1, u "java/lang/Integer$IntegerCache"), (0, u "$assertionsDisabled"), (0, u "Z"), (26, u "high"), (0, u "I"), (8, u "archivedCache"), (0, u "[Ljava/lang/Integer;"), (12, u "cache"), (0, u "low")] 27

def k9m0 : Method := { name := "<init>", desc := "()V", sig := { parameters := [], returnType := none }, accessFlags := 2, code := none }
/-- java/lang/Integer$IntegerCache -/
def k9 : Class := { plain "java/lang/Integer$IntegerCache" (some 0) with
  accessFlags := 48
  interfaces := #[]
  cf := some (fileOf pool9 16 #[.nestHost 7] #[{ accessFlags := 2, nameIndex := 5, descriptorIndex := 6, attributes := #[] }] 48 2 #[] #[{ accessFlags := 24, nameIndex := 72, descriptorIndex := 48, attributes := #[] }, { accessFlags := 24, nameIndex := 47, descriptorIndex := 48, attributes := #[] }, { accessFlags := 24, nameIndex := 71, descriptorIndex := 58, attributes := #[] }, { accessFlags := 8, nameIndex := 57, descriptorIndex := 58, attributes := #[] }, { accessFlags := 4120, nameIndex := 19, descriptorIndex := 20, attributes := #[] }])
  fields := #[{ name := "low", type := .int, accessFlags := 24, slot := 0, constantValue := 0 }, { name := "high", type := .int, accessFlags := 24, slot := 1, constantValue := 0 }, { name := "cache", type := (.array (.object "java/lang/Integer")), accessFlags := 24, slot := 2, constantValue := 0 }, { name := "archivedCache", type := (.array (.object "java/lang/Integer")), accessFlags := 8, slot := 3, constantValue := 0 }, { name := "$assertionsDisabled", type := .boolean, accessFlags := 4120, slot := 4, constantValue := 0 }]
  methods := #[k9m0]
  instanceTypes := #[]
  staticTypes := #[.int, .int, (.array (.object "java/lang/Integer")), (.array (.object "java/lang/Integer")), .boolean]
  resolved := Array.replicate 100 none
  statics := some 0 }

def pool10 : Array CpInfo := pool [(1, u "java/lang/Cloneable"), (0, .class_ 1), (0, u "java/lang/Object"), (0, .class_ 3)] 3

/-- java/lang/Cloneable -/
def k10 : Class := { plain "java/lang/Cloneable" (some 0) with
  accessFlags := 1537
  interfaces := #[]
  cf := some (fileOf pool10 2 #[] #[] 1537 4 #[] #[])
  fields := #[]
  methods := #[]
  instanceTypes := #[]
  staticTypes := #[]
  resolved := Array.replicate 8 none
  statics := none }

/-- the primitive byte -/
def k11 : Class := { plain "byte" none with kind := .primitive 'B', accessFlags := 0x411 }
/-- [B -/
def k12 : Class := { plain "[B" (some 0) with kind := .array 11 .byte, interfaces := #[10, 3], accessFlags := 1041 }

/-- the primitive int -/
def k13 : Class := { plain "int" none with kind := .primitive 'I', accessFlags := 0x411 }
/-- [I -/
def k14 : Class := { plain "[I" (some 0) with kind := .array 13 .int, interfaces := #[10, 3], accessFlags := 1041 }

/-- [Ljava/lang/Integer; -/
def k15 : Class := { plain "[Ljava/lang/Integer;" (some 0) with kind := .array 8 (.object "java/lang/Integer"), interfaces := #[10, 3], accessFlags := 1041 }

def heap : Heap := #[{ cls := 9, slots := #[.int 0, .int 127, .ref 1, .null, .int 0], vm := .statics 9 },
  { cls := 15, slots := #[.ref 2, .ref 3, .ref 4, .ref 5, .ref 6, .ref 7, .ref 8, .ref 9, .ref 10, .ref 11, .ref 12, .ref 13, .ref 14, .ref 15, .ref 16, .ref 17, .ref 18, .ref 19, .ref 20, .ref 21, .ref 22, .ref 23, .ref 24, .ref 25, .ref 26, .ref 27, .ref 28, .ref 29, .ref 30, .ref 31, .ref 32, .ref 33, .ref 34, .ref 35, .ref 36, .ref 37, .ref 38, .ref 39, .ref 40, .ref 41, .ref 42, .ref 43, .ref 44, .ref 45, .ref 46, .ref 47, .ref 48, .ref 49, .ref 50, .ref 51, .ref 52, .ref 53, .ref 54, .ref 55, .ref 56, .ref 57, .ref 58, .ref 59, .ref 60, .ref 61, .ref 62, .ref 63, .ref 64, .ref 65, .ref 66, .ref 67, .ref 68, .ref 69, .ref 70, .ref 71, .ref 72, .ref 73, .ref 74, .ref 75, .ref 76, .ref 77, .ref 78, .ref 79, .ref 80, .ref 81, .ref 82, .ref 83, .ref 84, .ref 85, .ref 86, .ref 87, .ref 88, .ref 89, .ref 90, .ref 91, .ref 92, .ref 93, .ref 94, .ref 95, .ref 96, .ref 97, .ref 98, .ref 99, .ref 100, .ref 101, .ref 102, .ref 103, .ref 104, .ref 105, .ref 106, .ref 107, .ref 108, .ref 109, .ref 110, .ref 111, .ref 112, .ref 113, .ref 114, .ref 115, .ref 116, .ref 117, .ref 118, .ref 119, .ref 120, .ref 121, .ref 122, .ref 123, .ref 124, .ref 125, .ref 126, .ref 127, .ref 128, .ref 129, .ref 130, .ref 131, .ref 132, .ref 133, .ref 134, .ref 135, .ref 136, .ref 137, .ref 138, .ref 139, .ref 140, .ref 141, .ref 142, .ref 143, .ref 144, .ref 145, .ref 146, .ref 147, .ref 148, .ref 149, .ref 150, .ref 151, .ref 152, .ref 153, .ref 154, .ref 155, .ref 156, .ref 157, .ref 158, .ref 159, .ref 160, .ref 161, .ref 162, .ref 163, .ref 164, .ref 165, .ref 166, .ref 167, .ref 168, .ref 169, .ref 170, .ref 171, .ref 172, .ref 173, .ref 174, .ref 175, .ref 176, .ref 177, .ref 178, .ref 179, .ref 180, .ref 181, .ref 182, .ref 183, .ref 184, .ref 185, .ref 186, .ref 187, .ref 188, .ref 189, .ref 190, .ref 191, .ref 192, .ref 193, .ref 194, .ref 195, .ref 196, .ref 197, .ref 198, .ref 199, .ref 200, .ref 201, .ref 202, .ref 203, .ref 204, .ref 205, .ref 206, .ref 207, .ref 208, .ref 209, .ref 210, .ref 211, .ref 212, .ref 213, .ref 214, .ref 215, .ref 216, .ref 217, .ref 218, .ref 219, .ref 220, .ref 221, .ref 222, .ref 223, .ref 224, .ref 225, .ref 226, .ref 227, .ref 228, .ref 229, .ref 230, .ref 231, .ref 232, .ref 233, .ref 234, .ref 235, .ref 236, .ref 237, .ref 238, .ref 239, .ref 240, .ref 241, .ref 242, .ref 243, .ref 244, .ref 245, .ref 246, .ref 247, .ref 248, .ref 249, .ref 250, .ref 251, .ref 252, .ref 253, .ref 254, .ref 255, .ref 256, .ref 257], vm := .none },
  { cls := 8, slots := #[.int (-128)], vm := .none },
  { cls := 8, slots := #[.int (-127)], vm := .none },
  { cls := 8, slots := #[.int (-126)], vm := .none },
  { cls := 8, slots := #[.int (-125)], vm := .none },
  { cls := 8, slots := #[.int (-124)], vm := .none },
  { cls := 8, slots := #[.int (-123)], vm := .none },
  { cls := 8, slots := #[.int (-122)], vm := .none },
  { cls := 8, slots := #[.int (-121)], vm := .none },
  { cls := 8, slots := #[.int (-120)], vm := .none },
  { cls := 8, slots := #[.int (-119)], vm := .none },
  { cls := 8, slots := #[.int (-118)], vm := .none },
  { cls := 8, slots := #[.int (-117)], vm := .none },
  { cls := 8, slots := #[.int (-116)], vm := .none },
  { cls := 8, slots := #[.int (-115)], vm := .none },
  { cls := 8, slots := #[.int (-114)], vm := .none },
  { cls := 8, slots := #[.int (-113)], vm := .none },
  { cls := 8, slots := #[.int (-112)], vm := .none },
  { cls := 8, slots := #[.int (-111)], vm := .none },
  { cls := 8, slots := #[.int (-110)], vm := .none },
  { cls := 8, slots := #[.int (-109)], vm := .none },
  { cls := 8, slots := #[.int (-108)], vm := .none },
  { cls := 8, slots := #[.int (-107)], vm := .none },
  { cls := 8, slots := #[.int (-106)], vm := .none },
  { cls := 8, slots := #[.int (-105)], vm := .none },
  { cls := 8, slots := #[.int (-104)], vm := .none },
  { cls := 8, slots := #[.int (-103)], vm := .none },
  { cls := 8, slots := #[.int (-102)], vm := .none },
  { cls := 8, slots := #[.int (-101)], vm := .none },
  { cls := 8, slots := #[.int (-100)], vm := .none },
  { cls := 8, slots := #[.int (-99)], vm := .none },
  { cls := 8, slots := #[.int (-98)], vm := .none },
  { cls := 8, slots := #[.int (-97)], vm := .none },
  { cls := 8, slots := #[.int (-96)], vm := .none },
  { cls := 8, slots := #[.int (-95)], vm := .none },
  { cls := 8, slots := #[.int (-94)], vm := .none },
  { cls := 8, slots := #[.int (-93)], vm := .none },
  { cls := 8, slots := #[.int (-92)], vm := .none },
  { cls := 8, slots := #[.int (-91)], vm := .none },
  { cls := 8, slots := #[.int (-90)], vm := .none },
  { cls := 8, slots := #[.int (-89)], vm := .none },
  { cls := 8, slots := #[.int (-88)], vm := .none },
  { cls := 8, slots := #[.int (-87)], vm := .none },
  { cls := 8, slots := #[.int (-86)], vm := .none },
  { cls := 8, slots := #[.int (-85)], vm := .none },
  { cls := 8, slots := #[.int (-84)], vm := .none },
  { cls := 8, slots := #[.int (-83)], vm := .none },
  { cls := 8, slots := #[.int (-82)], vm := .none },
  { cls := 8, slots := #[.int (-81)], vm := .none },
  { cls := 8, slots := #[.int (-80)], vm := .none },
  { cls := 8, slots := #[.int (-79)], vm := .none },
  { cls := 8, slots := #[.int (-78)], vm := .none },
  { cls := 8, slots := #[.int (-77)], vm := .none },
  { cls := 8, slots := #[.int (-76)], vm := .none },
  { cls := 8, slots := #[.int (-75)], vm := .none },
  { cls := 8, slots := #[.int (-74)], vm := .none },
  { cls := 8, slots := #[.int (-73)], vm := .none },
  { cls := 8, slots := #[.int (-72)], vm := .none },
  { cls := 8, slots := #[.int (-71)], vm := .none },
  { cls := 8, slots := #[.int (-70)], vm := .none },
  { cls := 8, slots := #[.int (-69)], vm := .none },
  { cls := 8, slots := #[.int (-68)], vm := .none },
  { cls := 8, slots := #[.int (-67)], vm := .none },
  { cls := 8, slots := #[.int (-66)], vm := .none },
  { cls := 8, slots := #[.int (-65)], vm := .none },
  { cls := 8, slots := #[.int (-64)], vm := .none },
  { cls := 8, slots := #[.int (-63)], vm := .none },
  { cls := 8, slots := #[.int (-62)], vm := .none },
  { cls := 8, slots := #[.int (-61)], vm := .none },
  { cls := 8, slots := #[.int (-60)], vm := .none },
  { cls := 8, slots := #[.int (-59)], vm := .none },
  { cls := 8, slots := #[.int (-58)], vm := .none },
  { cls := 8, slots := #[.int (-57)], vm := .none },
  { cls := 8, slots := #[.int (-56)], vm := .none },
  { cls := 8, slots := #[.int (-55)], vm := .none },
  { cls := 8, slots := #[.int (-54)], vm := .none },
  { cls := 8, slots := #[.int (-53)], vm := .none },
  { cls := 8, slots := #[.int (-52)], vm := .none },
  { cls := 8, slots := #[.int (-51)], vm := .none },
  { cls := 8, slots := #[.int (-50)], vm := .none },
  { cls := 8, slots := #[.int (-49)], vm := .none },
  { cls := 8, slots := #[.int (-48)], vm := .none },
  { cls := 8, slots := #[.int (-47)], vm := .none },
  { cls := 8, slots := #[.int (-46)], vm := .none },
  { cls := 8, slots := #[.int (-45)], vm := .none },
  { cls := 8, slots := #[.int (-44)], vm := .none },
  { cls := 8, slots := #[.int (-43)], vm := .none },
  { cls := 8, slots := #[.int (-42)], vm := .none },
  { cls := 8, slots := #[.int (-41)], vm := .none },
  { cls := 8, slots := #[.int (-40)], vm := .none },
  { cls := 8, slots := #[.int (-39)], vm := .none },
  { cls := 8, slots := #[.int (-38)], vm := .none },
  { cls := 8, slots := #[.int (-37)], vm := .none },
  { cls := 8, slots := #[.int (-36)], vm := .none },
  { cls := 8, slots := #[.int (-35)], vm := .none },
  { cls := 8, slots := #[.int (-34)], vm := .none },
  { cls := 8, slots := #[.int (-33)], vm := .none },
  { cls := 8, slots := #[.int (-32)], vm := .none },
  { cls := 8, slots := #[.int (-31)], vm := .none },
  { cls := 8, slots := #[.int (-30)], vm := .none },
  { cls := 8, slots := #[.int (-29)], vm := .none },
  { cls := 8, slots := #[.int (-28)], vm := .none },
  { cls := 8, slots := #[.int (-27)], vm := .none },
  { cls := 8, slots := #[.int (-26)], vm := .none },
  { cls := 8, slots := #[.int (-25)], vm := .none },
  { cls := 8, slots := #[.int (-24)], vm := .none },
  { cls := 8, slots := #[.int (-23)], vm := .none },
  { cls := 8, slots := #[.int (-22)], vm := .none },
  { cls := 8, slots := #[.int (-21)], vm := .none },
  { cls := 8, slots := #[.int (-20)], vm := .none },
  { cls := 8, slots := #[.int (-19)], vm := .none },
  { cls := 8, slots := #[.int (-18)], vm := .none },
  { cls := 8, slots := #[.int (-17)], vm := .none },
  { cls := 8, slots := #[.int (-16)], vm := .none },
  { cls := 8, slots := #[.int (-15)], vm := .none },
  { cls := 8, slots := #[.int (-14)], vm := .none },
  { cls := 8, slots := #[.int (-13)], vm := .none },
  { cls := 8, slots := #[.int (-12)], vm := .none },
  { cls := 8, slots := #[.int (-11)], vm := .none },
  { cls := 8, slots := #[.int (-10)], vm := .none },
  { cls := 8, slots := #[.int (-9)], vm := .none },
  { cls := 8, slots := #[.int (-8)], vm := .none },
  { cls := 8, slots := #[.int (-7)], vm := .none },
  { cls := 8, slots := #[.int (-6)], vm := .none },
  { cls := 8, slots := #[.int (-5)], vm := .none },
  { cls := 8, slots := #[.int (-4)], vm := .none },
  { cls := 8, slots := #[.int (-3)], vm := .none },
  { cls := 8, slots := #[.int (-2)], vm := .none },
  { cls := 8, slots := #[.int (-1)], vm := .none },
  { cls := 8, slots := #[.int 0], vm := .none },
  { cls := 8, slots := #[.int 1], vm := .none },
  { cls := 8, slots := #[.int 2], vm := .none },
  { cls := 8, slots := #[.int 3], vm := .none },
  { cls := 8, slots := #[.int 4], vm := .none },
  { cls := 8, slots := #[.int 5], vm := .none },
  { cls := 8, slots := #[.int 6], vm := .none },
  { cls := 8, slots := #[.int 7], vm := .none },
  { cls := 8, slots := #[.int 8], vm := .none },
  { cls := 8, slots := #[.int 9], vm := .none },
  { cls := 8, slots := #[.int 10], vm := .none },
  { cls := 8, slots := #[.int 11], vm := .none },
  { cls := 8, slots := #[.int 12], vm := .none },
  { cls := 8, slots := #[.int 13], vm := .none },
  { cls := 8, slots := #[.int 14], vm := .none },
  { cls := 8, slots := #[.int 15], vm := .none },
  { cls := 8, slots := #[.int 16], vm := .none },
  { cls := 8, slots := #[.int 17], vm := .none },
  { cls := 8, slots := #[.int 18], vm := .none },
  { cls := 8, slots := #[.int 19], vm := .none },
  { cls := 8, slots := #[.int 20], vm := .none },
  { cls := 8, slots := #[.int 21], vm := .none },
  { cls := 8, slots := #[.int 22], vm := .none },
  { cls := 8, slots := #[.int 23], vm := .none },
  { cls := 8, slots := #[.int 24], vm := .none },
  { cls := 8, slots := #[.int 25], vm := .none },
  { cls := 8, slots := #[.int 26], vm := .none },
  { cls := 8, slots := #[.int 27], vm := .none },
  { cls := 8, slots := #[.int 28], vm := .none },
  { cls := 8, slots := #[.int 29], vm := .none },
  { cls := 8, slots := #[.int 30], vm := .none },
  { cls := 8, slots := #[.int 31], vm := .none },
  { cls := 8, slots := #[.int 32], vm := .none },
  { cls := 8, slots := #[.int 33], vm := .none },
  { cls := 8, slots := #[.int 34], vm := .none },
  { cls := 8, slots := #[.int 35], vm := .none },
  { cls := 8, slots := #[.int 36], vm := .none },
  { cls := 8, slots := #[.int 37], vm := .none },
  { cls := 8, slots := #[.int 38], vm := .none },
  { cls := 8, slots := #[.int 39], vm := .none },
  { cls := 8, slots := #[.int 40], vm := .none },
  { cls := 8, slots := #[.int 41], vm := .none },
  { cls := 8, slots := #[.int 42], vm := .none },
  { cls := 8, slots := #[.int 43], vm := .none },
  { cls := 8, slots := #[.int 44], vm := .none },
  { cls := 8, slots := #[.int 45], vm := .none },
  { cls := 8, slots := #[.int 46], vm := .none },
  { cls := 8, slots := #[.int 47], vm := .none },
  { cls := 8, slots := #[.int 48], vm := .none },
  { cls := 8, slots := #[.int 49], vm := .none },
  { cls := 8, slots := #[.int 50], vm := .none },
  { cls := 8, slots := #[.int 51], vm := .none },
  { cls := 8, slots := #[.int 52], vm := .none },
  { cls := 8, slots := #[.int 53], vm := .none },
  { cls := 8, slots := #[.int 54], vm := .none },
  { cls := 8, slots := #[.int 55], vm := .none },
  { cls := 8, slots := #[.int 56], vm := .none },
  { cls := 8, slots := #[.int 57], vm := .none },
  { cls := 8, slots := #[.int 58], vm := .none },
  { cls := 8, slots := #[.int 59], vm := .none },
  { cls := 8, slots := #[.int 60], vm := .none },
  { cls := 8, slots := #[.int 61], vm := .none },
  { cls := 8, slots := #[.int 62], vm := .none },
  { cls := 8, slots := #[.int 63], vm := .none },
  { cls := 8, slots := #[.int 64], vm := .none },
  { cls := 8, slots := #[.int 65], vm := .none },
  { cls := 8, slots := #[.int 66], vm := .none },
  { cls := 8, slots := #[.int 67], vm := .none },
  { cls := 8, slots := #[.int 68], vm := .none },
  { cls := 8, slots := #[.int 69], vm := .none },
  { cls := 8, slots := #[.int 70], vm := .none },
  { cls := 8, slots := #[.int 71], vm := .none },
  { cls := 8, slots := #[.int 72], vm := .none },
  { cls := 8, slots := #[.int 73], vm := .none },
  { cls := 8, slots := #[.int 74], vm := .none },
  { cls := 8, slots := #[.int 75], vm := .none },
  { cls := 8, slots := #[.int 76], vm := .none },
  { cls := 8, slots := #[.int 77], vm := .none },
  { cls := 8, slots := #[.int 78], vm := .none },
  { cls := 8, slots := #[.int 79], vm := .none },
  { cls := 8, slots := #[.int 80], vm := .none },
  { cls := 8, slots := #[.int 81], vm := .none },
  { cls := 8, slots := #[.int 82], vm := .none },
  { cls := 8, slots := #[.int 83], vm := .none },
  { cls := 8, slots := #[.int 84], vm := .none },
  { cls := 8, slots := #[.int 85], vm := .none },
  { cls := 8, slots := #[.int 86], vm := .none },
  { cls := 8, slots := #[.int 87], vm := .none },
  { cls := 8, slots := #[.int 88], vm := .none },
  { cls := 8, slots := #[.int 89], vm := .none },
  { cls := 8, slots := #[.int 90], vm := .none },
  { cls := 8, slots := #[.int 91], vm := .none },
  { cls := 8, slots := #[.int 92], vm := .none },
  { cls := 8, slots := #[.int 93], vm := .none },
  { cls := 8, slots := #[.int 94], vm := .none },
  { cls := 8, slots := #[.int 95], vm := .none },
  { cls := 8, slots := #[.int 96], vm := .none },
  { cls := 8, slots := #[.int 97], vm := .none },
  { cls := 8, slots := #[.int 98], vm := .none },
  { cls := 8, slots := #[.int 99], vm := .none },
  { cls := 8, slots := #[.int 100], vm := .none },
  { cls := 8, slots := #[.int 101], vm := .none },
  { cls := 8, slots := #[.int 102], vm := .none },
  { cls := 8, slots := #[.int 103], vm := .none },
  { cls := 8, slots := #[.int 104], vm := .none },
  { cls := 8, slots := #[.int 105], vm := .none },
  { cls := 8, slots := #[.int 106], vm := .none },
  { cls := 8, slots := #[.int 107], vm := .none },
  { cls := 8, slots := #[.int 108], vm := .none },
  { cls := 8, slots := #[.int 109], vm := .none },
  { cls := 8, slots := #[.int 110], vm := .none },
  { cls := 8, slots := #[.int 111], vm := .none },
  { cls := 8, slots := #[.int 112], vm := .none },
  { cls := 8, slots := #[.int 113], vm := .none },
  { cls := 8, slots := #[.int 114], vm := .none },
  { cls := 8, slots := #[.int 115], vm := .none },
  { cls := 8, slots := #[.int 116], vm := .none },
  { cls := 8, slots := #[.int 117], vm := .none },
  { cls := 8, slots := #[.int 118], vm := .none },
  { cls := 8, slots := #[.int 119], vm := .none },
  { cls := 8, slots := #[.int 120], vm := .none },
  { cls := 8, slots := #[.int 121], vm := .none },
  { cls := 8, slots := #[.int 122], vm := .none },
  { cls := 8, slots := #[.int 123], vm := .none },
  { cls := 8, slots := #[.int 124], vm := .none },
  { cls := 8, slots := #[.int 125], vm := .none },
  { cls := 8, slots := #[.int 126], vm := .none },
  { cls := 8, slots := #[.int 127], vm := .none }]
def classes : Array Class := #[k0, k1, k2, k3, k4, k5, k6, k7, k8, k9, k10, k11, k12, k13, k14, k15]
def interned : List (Array UInt16 × Addr) := []
def slotsUsed : Nat := 517
def theMethod : MethodId := ⟨1, 1⟩
def args0 : Array Value := #[.int 5, .int 6, .int 7, .int 8, .int 9, .int 10]
def aboutOver (below : List Frame) : State where
  vm := { classes := classes, interned := interned.toArray }
  heap := heap
  slotsUsed := slotsUsed
  threads := #[{ frames := .invoking theMethod args0 :: below }]
def below0 : List Frame := [.native { method := ⟨0, 0⟩, args := #[] }]
def about1 : State := aboutOver below0
def p0 : Program := .bare "" "" ""
def e0 : Env := launch0.env 0 0 0
theorem w_frames : about1.frames = Frame.invoking theMethod args0 :: below0 := rfl
set_option maxRecDepth 65536 in
theorem w_args : argsFit about1.vm theMethod args0 = true := by decide +kernel
set_option maxRecDepth 65536 in
theorem w_heap : heapFits about1 = true := by decide +kernel
set_option maxRecDepth 65536 in
theorem w_runnable : about1.curStatus? = some .runnable := by decide +kernel
set_option maxRecDepth 65536 in
theorem w_alone : about1.alone = true := by decide +kernel
set_option maxRecDepth 65536 in
theorem w_named : about1.methodNamed? x = some theMethod := by decide +kernel
set_option maxRecDepth 65536 in
theorem w_hears : about1.hears theMethod below0 = true := by decide +kernel
set_option maxRecDepth 65536 in
theorem w_ripe : about1.ripe theMethod args0 below0 = true := by decide +kernel
theorem w_running : about1.status = .running := rfl
set_option maxRecDepth 65536 in
theorem w_room : about1.hasRoom e0.platform room_1 = true :=
  launch0.hasRoom_least _ room_1 (by decide +kernel) (by decide +kernel) (by decide +kernel) (by decide +kernel) (by decide +kernel) (by decide +kernel)
theorem allAtoms_all (ts : List Jvm.Cond) (a : Array Jvm.Value) (st : Jvm.State) : (allAtoms ts).before a st = ts.all (fun c => c.before a st) := by
  induction ts with
  | nil => rfl
  | cons c t ih =>
    show (Jvm.Cond.and c (allAtoms t)).before a st = _
    rw [Jvm.Cond.before_and, ih, List.all_cons]
def words1 : List Jvm.Cond := Jvm.Cond.code x code maxLocals ret :: tables_1
/-- a 'code' word, met by the world's own term for the bytes: nothing is compared byte by byte -/
theorem code_word {y : MethodName} {bytes : ByteArray} {mx : Nat} {rt : Option FieldType} {a : Array Value} {s : State} {m : MethodId} {meth : Method} {c : Code} (h1 : s.methodNamed? y = some m) (h2 : s.vm.method? m = some meth) (h3 : meth.code = some c) (h4 : c.code = bytes)
    (h5 : (c.maxLocals == mx && c.exceptionTable.isEmpty && decide (c.maxStack ≤ mostOperands) && decide (meth.sig.returnType = rt) && !meth.locks && decide (parseMethodDescriptor y.desc = some meth.sig)) = true) : (Jvm.Cond.code y bytes mx rt).before a s = true := by
  simp only [Bool.and_eq_true, beq_iff_eq, Bool.not_eq_true', decide_eq_true_eq] at h5
  obtain ⟨⟨⟨⟨⟨g1, g2⟩, g3⟩, g4⟩, g5⟩, g6⟩ := h5
  simp [Cond.before, Cond.holds, Cond.value, h1, h2, h3, h4, g1, g2, g3, g4, g5, g6]
def isCode : Jvm.Cond → Bool
  | .code _ _ _ _ => true
  | _ => false
theorem all_split {L : List Jvm.Cond} {P : Jvm.Cond → Bool} (h1 : L.all (fun c => isCode c || P c) = true) (h2 : ∀ c ∈ L.filter isCode, P c = true) : L.all P = true := by
  refine List.all_eq_true.mpr fun c hc => ?_
  have h := List.all_eq_true.mp h1 c hc
  rcases Bool.eq_false_or_eq_true (isCode c) with hi | hi
  · exact h2 c (List.mem_filter.mpr ⟨hc, hi⟩)
  · simpa [hi] using h
set_option maxRecDepth 65536 in
theorem w_c0 : (Jvm.Cond.code x code maxLocals ret).before args0 about1 = true := code_word (m := ⟨1, 1⟩) (meth := k1m1) (c := k1c1) (by decide +kernel) rfl rfl rfl (by decide +kernel)
set_option maxRecDepth 65536 in
theorem w_c1 : (Jvm.Cond.code ({ cls := "com/example/rectwire/rectwire/protocol/Rectangle", name := "<init>", desc := "(IIII)V" } : Jvm.MethodName) prog_29_method_1_code (5 : Nat) (Option.none : Option Jvm.ClassFile.FieldType)).before args0 about1 = true := code_word (m := ⟨2, 0⟩) (meth := k2m0) (c := k2c0) (by decide +kernel) rfl rfl rfl (by decide +kernel)
set_option maxRecDepth 65536 in
theorem w_c2 : (Jvm.Cond.code ({ cls := "java/lang/Object", name := "<init>", desc := "()V" } : Jvm.MethodName) object_method_1_code (1 : Nat) (Option.none : Option Jvm.ClassFile.FieldType)).before args0 about1 = true := code_word (m := ⟨0, 0⟩) (meth := k0m0) (c := k0c0) (by decide +kernel) rfl rfl rfl (by decide +kernel)
set_option maxRecDepth 65536 in
theorem w_c3 : (Jvm.Cond.code ({ cls := "com/example/rectwire/rectwire/protocol/Rectangle", name := "equals", desc := "(Ljava/lang/Object;)Z" } : Jvm.MethodName) prog_29_method_14_code (3 : Nat) (Option.some Jvm.ClassFile.FieldType.boolean)).before args0 about1 = true := code_word (m := ⟨2, 1⟩) (meth := k2m1) (c := k2c1) (by decide +kernel) rfl rfl rfl (by decide +kernel)
set_option maxRecDepth 65536 in
theorem w_c4 : (Jvm.Cond.code ({ cls := "java/lang/Integer", name := "valueOf", desc := "(I)Ljava/lang/Integer;" } : Jvm.MethodName) jdk_33_method_22_code (1 : Nat) (Option.some (Jvm.ClassFile.FieldType.object "java/lang/Integer"))).before args0 about1 = true := code_word (m := ⟨8, 0⟩) (meth := k8m0) (c := k8c0) (by decide +kernel) rfl rfl rfl (by decide +kernel)
set_option maxRecDepth 65536 in
theorem w_c5 : (Jvm.Cond.code ({ cls := "java/lang/Integer", name := "<init>", desc := "(I)V" } : Jvm.MethodName) jdk_33_method_23_code (2 : Nat) (Option.none : Option Jvm.ClassFile.FieldType)).before args0 about1 = true := code_word (m := ⟨8, 1⟩) (meth := k8m1) (c := k8c1) (by decide +kernel) rfl rfl rfl (by decide +kernel)
set_option maxRecDepth 65536 in
theorem w_c6 : (Jvm.Cond.code ({ cls := "java/lang/Number", name := "<init>", desc := "()V" } : Jvm.MethodName) jdk_18_method_1_code (1 : Nat) (Option.none : Option Jvm.ClassFile.FieldType)).before args0 about1 = true := code_word (m := ⟨4, 0⟩) (meth := k4m0) (c := k4c0) (by decide +kernel) rfl rfl rfl (by decide +kernel)
def codes1 : List Jvm.Cond := [Jvm.Cond.code x code maxLocals ret, Jvm.Cond.code ({ cls := "com/example/rectwire/rectwire/protocol/Rectangle", name := "<init>", desc := "(IIII)V" } : Jvm.MethodName) prog_29_method_1_code (5 : Nat) (Option.none : Option Jvm.ClassFile.FieldType), Jvm.Cond.code ({ cls := "java/lang/Object", name := "<init>", desc := "()V" } : Jvm.MethodName) object_method_1_code (1 : Nat) (Option.none : Option Jvm.ClassFile.FieldType), Jvm.Cond.code ({ cls := "com/example/rectwire/rectwire/protocol/Rectangle", name := "equals", desc := "(Ljava/lang/Object;)Z" } : Jvm.MethodName) prog_29_method_14_code (3 : Nat) (Option.some Jvm.ClassFile.FieldType.boolean), Jvm.Cond.code ({ cls := "java/lang/Integer", name := "valueOf", desc := "(I)Ljava/lang/Integer;" } : Jvm.MethodName) jdk_33_method_22_code (1 : Nat) (Option.some (Jvm.ClassFile.FieldType.object "java/lang/Integer")), Jvm.Cond.code ({ cls := "java/lang/Integer", name := "<init>", desc := "(I)V" } : Jvm.MethodName) jdk_33_method_23_code (2 : Nat) (Option.none : Option Jvm.ClassFile.FieldType), Jvm.Cond.code ({ cls := "java/lang/Number", name := "<init>", desc := "()V" } : Jvm.MethodName) jdk_18_method_1_code (1 : Nat) (Option.none : Option Jvm.ClassFile.FieldType)]
set_option maxRecDepth 65536 in
theorem codes_eq : words1.filter isCode = codes1 := rfl
theorem w_codes : ∀ c ∈ words1.filter isCode, c.before args0 about1 = true := by
  rw [codes_eq]
  intro c hc
  simp only [codes1, List.mem_cons, List.not_mem_nil, or_false] at hc
  rcases hc with rfl | rfl | rfl | rfl | rfl | rfl | rfl
  · exact w_c0
  · exact w_c1
  · exact w_c2
  · exact w_c3
  · exact w_c4
  · exact w_c5
  · exact w_c6
set_option maxRecDepth 65536 in
theorem w_t1 : (words1.take 24).all (fun c => isCode c || c.before args0 about1) = true := by decide +kernel
set_option maxRecDepth 65536 in
theorem w_t2 : ((words1.drop 24).take 24).all (fun c => isCode c || c.before args0 about1) = true := by decide +kernel
set_option maxRecDepth 65536 in
theorem w_t3 : ((words1.drop 24).drop 24).all (fun c => isCode c || c.before args0 about1) = true := by decide +kernel
theorem w_tables : (allAtoms (Jvm.Cond.code x code maxLocals ret :: tables_1)).before args0 about1 = true := by
  rw [allAtoms_all]
  show words1.all (fun c => c.before args0 about1) = true
  refine all_split ?_ w_codes
  rw [← List.take_append_drop 24 words1, List.all_append, w_t1, ← List.take_append_drop 24 (words1.drop 24), List.all_append, w_t2, w_t3]
  rfl
set_option maxRecDepth 65536 in
theorem w_rest : rest_1_c.before args0 about1 = true := by decide +kernel
set_option maxRecDepth 65536 in
theorem w_case : (Jvm.Cond.and given_1 narrow_1).before args0 about1 = true := by decide +kernel
theorem w_applies : (headSpec (Jvm.Cond.code x code maxLocals ret :: tables_1) room_1).applies x e0.platform about1 = true :=
  (Spec.applies_iff w_frames).mpr ⟨w_running, w_runnable, w_alone, w_named, w_hears, w_ripe, w_room, w_tables⟩
theorem atStart : AtStart classFile x code maxLocals ret World_1 tables_1 room_1 Calls_1 rest_1 Pre_1 launch0 p0 e0 about1 theMethod args0 below0 :=
  ⟨lists_1, trivial, launch0.admits_env _ _ _, launch0.least_env, fairChoices_fair.cas, fairChoices_fair.clock, w_frames, w_args, w_heap, w_applies, trivial, w_rest, w_case⟩
end start1
theorem witness_1 : WitnessClaimed_1 := ⟨start1.p0, start1.e0, start1.about1, start1.theMethod, start1.args0, start1.below0, start1.atStart⟩
end Jvm.Pilot.@@N@@
